import JvmDerived
import JvmDerived.Pilot.@@N@@Statement
import JvmDerived.Pilot.@@N@@Code
set_option linter.unusedVariables false
set_option linter.unusedSimpArgs false
namespace Jvm.OwnKit
open Sem ClassFile Op Lib Jvm.Stand Jvm.Free Jvm.LawKit Jvm.RoadKit
/-! A small layer of my own over the library's laws: 'Goes': from this frame the body comes to its end; each law turned so that it reads backwards. -/
def Goes (tb : Tables) (e : Env) (below : List Frame) (Φ : Outcome → State → Prop) (T : State) (f : JFrame) : Prop :=
  ∃ s₂ o, Steps tb e below (T.setTop f) s₂ ∧ s₂.status = .running ∧ Ended s₂ below o ∧ Φ o s₂
def Fine (s : State) (n0 : Nat) (Q : Option Value → Heap → Prop) (rc rs : Nat) (o : Outcome) (U : State) : Prop :=
  ∃ v L, o = .returned v ∧ (Fr n0 L ∧ Q v U.heap) ∧ FrameEnd s o U L rc rs
def Base (p : Program) (s : State) (m : MethodId) (meth : Method) (c : Code) (Z : State) (y : MethodName) (bytes : ByteArray) (maxL : Nat) (ret : Option FieldType) : Prop :=
  p.tables.exec = Jvm.exec ∧ Z.Warmed39 s.vm ∧ c.code = bytes ∧ c.maxLocals = maxL ∧ s.vm.findClass y.cls = some m.cls ∧ meth.name = y.name ∧ meth.sig.returnType = ret ∧ meth.locks = false
def Sd (p : Program) (l : Launch) (e : Env) (R : Room) (s : State) (m : MethodId) (args : Array Value) (below : List Frame) (meth : Method) (c : Code) (T : State) (h : Heap) (n0 cells slots : Nat) : Prop :=
  ∃ locs, Stand p l e R s m args below meth c T locs cells slots ∧ T.heap = h ∧ Fr n0 locs ∧ n0 ≤ s.heap.size
def Con (l : Launch) (Z : State) (y : MethodName) (bytes : ByteArray) (maxL : Nat) (ret : Option FieldType) (rm : Room) (as' : Array Value) (h0 : Heap) (n0 : Nat) (Q : Option Value → Heap → Prop) : Prop :=
  n0 ≤ h0.size → ∀ ws : List Cond, MetFree l y (head1 (Cond.code y bytes maxL ret :: ws) rm) (fun a U => a = as' ∧ Z.Warmed39 U.vm ∧ U.heap = h0) (fun _ _ _ _ _ => True) (fun _ U o U' => ∃ v L, o = .returned v ∧ (Fr n0 L ∧ Q v U'.heap) ∧ FrameEnd U o U' L rm.cells rm.slots)
/-! a condition as 1 or 0 -/
def bi (P : Prop) [Decidable P] : Int32 := if P then 1 else 0
theorem bi_pos {P : Prop} [Decidable P] (h : P) : bi P = 1 := if_pos h
theorem bi_neg {P : Prop} [Decidable P] (h : ¬ P) : bi P = 0 := if_neg h
theorem bi_ne {P : Prop} [Decidable P] (h : P) : ¬ bi P = 0 := by rw [bi_pos h]; decide
theorem bi_congr {P P' : Prop} [Decidable P] [Decidable P'] (h : P ↔ P') : bi P = bi P' := by by_cases q : P <;> simp [bi, q, h.mp, ← h]
theorem bi_one {P : Prop} [Decidable P] : bi P = 1 ↔ P := by by_cases q : P <;> simp [bi, q]
theorem bi_zero {P : Prop} [Decidable P] : bi P = 0 ↔ ¬ P := by by_cases q : P <;> simp [bi, q]
theorem bi_inj {P P' : Prop} [Decidable P] [Decidable P'] : bi P = bi P' ↔ (P ↔ P') := by by_cases q : P <;> by_cases q' : P' <;> simp [bi, q, q']
theorem bi_or {P : Prop} [Decidable P] : bi P = 0 ∨ bi P = 1 := by by_cases q : P <;> simp [bi, q]
theorem nar_bi {P : Prop} [Decidable P] : nar .boolean (bi P) = bi P := by by_cases q : P <;> simp [bi, q, nar]
theorem fits_bi {P : Prop} [Decidable P] : fits .boolean (.int (bi P)) = true := by by_cases q : P <;> simp [bi, q] <;> decide
theorem narrow_bi {P : Prop} [Decidable P] : narrow .boolean (.int (bi P)) = .int (bi P) := by by_cases q : P <;> simp [bi, q] <;> rfl
section Lay
variable {p : Program} {l : Launch} {e : Env} {R : Room} {s : State} {m : MethodId} {args : Array Value} {below : List Frame} {meth : Method} {c : Code} {T : State} {h : Heap} {n0 cells slots : Nat} {Z : State} {a0 : Array Value} {Φ : Outcome → State → Prop} {y0 : MethodName} {bytes0 : ByteArray} {maxL0 : Nat} {ret0 : Option FieldType} {pc : Nat} {Ls : Array Slot} {st rest : List Value}
theorem Goes.go {tb : Tables} {T' : State} {f f' : JFrame} (k : ∀ t, Steps tb e below (T'.setTop f') t → Steps tb e below (T.setTop f) t) (g : Goes tb e below Φ T' f') : Goes tb e below Φ T f := by
  obtain ⟨s2, o, h1, h2⟩ := g
  exact ⟨s2, o, k _ h1, h2⟩
theorem Goes.dia {tb : Tables} {P : Prop} [Decidable P] {f : JFrame} {mk : Int32 → JFrame} (h1 : P → Goes tb e below Φ T (mk 1) → Goes tb e below Φ T f) (h0 : ¬ P → Goes tb e below Φ T (mk 0) → Goes tb e below Φ T f) (k : Goes tb e below Φ T (mk (bi P))) : Goes tb e below Φ T f := by
  by_cases q : P
  · rw [bi_pos q] at k; exact h1 q k
  · rw [bi_neg q] at k; exact h0 q k
theorem Goes.cast {tb : Tables} {f f' : JFrame} (q : f = f') (g : Goes tb e below Φ T f') : Goes tb e below Φ T f := q ▸ g
theorem Sd.here (S : Sd p l e R s m args below meth c T h n0 cells slots) : At T m c below := by obtain ⟨_, X, -⟩ := S; exact X.here
theorem Sd.le (S : Sd p l e R s m args below meth c T h n0 cells slots) : n0 ≤ h.size := by
  obtain ⟨_, X, e, -, q⟩ := S
  have h1 := X.same.2.1
  have h2 : s.heap.size ≤ T.heap.size := h1
  rw [e] at h2
  exact Nat.le_trans q h2
theorem Base.x (B : Base p s m meth c Z y0 bytes0 maxL0 ret0) : p.tables.exec = Jvm.exec := B.1
theorem Base.d (B : Base p s m meth c Z y0 bytes0 maxL0 ret0) {r : Except DecodeError (Instr × Nat)} (hd : decode bytes0 pc = r) : decode c.code pc = r := B.2.2.1 ▸ hd
theorem Con.body {y : MethodName} {bytes : ByteArray} {maxL : Nat} {ret : Option FieldType} {rm : Room} {as' : Array Value} {h0 : Heap} {Q : Option Value → Heap → Prop} (hpl : plainFor y = true)
    (k : ∀ (p : Program) (e : Env) (s : State) (m : MethodId) (below : List Frame) (meth : Method) (c : Code) (T : State), Base p s m meth c Z y bytes maxL ret → Sd p l e rm s m as' below meth c T h0 n0 0 0 → Goes p.tables e below (Fine s n0 Q rm.cells rm.slots) T (entryFrame m as' maxL)) :
    Con l Z y bytes maxL ret rm as' h0 n0 Q := by
  intro hn ws
  refine MetFree.of_bodySF hpl hisR ?_
  intro p e s m args below meth c s₁ Bd hml0 hP hK
  obtain ⟨rfl, hZ, hh⟩ := hP
  have e0 : s₁.heap = h0 := by rw [← hh, Bd.state]; rfl
  exact k p e s m below meth c s₁ ⟨Bd.exec, hZ, Bd.bytes, hml0, findClass_of_methodNamed Bd.named, (name_of_methodNamed Bd.named Bd.method).1, Bd.returns, Bd.notSynchronized⟩ ⟨[], Stand.of_body Bd, e0, Fr.nil n0, by rw [hh]; exact hn⟩
theorem Goes.acmp {cd : ACond} {x y : Value} {o : Int} {pc' : Nat} {same : Bool} (S : Sd p l e R s m args below meth c T h n0 cells slots) (B : Base p s m meth c Z y0 bytes0 maxL0 ret0) (h1 : x.isRef = true) (h2 : y.isRef = true) (hd : decode bytes0 pc = .ok (.if_acmp cd o, 3)) (hq : decide (x = y) = same) (ho : 0 ≤ (pc : Int) + o) (hp : pc' = if acV cd same = true then ((pc : Int) + o).toNat else pc + 3)
    (k : Goes p.tables e below Φ T (mkF m pc' Ls rest)) : Goes p.tables e below Φ T (mkF m pc Ls (y :: x :: rest)) := by
  obtain ⟨locs, X, eT, N, hn⟩ := S
  exact Goes.go (fun t => RoadKit.acmp X B.1 (g := mkF m pc Ls (y :: x :: rest)) rfl h1 h2 (pc0 := pc) (pc' := pc') (same := same) rfl (B.d hd) rfl hq ho hp) k
theorem Goes.pop2L {z : Int64} (S : Sd p l e R s m args below meth c T h n0 cells slots) (B : Base p s m meth c Z y0 bytes0 maxL0 ret0) (hd : decode bytes0 pc = .ok (.pop2, 1)) (k : Goes p.tables e below Φ T (mkF m (pc + 1) Ls rest)) : Goes p.tables e below Φ T (mkF m pc Ls (.long z :: rest)) := by
  obtain ⟨locs, X, eT, N, hn⟩ := S
  refine Goes.go (fun t kk => ?_) k
  have hx := B.1
  have hd' := B.d hd
  show Steps p.tables e below (T.setTop { method := m, pc := pc, locals := Ls, stack := _ :: rest, locked := none }) _
  jvm_step X.here [X.here.top, hx, hd', Value.category]
  exact kk
theorem Goes.irem {x y : Int32} (S : Sd p l e R s m args below meth c T h n0 cells slots) (B : Base p s m meth c Z y0 bytes0 maxL0 ret0) (hd : decode bytes0 pc = .ok (.irem, 1)) (hy : y ≠ 0) (k : Goes p.tables e below Φ T (mkF m (pc + 1) Ls (.int (x % y) :: rest))) : Goes p.tables e below Φ T (mkF m pc Ls (.int y :: .int x :: rest)) := by
  obtain ⟨locs, X, eT, N, hn⟩ := S
  exact Goes.go (fun t => RoadKit.iremM X B.1 (g := mkF m pc Ls (.int y :: .int x :: rest)) rfl (B.d hd) rfl hy) k
theorem Goes.lrem {x y : Int64} (S : Sd p l e R s m args below meth c T h n0 cells slots) (B : Base p s m meth c Z y0 bytes0 maxL0 ret0) (hd : decode bytes0 pc = .ok (.lrem, 1)) (hy : y ≠ 0) (k : Goes p.tables e below Φ T (mkF m (pc + 1) Ls (.long (x % y) :: rest))) : Goes p.tables e below Φ T (mkF m pc Ls (.long y :: .long x :: rest)) := by
  obtain ⟨locs, X, eT, N, hn⟩ := S
  refine Goes.go (fun t kk => XS.lrem X.here B.1 (g := mkF m pc Ls (.long y :: .long x :: rest)) rfl (B.d hd) rfl hy ?_) k
  rw [lrem_mod]
  exact kk
/-! the ends -/
section Ends
variable {Q : Option Value → Heap → Prop} {rc rs : Nat}
theorem Goes.retV (S : Sd p l e R s m args below meth c T h n0 cells slots) (B : Base p s m meth c Z y0 bytes0 maxL0 none) (hd : decode bytes0 pc = .ok (.return_, 1)) (hc : cells ≤ rc) (hs : slots ≤ rs) (hq : Q none h) :
    Goes p.tables e below (Fine s n0 Q rc rs) T (mkF m pc Ls []) := by
  obtain ⟨locs, X, eT, N, -⟩ := S
  obtain ⟨fs, hr, hrun, hended, hW, hsame⟩ := X.leave (v := none) (fun _ => rfl) B.2.2.2.2.2.2.2
  subst eT
  exact ⟨_, _, X.returnOut B.1 B.2.2.2.2.2.2.1 (B.d hd) hr, hrun, hended, _, _, rfl, ⟨N, hq⟩, ⟨_, rfl⟩, hW, hsame.mono hc hs⟩
theorem Goes.retN {t : FieldType} {z : Int32} (S : Sd p l e R s m args below meth c T h n0 cells slots) (B : Base p s m meth c Z y0 bytes0 maxL0 (some t)) (ht : t = .boolean ∨ t = .byte ∨ t = .char ∨ t = .short) (hd : decode bytes0 pc = .ok (.ireturn, 1)) (hc : cells ≤ rc) (hs : slots ≤ rs) (hq : Q (some (.int (nar t z))) h) :
    Goes p.tables e below (Fine s n0 Q rc rs) T (mkF m pc Ls (.int z :: rest)) := by
  obtain ⟨locs, X, eT, N, -⟩ := S
  obtain ⟨fs, hr, hrun, hended, hW, hsame⟩ := X.leave (v := some (.int (nar t z))) (fun h => by rw [B.2.2.2.2.2.2.1] at h; cases h) B.2.2.2.2.2.2.2
  subst eT
  exact ⟨_, _, RoadKit.retN X B.1 B.2.2.2.2.2.2.1 ht (B.d hd) hr, hrun, hended, _, _, rfl, ⟨N, hq⟩, ⟨_, rfl⟩, hW, hsame.mono hc hs⟩
theorem Goes.retI {z : Int32} (S : Sd p l e R s m args below meth c T h n0 cells slots) (B : Base p s m meth c Z y0 bytes0 maxL0 (some .int)) (hd : decode bytes0 pc = .ok (.ireturn, 1)) (hc : cells ≤ rc) (hs : slots ≤ rs) (hq : Q (some (.int z)) h) :
    Goes p.tables e below (Fine s n0 Q rc rs) T (mkF m pc Ls (.int z :: rest)) := by
  obtain ⟨locs, X, eT, N, -⟩ := S
  obtain ⟨fs, hr, hrun, hended, hW, hsame⟩ := X.leave (v := some (.int z)) (fun h => by rw [B.2.2.2.2.2.2.1] at h; cases h) B.2.2.2.2.2.2.2
  subst eT
  refine ⟨_, _, ?_, hrun, hended, _, _, rfl, ⟨N, hq⟩, ⟨_, rfl⟩, hW, hsame.mono hc hs⟩
  have hm' : T.vm.method? m = some meth := X.method'
  have hn : narrow .int (.int z) = .int z := rfl
  have hx := B.1
  have hret := B.2.2.2.2.2.2.1
  have hd' := B.d hd
  show Steps p.tables e below (T.setTop { method := m, pc := pc, locals := Ls, stack := _ :: rest, locked := none }) _
  jvm_step X.here [X.here.top, hx, hd', hm', hret, hn]
  first | (intro acts; rw [hr _ acts rfl rfl rfl]) | rw [hr _ _ rfl rfl rfl]
  exact Steps.refl _
theorem Goes.retL {z : Int64} (S : Sd p l e R s m args below meth c T h n0 cells slots) (B : Base p s m meth c Z y0 bytes0 maxL0 (some .long)) (hd : decode bytes0 pc = .ok (.lreturn, 1)) (hc : cells ≤ rc) (hs : slots ≤ rs) (hq : Q (some (.long z)) h) :
    Goes p.tables e below (Fine s n0 Q rc rs) T (mkF m pc Ls (.long z :: rest)) := by
  obtain ⟨locs, X, eT, N, -⟩ := S
  obtain ⟨fs, hr, hrun, hended, hW, hsame⟩ := X.leave (v := some (.long z)) (fun h => by rw [B.2.2.2.2.2.2.1] at h; cases h) B.2.2.2.2.2.2.2
  subst eT
  refine ⟨_, _, ?_, hrun, hended, _, _, rfl, ⟨N, hq⟩, ⟨_, rfl⟩, hW, hsame.mono hc hs⟩
  have hm' : T.vm.method? m = some meth := X.method'
  have hx := B.1
  have hret := B.2.2.2.2.2.2.1
  have hd' := B.d hd
  show Steps p.tables e below (T.setTop { method := m, pc := pc, locals := Ls, stack := _ :: rest, locked := none }) _
  jvm_step X.here [X.here.top, hx, hd', hm', hret, narrow]
  first | (intro acts; rw [hr _ acts rfl rfl rfl]) | rw [hr _ _ rfl rfl rfl]
  exact Steps.refl _
theorem Goes.retA {b : Addr} {t : FieldType} (S : Sd p l e R s m args below meth c T h n0 cells slots) (B : Base p s m meth c Z y0 bytes0 maxL0 (some t)) (ht : t.isReference = true) (hd : decode bytes0 pc = .ok (.areturn, 1)) (hc : cells ≤ rc) (hs : slots ≤ rs) (hq : Q (some (.ref b)) h) :
    Goes p.tables e below (Fine s n0 Q rc rs) T (mkF m pc Ls (.ref b :: rest)) := by
  obtain ⟨locs, X, eT, N, -⟩ := S
  obtain ⟨fs, hr, hrun, hended, hW, hsame⟩ := X.leave (v := some (.ref b)) (fun h => by rw [B.2.2.2.2.2.2.1] at h; cases h) B.2.2.2.2.2.2.2
  subst eT
  refine ⟨_, _, ?_, hrun, hended, _, _, rfl, ⟨N, hq⟩, ⟨_, rfl⟩, hW, hsame.mono hc hs⟩
  have hm' : T.vm.method? m = some meth := X.method'
  have hx := B.1
  have hret := B.2.2.2.2.2.2.1
  have hd' := B.d hd
  show Steps p.tables e below (T.setTop { method := m, pc := pc, locals := Ls, stack := _ :: rest, locked := none }) _
  jvm_step X.here [X.here.top, hx, hd', hm', hret, Value.isRef, ht]
  first | (intro acts; rw [hr _ acts rfl rfl rfl]) | rw [hr _ _ rfl rfl rfl]
  exact Steps.refl _
end Ends
/-! fields and objects -/
theorem Goes.getF {O n d : String} {index : Nat} {a : Addr} {v : Value} (S : Sd p l e R s m args below meth c T h n0 cells slots) (B : Base p s m meth c Z y0 bytes0 maxL0 ret0) (w : (Cond.fieldLink y0.cls index O n d).before a0 Z = true) (F : Fld Z h a O n d v) (hd : decode bytes0 pc = .ok (.getfield index, 3))
    (k : ∀ T', Sd p l e R s m args below meth c T' h n0 cells slots → Goes p.tables e below Φ T' (mkF m (pc + 3) Ls (v :: rest))) : Goes p.tables e below Φ T (mkF m pc Ls (.ref a :: rest)) := by
  obtain ⟨locs, X, eT, N, hn⟩ := S
  obtain ⟨T', X', e', stp⟩ := RoadKit.getF X B.1 B.2.1 B.2.2.2.2.1 (host := "") (Or.inl w) Via.refl eT F (g := mkF m pc Ls (.ref a :: rest)) rfl rfl (B.d hd)
  exact Goes.go stp (k T' ⟨locs, X', e', N, hn⟩)
theorem Goes.putF {O n d C : String} {index kk : Nat} {ty : FieldType} {a : Addr} {v v' old : Value} (S : Sd p l e R s m args below meth c T h n0 cells slots) (B : Base p s m meth c Z y0 bytes0 maxL0 ret0) (w : (Cond.fieldLink y0.cls index O n d).before a0 Z = true) (F : Fld Z h a O n d old) (E : Exa Z h a C)
    (L : (Cond.lays C O n d).before a0 Z = true ∨ ((Cond.laysFinal C O n d).before a0 Z = true ∧ y0.cls = O ∧ y0.name = "<init>")) (wi : (Cond.instantiable C kk).before a0 Z = true) (hty : parseFieldDescriptor d = some ty) (hnr : narrow ty v = v') (hf : fits ty v' = true) (ga : n0 ≤ a) (hd : decode bytes0 pc = .ok (.putfield index, 3))
    (k : ∀ T' h', Sd p l e R s m args below meth c T' h' n0 cells slots → Wr h h' a (RoadKit.slotOf Z O n d) v' → Goes p.tables e below Φ T' (mkF m (pc + 3) Ls rest)) : Goes p.tables e below Φ T (mkF m pc Ls (v :: .ref a :: rest)) := by
  obtain ⟨locs, X, eT, N, hn⟩ := S
  obtain ⟨T', h', X', e', W, stp⟩ := RoadKit.putFN X B.1 B.2.1 B.2.2.2.2.1 w Via.refl eT F E (L.imp id fun q => ⟨q.1, q.2.1, B.2.2.2.2.2.1.trans q.2.2⟩) wi hty hnr hf (g := mkF m pc Ls (v :: .ref a :: rest)) rfl rfl (B.d hd)
  exact Goes.go stp (k T' h' ⟨_, X', e', Fr.snoc X' N ga, hn⟩ W)
theorem Goes.newO {C : String} {index nn : Nat} (S : Sd p l e R s m args below meth c T h n0 cells slots) (B : Base p s m meth c Z y0 bytes0 maxL0 ret0) (w : (Cond.classLink y0.cls index C).before a0 Z = true) (wi : (Cond.instantiable C nn).before a0 Z = true) (wz : (Cond.initialized C).before a0 Z = true) (hd : decode bytes0 pc = .ok (.new index, 3)) (hc : cells + 1 ≤ R.cells) (hl : slots + nn ≤ R.slots)
    (k : ∀ T' h' b, Sd p l e R s m args below meth c T' h' n0 (cells + 1) (slots + nn) → Ext h h' → b = h.size → n0 ≤ b → Exa Z h' b C → (∀ {O nm d : String} {ty : FieldType}, Laid Z a0 C O nm d → parseFieldDescriptor d = some ty → Fld Z h' b O nm d (defaultValue ty)) → Goes p.tables e below Φ T' (mkF m (pc + 3) Ls (.ref b :: st))) :
    Goes p.tables e below Φ T (mkF m pc Ls st) := by
  have hle := S.le
  obtain ⟨locs, X, eT, N, hn⟩ := S
  obtain ⟨T', h', X', e', E, A, D, -, stp⟩ := RoadKit.newO X B.1 B.2.1 B.2.2.2.2.1 w wi wz eT (g := mkF m pc Ls st) rfl (B.d hd) hc hl
  exact Goes.go stp (k T' h' h.size ⟨locs, X', e', N, hn⟩ E rfl hle A D)
theorem Goes.initO {index : Nat} {a : Addr} {W : Nat} (S : Sd p l e R s m args below meth c T h n0 cells slots) (B : Base p s m meth c Z y0 bytes0 maxL0 ret0) (w1 : (Cond.methodLink y0.cls index Lib.objectInit).before a0 Z = true) (w2 : (Cond.instanceMethod Lib.objectInit).before a0 Z = true) (w3 : (Cond.code Lib.objectInit ⟨#[0xb1]⟩ 1 none).before a0 Z = true)
    (hd : decode bytes0 pc = .ok (.invokespecial index, 3)) (hsz : Ls.size = maxL0) (hf : 1 ≤ R.frames) (hW : 2 * 0 + (rest.map fun v => v.category).sum ≤ W) (hl : W + 12 ≤ R.locals)
    (k : ∀ T', Sd p l e R s m args below meth c T' h n0 cells slots → Goes p.tables e below Φ T' (mkF m (pc + 3) Ls rest)) : Goes p.tables e below Φ T (mkF m pc Ls (.ref a :: rest)) := by
  obtain ⟨locs, X, eT, N, hn⟩ := S
  obtain ⟨T', X', e', stp⟩ := RoadKit.initO X B.1 B.2.1 B.2.2.2.2.1 w1 w2 w3 eT (g := mkF m pc Ls (.ref a :: rest)) rfl (by rw [B.2.2.2.1]; exact hsz) rfl (B.d hd) hf hW hl
  exact Goes.go stp (k T' ⟨locs, X', e', N, hn⟩)
theorem Goes.ldcI {index : Nat} {v : Int32} (S : Sd p l e R s m args below meth c T h n0 cells slots) (B : Base p s m meth c Z y0 bytes0 maxL0 ret0) (w : (Cond.constant y0.cls index v).before a0 Z = true) (hd : decode bytes0 pc = .ok (.ldc index, 2)) (k : Goes p.tables e below Φ T (mkF m (pc + 2) Ls (.int v :: st))) : Goes p.tables e below Φ T (mkF m pc Ls st) := by
  obtain ⟨locs, X, eT, N, hn⟩ := S
  exact Goes.go (X.ldcInt B.1 B.2.2.2.2.1 (mvT B.2.1 w) (g := mkF m pc Ls st) rfl (B.d hd)) k
theorem Goes.ldcL {index : Nat} {v : Int64} (S : Sd p l e R s m args below meth c T h n0 cells slots) (B : Base p s m meth c Z y0 bytes0 maxL0 ret0) (w : (Cond.constantLong y0.cls index v).before a0 Z = true) (hd : decode bytes0 pc = .ok (.ldc2_w index, 3)) (k : Goes p.tables e below Φ T (mkF m (pc + 3) Ls (.long v :: st))) : Goes p.tables e below Φ T (mkF m pc Ls st) := by
  obtain ⟨locs, X, eT, N, hn⟩ := S
  exact Goes.go (X.ldc2Long B.1 B.2.2.2.2.1 (mvT B.2.1 w) (g := mkF m pc Ls st) rfl (B.d hd)) k
/-! calls -/
section Calls
variable {y : MethodName} {bytes : ByteArray} {maxL : Nat} {ret : Option FieldType} {rm : Room} {index W : Nat} {argsL : List Value} {Q : Option Value → Heap → Prop}
theorem Con.back {as' : Array Value} {len : Nat} (C : Con l Z y bytes maxL ret rm as' h n0 Q) (hn : n0 ≤ h.size) (hZ : Z.Warmed39 s.vm) (wc : (Cond.code y bytes maxL ret).before a0 Z = true) (wz : (Cond.initialized y.cls).before a0 Z = true) (hf : rm.frames + 1 ≤ R.frames) (hl : W + (maxL + 11) + rm.locals ≤ R.locals) :
    Back l R p e below s args y len W (fun A a => a = as' ∧ A.U.heap = h ∧ A.cells + rm.cells ≤ R.cells ∧ A.slots + rm.slots ≤ R.slots)
      (fun A _ v B => ∃ L, (Fr n0 L ∧ Q v B.U.heap) ∧ B.locs = A.locs ++ L ∧ B.cells = A.cells + rm.cells ∧ B.slots = A.slots + rm.slots) :=
  backOf (Q := fun v h L => Fr n0 L ∧ Q v h) (C hn []) hZ wc wz hf hl
theorem Goes.callS (S : Sd p l e R s m args below meth c T h n0 cells slots) (B : Base p s m meth c Z y0 bytes0 maxL0 ret0) (C : Con l Z y bytes maxL ret rm argsL.toArray h n0 Q) (wl : (Cond.methodLink y0.cls index y).before a0 Z = true) (ws : (Cond.static y).before a0 Z = true) (wi : (Cond.initialized y.cls).before a0 Z = true) (wc : (Cond.code y bytes maxL ret).before a0 Z = true)
    (hy : y.cls ≠ "java/lang/invoke/MethodHandle" ∧ y.cls ≠ "java/lang/invoke/VarHandle") (hf : rm.frames + 1 ≤ R.frames) (hlo : W + (maxL + 11) + rm.locals ≤ R.locals) (hc : cells + rm.cells ≤ R.cells) (hs : slots + rm.slots ≤ R.slots) (hsz : Ls.size = maxL0)
    (hlen : ∀ sig, parseMethodDescriptor y.desc = some sig → argsL.length = sig.parameters.length) (hst : st = argsL.reverse ++ rest) (hW : 2 * 0 + (rest.map fun v => v.category).sum ≤ W) (hd : decode bytes0 pc = .ok (.invokestatic index, 3))
    (k : ∀ v T' h', Sd p l e R s m args below meth c T' h' n0 (cells + rm.cells) (slots + rm.slots) → Q v h' → Goes p.tables e below Φ T' (mkF m (pc + 3) Ls (v.toList ++ rest))) : Goes p.tables e below Φ T (mkF m pc Ls st) := by
  have hle := S.le
  obtain ⟨locs, X, eT, N, hn⟩ := S
  subst hst
  obtain ⟨v, _, ⟨T', L', k', n'⟩, -, X', ⟨Lc, ⟨hN, hQ⟩, l1, y1, z1⟩, stp⟩ := Jvm.LawKit.callS X B.1 (y := y) B.2.2.2.2.1 (mvT B.2.1 wl) (mvT B.2.1 ws) (mvT B.2.1 wi) (mvT B.2.1 wc) hy (Con.back (W := W) C hle B.2.1 wc wi hf hlo) (g := mkF m pc Ls (argsL.reverse ++ rest)) rfl (by rw [B.2.2.2.1]; exact hsz) (argsL := argsL) (rest := rest) hlen rfl hW (B.d hd) (fun _ _ => ⟨rfl, eT, hc, hs⟩)
  dsimp only [Pt.U, Pt.locs, Pt.cells, Pt.slots] at X' l1 y1 z1 stp hQ
  subst l1 y1 z1
  exact Goes.go stp (k v T' T'.heap ⟨_, X', rfl, N.app hN, hn⟩ hQ)
theorem Goes.callI {b : Addr} (S : Sd p l e R s m args below meth c T h n0 cells slots) (B : Base p s m meth c Z y0 bytes0 maxL0 ret0) (C : Con l Z y bytes maxL none rm (.ref b :: argsL).toArray h n0 Q) (wl : (Cond.methodLink y0.cls index y).before a0 Z = true) (wim : (Cond.instanceMethod y).before a0 Z = true) (wi : (Cond.initialized y.cls).before a0 Z = true) (wc : (Cond.code y bytes maxL none).before a0 Z = true)
    (hy : y.cls ≠ "java/lang/invoke/MethodHandle" ∧ y.cls ≠ "java/lang/invoke/VarHandle") (hni : y.name = "<init>") (hf : rm.frames + 1 ≤ R.frames) (hlo : W + (maxL + 11) + rm.locals ≤ R.locals) (hc : cells + rm.cells ≤ R.cells) (hs : slots + rm.slots ≤ R.slots) (hsz : Ls.size = maxL0)
    (hlen : ∀ sig, parseMethodDescriptor y.desc = some sig → argsL.length = sig.parameters.length) (hst : st = argsL.reverse ++ .ref b :: rest) (hW : 2 * 0 + (rest.map fun v => v.category).sum ≤ W) (hd : decode bytes0 pc = .ok (.invokespecial index, 3))
    (k : ∀ v T' h', Sd p l e R s m args below meth c T' h' n0 (cells + rm.cells) (slots + rm.slots) → Q v h' → Goes p.tables e below Φ T' (mkF m (pc + 3) Ls (v.toList ++ rest))) : Goes p.tables e below Φ T (mkF m pc Ls st) := by
  have hle := S.le
  obtain ⟨locs, X, eT, N, hn⟩ := S
  subst hst
  obtain ⟨v, _, ⟨T', L', k', n'⟩, -, X', ⟨Lc, ⟨hN, hQ⟩, l1, y1, z1⟩, stp⟩ := X.specialBack B.1 (y := y) hni B.2.2.2.2.1 (mvT B.2.1 wl) (mvT B.2.1 wim) (mvT B.2.1 wc) hy (Con.back (W := W) C hle B.2.1 wc wi hf hlo) (g := mkF m pc Ls (argsL.reverse ++ .ref b :: rest)) rfl (by rw [B.2.2.2.1]; exact hsz) (Steps.refl _) (a := b) (argsL := argsL) (rest := rest) hlen rfl hW (B.d hd) (fun _ _ => ⟨rfl, eT, hc, hs⟩)
  dsimp only [Pt.U, Pt.locs, Pt.cells, Pt.slots] at X' l1 y1 z1 stp hQ
  subst l1 y1 z1
  exact Goes.go (fun t q => stp.trans q) (k v T' T'.heap ⟨_, X', rfl, N.app hN, hn⟩ hQ)
theorem Goes.callV {b : Addr} {K : String} (S : Sd p l e R s m args below meth c T h n0 cells slots) (B : Base p s m meth c Z y0 bytes0 maxL0 ret0) (C : Con l Z y bytes maxL ret rm (.ref b :: argsL).toArray h n0 Q) (E : Exa Z h b K) (wl : (Cond.methodLink y0.cls index y).before a0 Z = true) (wd : (Cond.declares y).before a0 Z = true) (wsel : (Cond.selects K y y).before a0 Z = true) (wim : (Cond.instanceMethod y).before a0 Z = true) (wi : (Cond.initialized y.cls).before a0 Z = true) (wc : (Cond.code y bytes maxL ret).before a0 Z = true)
    (hy : y.cls ≠ "java/lang/invoke/MethodHandle" ∧ y.cls ≠ "java/lang/invoke/VarHandle") (hf : rm.frames + 1 ≤ R.frames) (hlo : W + (maxL + 11) + rm.locals ≤ R.locals) (hc : cells + rm.cells ≤ R.cells) (hs : slots + rm.slots ≤ R.slots) (hsz : Ls.size = maxL0)
    (hlen : ∀ sig, parseMethodDescriptor y.desc = some sig → argsL.length = sig.parameters.length) (hst : st = argsL.reverse ++ .ref b :: rest) (hW : 2 * 0 + (rest.map fun v => v.category).sum ≤ W) (hd : decode bytes0 pc = .ok (.invokevirtual index, 3))
    (k : ∀ v T' h', Sd p l e R s m args below meth c T' h' n0 (cells + rm.cells) (slots + rm.slots) → Q v h' → Goes p.tables e below Φ T' (mkF m (pc + 3) Ls (v.toList ++ rest))) : Goes p.tables e below Φ T (mkF m pc Ls st) := by
  have hle := S.le
  obtain ⟨locs, X, eT, N, hn⟩ := S
  subst hst
  obtain ⟨cq, kq, qa, qb, qc⟩ := isOf B.2.1 eT E
  obtain ⟨v, _, ⟨T', L', k', n'⟩, -, X', ⟨Lc, ⟨hN, hQ⟩, l1, y1, z1⟩, stp⟩ := X.virtualBack B.1 (y := y) (z := y) B.2.2.2.2.1 (mvT B.2.1 wl) (mvT B.2.1 wd) (notFace_of_selects (args := #[]) (mvT B.2.1 wsel)) (mvT B.2.1 wsel) (mvT B.2.1 wim) hy (Con.back (W := W) C hle B.2.1 wc wi hf hlo) qa qc (g := mkF m pc Ls (argsL.reverse ++ .ref b :: rest)) rfl (by rw [B.2.2.2.1]; exact hsz) (Steps.refl _) (argsL := argsL) (rest := rest) hlen rfl hW (B.d hd) (fun _ _ => ⟨rfl, eT, hc, hs⟩)
  dsimp only [Pt.U, Pt.locs, Pt.cells, Pt.slots] at X' l1 y1 z1 stp hQ
  subst l1 y1 z1
  exact Goes.go (fun t q => stp.trans q) (k v T' T'.heap ⟨_, X', rfl, N.app hN, hn⟩ hQ)
theorem Goes.callP {b : Addr} {K : String} (S : Sd p l e R s m args below meth c T h n0 cells slots) (B : Base p s m meth c Z y0 bytes0 maxL0 ret0) (C : Con l Z y bytes maxL ret rm (.ref b :: argsL).toArray h n0 Q) (E : Exa Z h b K) (wl : (Cond.methodLink y0.cls index y).before a0 Z = true) (wp : (Cond.privateMethod y).before a0 Z = true) {kk : Nat} (wk : (Cond.instantiable y.cls kk).before a0 Z = true) (wim : (Cond.instanceMethod y).before a0 Z = true) (wi : (Cond.initialized y.cls).before a0 Z = true) (wc : (Cond.code y bytes maxL ret).before a0 Z = true)
    (hy : y.cls ≠ "java/lang/invoke/MethodHandle" ∧ y.cls ≠ "java/lang/invoke/VarHandle") (hf : rm.frames + 1 ≤ R.frames) (hlo : W + (maxL + 11) + rm.locals ≤ R.locals) (hc : cells + rm.cells ≤ R.cells) (hs : slots + rm.slots ≤ R.slots) (hsz : Ls.size = maxL0)
    (hlen : ∀ sig, parseMethodDescriptor y.desc = some sig → argsL.length = sig.parameters.length) (hst : st = argsL.reverse ++ .ref b :: rest) (hW : 2 * 0 + (rest.map fun v => v.category).sum ≤ W) (hd : decode bytes0 pc = .ok (.invokevirtual index, 3))
    (k : ∀ v T' h', Sd p l e R s m args below meth c T' h' n0 (cells + rm.cells) (slots + rm.slots) → Q v h' → Goes p.tables e below Φ T' (mkF m (pc + 3) Ls (v.toList ++ rest))) : Goes p.tables e below Φ T (mkF m pc Ls st) := by
  have hle := S.le
  obtain ⟨locs, X, eT, N, hn⟩ := S
  subst hst
  obtain ⟨cq, q1, q2⟩ := E.cell
  have hpr : s.PrivateAt y := Cond.privateMethod_at (mvP B.2.1 wp (args := #[]))
  have wsel : (Cond.selects y.cls y y).before args s = true := by
    obtain ⟨ci, ki, i1, i2, i3, i4, -⟩ := Cond.instantiable_spec (mvT B.2.1 wk (args := args))
    exact selects_self_of_private i1 i2 (Bool.or_eq_false_iff.mp i4).1 hpr (mvT B.2.1 wim) hy
  obtain ⟨v, _, ⟨T', L', k', n'⟩, -, X', ⟨Lc, ⟨hN, hQ⟩, l1, y1, z1⟩, stp⟩ := X.privateBack B.1 (y := y) B.2.2.2.2.1 (mvT B.2.1 wl) (mvT B.2.1 wim) wsel hpr (mvT B.2.1 wc) hy (Con.back (W := W) C hle B.2.1 wc wi hf hlo) (g := mkF m pc Ls (argsL.reverse ++ .ref b :: rest)) rfl (by rw [B.2.2.2.1]; exact hsz) (Steps.refl _) (a := b) (by rw [eT]; exact q1) q2 (argsL := argsL) (rest := rest) hlen rfl hW (B.d hd) (fun _ _ => ⟨rfl, eT, hc, hs⟩)
  dsimp only [Pt.U, Pt.locs, Pt.cells, Pt.slots] at X' l1 y1 z1 stp hQ
  subst l1 y1 z1
  exact Goes.go (fun t q => stp.trans q) (k v T' T'.heap ⟨_, X', rfl, N.app hN, hn⟩ hQ)
end Calls
/-! arrays: what lies at each place, as a function -/
def Ary (Z : State) (h : Heap) (a : Addr) (ty : FieldType) (n : Nat) (f : Nat → Value) : Prop := ∃ c : Cell, Arr Z h a c ty ∧ c.slots.size = n ∧ n < 2 ^ 31 ∧ ∀ i, i < n → c.slots[i]? = some (f i)
def aup {α : Type} (f : Nat → α) (i : Nat) (v : α) : Nat → α := fun k => if k = i then v else f k
theorem aup_int (g : Nat → Int32) (k : Nat) (x : Int32) : aup (fun i => Value.int (g i)) k (.int x) = fun i => .int (aup g k x i) := by
  funext i
  simp only [aup]
  split <;> rfl
theorem aup_long (g : Nat → Int64) (k : Nat) (x : Int64) : aup (fun i => Value.long (g i)) k (.long x) = fun i => .long (aup g k x i) := by
  funext i
  simp only [aup]
  split <;> rfl
section Arrays
variable {a b : Addr} {ty : FieldType} {n : Nat} {f : Nat → Value} {h' : Heap} {j : Int32} {v : Value} {sl : Nat} {ws : List Addr}
theorem Ary.lt (A : Ary Z h a ty n f) : a < h.size := by obtain ⟨c, A, -⟩ := A; exact A.lt
theorem Ary.ext (A : Ary Z h a ty n f) (E : Ext h h') : Ary Z h' a ty n f := by obtain ⟨c, A, r⟩ := A; exact ⟨c, A.ext E, r⟩
theorem Ary.other (A : Ary Z h b ty n f) (W : Wr h h' a sl v) (q : b ≠ a) : Ary Z h' b ty n f := by obtain ⟨c, A, r⟩ := A; exact ⟨c, A.other W q, r⟩
theorem Ary.keep (A : Ary Z h a ty n f) (K : Keep h h' ws) (q : a ∉ ws) : Ary Z h' a ty n f := by obtain ⟨c, A, r⟩ := A; exact ⟨c, ⟨K.2.1 a c A.1 q, A.2⟩, r⟩
theorem Ary.cast {g : Nat → Value} (A : Ary Z h a ty n f) (q : ∀ i, i < n → f i = g i) : Ary Z h a ty n g := by obtain ⟨c, A, r1, r2, r3⟩ := A; exact ⟨c, A, r1, r2, fun i hi => by rw [r3 i hi, q i hi]⟩
theorem Ary.new {z : Int32} {k : ClassId} (A : Arr Z h a (newA k ty z) ty) (q : ¬ z < 0) : Ary Z h a ty z.toNatClampNeg (fun _ => defaultValue ty) :=
  ⟨_, A, sz_new _ _ _, (back32 q).2, fun i hi => by simp [newA, hi]⟩
theorem Ary.set {i : Nat} (A : Ary Z h a ty n f) (W : Wr h h' a i v) (hi : i < n) : Ary Z h' a ty n (aup f i v) := by
  obtain ⟨c, A, r1, r2, r3⟩ := A
  refine ⟨_, A.same W, by rw [sz_set]; exact r1, r2, fun k hk => ?_⟩
  by_cases e : k = i
  · subst e
    simp [aup, Cell.setSlot, r1, hi]
  · have e' : i ≠ k := fun q => e q.symm
    simp only [aup, if_neg e, Cell.setSlot]
    rw [Array.getElem?_setIfInBounds_ne e']
    exact r3 k hk
theorem Goes.newP {aty : ArrayType} {z : Int32} {cap : Nat} (S : Sd p l e R s m args below meth c T h n0 cells slots) (B : Base p s m meth c Z y0 bytes0 maxL0 ret0) (w : (Cond.arrayClass (newarray.typeOf aty)).before a0 Z = true) (hd : decode bytes0 pc = .ok (.newarray aty, 2)) (hz : ¬ z < 0) (hcap : z.toNatClampNeg ≤ cap) (hb : cap * 8 ≤ 536870912) (hc : cells + 1 ≤ R.cells) (hl : slots + cap ≤ R.slots)
    (k : ∀ T' h' b, Sd p l e R s m args below meth c T' h' n0 (cells + 1) (slots + cap) → Ext h h' → b = h.size → n0 ≤ b → Ary Z h' b (newarray.typeOf aty) z.toNatClampNeg (fun _ => defaultValue (newarray.typeOf aty)) → Goes p.tables e below Φ T' (mkF m (pc + 2) Ls (.ref b :: rest))) :
    Goes p.tables e below Φ T (mkF m pc Ls (.int z :: rest)) := by
  have hle := S.le
  obtain ⟨locs, X, eT, N, hn⟩ := S
  obtain ⟨T', h', k', X', e', E, A, stp⟩ := RoadKit.newP X B.1 B.2.1 w eT (g := mkF m pc Ls (.int z :: rest)) rfl (B.d hd) rfl hz hcap hb hc hl
  exact Goes.go stp (k T' h' h.size ⟨locs, X', e', N, hn⟩ E rfl hle (Ary.new A hz))
theorem Goes.iaload (S : Sd p l e R s m args below meth c T h n0 cells slots) (B : Base p s m meth c Z y0 bytes0 maxL0 ret0) (A : Ary Z h a .int n f) (q0 : ¬ j < 0) (q1 : j.toNatClampNeg < n) (hd : decode bytes0 pc = .ok (.iaload, 1)) (hv : f j.toNatClampNeg = v) (k : Goes p.tables e below Φ T (mkF m (pc + 1) Ls (v :: rest))) : Goes p.tables e below Φ T (mkF m pc Ls (.int j :: .ref a :: rest)) := by
  obtain ⟨locs, X, eT, N, hn⟩ := S
  obtain ⟨cl, A, r1, r2, r3⟩ := A
  exact Goes.go (X.iaload B.1 (j := j) (v := v) (by rw [eT]; exact A.1) (State.isArrayOf_alike B.2.1.alike A.2.1) A.2.2 (by rw [r1]; exact fun z => z.elim q0 (Nat.not_le.mpr q1)) (by rw [r3 _ q1, hv]) (g := mkF m pc Ls (.int j :: .ref a :: rest)) rfl rfl (B.d hd)) k
theorem Goes.laload (S : Sd p l e R s m args below meth c T h n0 cells slots) (B : Base p s m meth c Z y0 bytes0 maxL0 ret0) (A : Ary Z h a .long n f) (q0 : ¬ j < 0) (q1 : j.toNatClampNeg < n) (hd : decode bytes0 pc = .ok (.laload, 1)) (hv : f j.toNatClampNeg = v) (k : Goes p.tables e below Φ T (mkF m (pc + 1) Ls (v :: rest))) : Goes p.tables e below Φ T (mkF m pc Ls (.int j :: .ref a :: rest)) := by
  obtain ⟨locs, X, eT, N, hn⟩ := S
  obtain ⟨cl, A, r1, r2, r3⟩ := A
  exact Goes.go (X.laload B.1 (j := j) (v := v) (by rw [eT]; exact A.1) (State.isArrayOf_alike B.2.1.alike A.2.1) A.2.2 (by rw [r1]; exact fun z => z.elim q0 (Nat.not_le.mpr q1)) (by rw [r3 _ q1, hv]) (g := mkF m pc Ls (.int j :: .ref a :: rest)) rfl rfl (B.d hd)) k
theorem Goes.baload (S : Sd p l e R s m args below meth c T h n0 cells slots) (B : Base p s m meth c Z y0 bytes0 maxL0 ret0) (A : Ary Z h a .byte n f) (q0 : ¬ j < 0) (q1 : j.toNatClampNeg < n) (hd : decode bytes0 pc = .ok (.baload, 1)) (hv : f j.toNatClampNeg = v) (k : Goes p.tables e below Φ T (mkF m (pc + 1) Ls (v :: rest))) : Goes p.tables e below Φ T (mkF m pc Ls (.int j :: .ref a :: rest)) := by
  obtain ⟨locs, X, eT, N, hn⟩ := S
  obtain ⟨cl, A, r1, r2, r3⟩ := A
  exact Goes.go (X.baloadBytes B.1 (j := j) (v := v) (by rw [eT]; exact A.1) (State.isArrayOf_alike B.2.1.alike A.2.1) A.2.2 (by rw [r1]; exact fun z => z.elim q0 (Nat.not_le.mpr q1)) (by rw [r3 _ q1, hv]) (g := mkF m pc Ls (.int j :: .ref a :: rest)) rfl rfl (B.d hd)) k
theorem Goes.zaload (S : Sd p l e R s m args below meth c T h n0 cells slots) (B : Base p s m meth c Z y0 bytes0 maxL0 ret0) (A : Ary Z h a .boolean n f) (q0 : ¬ j < 0) (q1 : j.toNatClampNeg < n) (hd : decode bytes0 pc = .ok (.baload, 1)) (hv : f j.toNatClampNeg = v) (k : Goes p.tables e below Φ T (mkF m (pc + 1) Ls (v :: rest))) : Goes p.tables e below Φ T (mkF m pc Ls (.int j :: .ref a :: rest)) := by
  obtain ⟨locs, X, eT, N, hn⟩ := S
  obtain ⟨cl, A, r1, r2, r3⟩ := A
  exact Goes.go (X.baloadBooleans B.1 (j := j) (v := v) (by rw [eT]; exact A.1) (State.isArrayOf_alike B.2.1.alike A.2.1) A.2.2 (by rw [r1]; exact fun z => z.elim q0 (Nat.not_le.mpr q1)) (by rw [r3 _ q1, hv]) (g := mkF m pc Ls (.int j :: .ref a :: rest)) rfl rfl (B.d hd)) k
theorem Goes.alen (S : Sd p l e R s m args below meth c T h n0 cells slots) (B : Base p s m meth c Z y0 bytes0 maxL0 ret0) (A : Ary Z h a ty n f) {z : Int32} (hz : n.toInt32 = z) (hd : decode bytes0 pc = .ok (.arraylength, 1)) (k : Goes p.tables e below Φ T (mkF m (pc + 1) Ls (.int z :: rest))) : Goes p.tables e below Φ T (mkF m pc Ls (.ref a :: rest)) := by
  obtain ⟨locs, X, eT, N, hn⟩ := S
  obtain ⟨cl, A, r1, r2, r3⟩ := A
  subst r1 hz
  exact Goes.go (X.arraylength B.1 (by rw [eT]; exact A.1) (State.isArrayOf_alike B.2.1.alike A.2.1) (g := mkF m pc Ls (.ref a :: rest)) rfl rfl (B.d hd)) k
theorem Goes.iastore {x : Int32} (S : Sd p l e R s m args below meth c T h n0 cells slots) (B : Base p s m meth c Z y0 bytes0 maxL0 ret0) (A : Ary Z h a .int n f) (q0 : ¬ j < 0) (q1 : j.toNatClampNeg < n) (ga : n0 ≤ a) (hd : decode bytes0 pc = .ok (.iastore, 1))
    (k : ∀ T' h', Sd p l e R s m args below meth c T' h' n0 cells slots → Wr h h' a j.toNatClampNeg (.int x) → Ary Z h' a .int n (aup f j.toNatClampNeg (.int x)) → Goes p.tables e below Φ T' (mkF m (pc + 1) Ls rest)) : Goes p.tables e below Φ T (mkF m pc Ls (.int x :: .int j :: .ref a :: rest)) := by
  obtain ⟨locs, X, eT, N, hn⟩ := S
  have A' := A
  obtain ⟨cl, A, r1, r2, r3⟩ := A
  obtain ⟨T', h', X', e', W, stp⟩ := RoadKit.stI X B.1 B.2.1 eT A (j := j) (by rw [r1]; exact fun z => z.elim q0 (Nat.not_le.mpr q1)) (g := mkF m pc Ls (.int x :: .int j :: .ref a :: rest)) rfl rfl (B.d hd)
  exact Goes.go stp (k T' h' ⟨_, X', e', Fr.snoc X' N ga, hn⟩ W (A'.set W q1))
theorem Goes.lastore {x : Int64} (S : Sd p l e R s m args below meth c T h n0 cells slots) (B : Base p s m meth c Z y0 bytes0 maxL0 ret0) (A : Ary Z h a .long n f) (q0 : ¬ j < 0) (q1 : j.toNatClampNeg < n) (ga : n0 ≤ a) (hd : decode bytes0 pc = .ok (.lastore, 1))
    (k : ∀ T' h', Sd p l e R s m args below meth c T' h' n0 cells slots → Wr h h' a j.toNatClampNeg (.long x) → Ary Z h' a .long n (aup f j.toNatClampNeg (.long x)) → Goes p.tables e below Φ T' (mkF m (pc + 1) Ls rest)) : Goes p.tables e below Φ T (mkF m pc Ls (.long x :: .int j :: .ref a :: rest)) := by
  obtain ⟨locs, X, eT, N, hn⟩ := S
  have A' := A
  obtain ⟨cl, A, r1, r2, r3⟩ := A
  obtain ⟨T', h', X', e', W, stp⟩ := RoadKit.stJ X B.1 B.2.1 eT A (j := j) (by rw [r1]; exact fun z => z.elim q0 (Nat.not_le.mpr q1)) (g := mkF m pc Ls (.long x :: .int j :: .ref a :: rest)) rfl rfl (B.d hd)
  exact Goes.go stp (k T' h' ⟨_, X', e', Fr.snoc X' N ga, hn⟩ W (A'.set W q1))
theorem Goes.bastore {x : Int32} (S : Sd p l e R s m args below meth c T h n0 cells slots) (B : Base p s m meth c Z y0 bytes0 maxL0 ret0) (A : Ary Z h a .byte n f) (q0 : ¬ j < 0) (q1 : j.toNatClampNeg < n) (ga : n0 ≤ a) (hd : decode bytes0 pc = .ok (.bastore, 1))
    (k : ∀ T' h', Sd p l e R s m args below meth c T' h' n0 cells slots → Wr h h' a j.toNatClampNeg (.int (nar .byte x)) → Ary Z h' a .byte n (aup f j.toNatClampNeg (.int (nar .byte x))) → Goes p.tables e below Φ T' (mkF m (pc + 1) Ls rest)) : Goes p.tables e below Φ T (mkF m pc Ls (.int x :: .int j :: .ref a :: rest)) := by
  obtain ⟨locs, X, eT, N, hn⟩ := S
  have A' := A
  obtain ⟨cl, A, r1, r2, r3⟩ := A
  obtain ⟨T', h', X', e', W, stp⟩ := RoadKit.stB X B.1 B.2.1 eT A (j := j) (by rw [r1]; exact fun z => z.elim q0 (Nat.not_le.mpr q1)) (g := mkF m pc Ls (.int x :: .int j :: .ref a :: rest)) rfl rfl (B.d hd)
  exact Goes.go stp (k T' h' ⟨_, X', e', Fr.snoc X' N ga, hn⟩ W (A'.set W q1))
theorem Goes.zastore {x : Int32} (S : Sd p l e R s m args below meth c T h n0 cells slots) (B : Base p s m meth c Z y0 bytes0 maxL0 ret0) (A : Ary Z h a .boolean n f) (q0 : ¬ j < 0) (q1 : j.toNatClampNeg < n) (ga : n0 ≤ a) (hd : decode bytes0 pc = .ok (.bastore, 1))
    (k : ∀ T' h', Sd p l e R s m args below meth c T' h' n0 cells slots → Wr h h' a j.toNatClampNeg (.int (nar .boolean x)) → Ary Z h' a .boolean n (aup f j.toNatClampNeg (.int (nar .boolean x))) → Goes p.tables e below Φ T' (mkF m (pc + 1) Ls rest)) : Goes p.tables e below Φ T (mkF m pc Ls (.int x :: .int j :: .ref a :: rest)) := by
  obtain ⟨locs, X, eT, N, hn⟩ := S
  have A' := A
  obtain ⟨cl, A, r1, r2, r3⟩ := A
  obtain ⟨T', h', X', e', W, stp⟩ := RoadKit.stZ X B.1 B.2.1 eT A (j := j) (by rw [r1]; exact fun z => z.elim q0 (Nat.not_le.mpr q1)) (g := mkF m pc Ls (.int x :: .int j :: .ref a :: rest)) rfl rfl (B.d hd)
  exact Goes.go stp (k T' h' ⟨_, X', e', Fr.snoc X' N ga, hn⟩ W (A'.set W q1))
end Arrays
end Lay
end Jvm.OwnKit
namespace Jvm.Pilot.@@N@@
open Jvm Jvm.ClassFile Sem Op Lib Jvm.Free Jvm.Stand Jvm.LawKit Jvm.RoadKit Jvm.OwnKit Bundle Jvm.Pilot.@@N@@.Jvm.D
theorem w0 {Z : State} {a0 : Array Value} (hw : ∀ d ∈ tables_1, d.before a0 Z = true) : ((Jvm.Cond.methodLink "com/example/bucket_brigade/bucketbrigade/PermitLogNewestPinLaw" (7 : Nat) ({ cls := "java/lang/Math", name := "max", desc := "(JJ)J" } : Jvm.MethodName)) : Jvm.Cond).before a0 Z = true := hw _ (List.mem_of_getElem? (i := 0) rfl)
theorem w1 {Z : State} {a0 : Array Value} (hw : ∀ d ∈ tables_1, d.before a0 Z = true) : ((Jvm.Cond.static ({ cls := "java/lang/Math", name := "max", desc := "(JJ)J" } : Jvm.MethodName)) : Jvm.Cond).before a0 Z = true := hw _ (List.mem_of_getElem? (i := 1) rfl)
theorem w2 {Z : State} {a0 : Array Value} (hw : ∀ d ∈ tables_1, d.before a0 Z = true) : ((Jvm.Cond.initialized "java/lang/Math") : Jvm.Cond).before a0 Z = true := hw _ (List.mem_of_getElem? (i := 2) rfl)
theorem w3 {Z : State} {a0 : Array Value} (hw : ∀ d ∈ tables_1, d.before a0 Z = true) : ((Jvm.Cond.code ({ cls := "java/lang/Math", name := "max", desc := "(JJ)J" } : Jvm.MethodName) jdk_29_method_66_code (4 : Nat) (Option.some Jvm.ClassFile.FieldType.long)) : Jvm.Cond).before a0 Z = true := hw _ (List.mem_of_getElem? (i := 3) rfl)
theorem w4 {Z : State} {a0 : Array Value} (hw : ∀ d ∈ tables_1, d.before a0 Z = true) : ((Jvm.Cond.constant "com/example/bucket_brigade/bucketbrigade/PermitLogNewestPinLaw" (13 : Nat) (2147483647 : Int32)) : Jvm.Cond).before a0 Z = true := hw _ (List.mem_of_getElem? (i := 4) rfl)
theorem w5 {Z : State} {a0 : Array Value} (hw : ∀ d ∈ tables_1, d.before a0 Z = true) : ((Jvm.Cond.classLink "com/example/bucket_brigade/bucketbrigade/PermitLogNewestPinLaw" (14 : Nat) "com/example/bucket_brigade/bucketbrigade/PermitLog") : Jvm.Cond).before a0 Z = true := hw _ (List.mem_of_getElem? (i := 5) rfl)
theorem w6 {Z : State} {a0 : Array Value} (hw : ∀ d ∈ tables_1, d.before a0 Z = true) : ((Jvm.Cond.instantiable "com/example/bucket_brigade/bucketbrigade/PermitLog" (6 : Nat)) : Jvm.Cond).before a0 Z = true := hw _ (List.mem_of_getElem? (i := 6) rfl)
theorem w7 {Z : State} {a0 : Array Value} (hw : ∀ d ∈ tables_1, d.before a0 Z = true) : ((Jvm.Cond.initialized "com/example/bucket_brigade/bucketbrigade/PermitLog") : Jvm.Cond).before a0 Z = true := hw _ (List.mem_of_getElem? (i := 7) rfl)
theorem w8 {Z : State} {a0 : Array Value} (hw : ∀ d ∈ tables_1, d.before a0 Z = true) : ((Jvm.Cond.methodLink "com/example/bucket_brigade/bucketbrigade/PermitLogNewestPinLaw" (16 : Nat) ({ cls := "com/example/bucket_brigade/bucketbrigade/PermitLog", name := "<init>", desc := "(J)V" } : Jvm.MethodName)) : Jvm.Cond).before a0 Z = true := hw _ (List.mem_of_getElem? (i := 8) rfl)
theorem w9 {Z : State} {a0 : Array Value} (hw : ∀ d ∈ tables_1, d.before a0 Z = true) : ((Jvm.Cond.instanceMethod ({ cls := "com/example/bucket_brigade/bucketbrigade/PermitLog", name := "<init>", desc := "(J)V" } : Jvm.MethodName)) : Jvm.Cond).before a0 Z = true := hw _ (List.mem_of_getElem? (i := 9) rfl)
theorem w10 {Z : State} {a0 : Array Value} (hw : ∀ d ∈ tables_1, d.before a0 Z = true) : ((Jvm.Cond.code ({ cls := "com/example/bucket_brigade/bucketbrigade/PermitLog", name := "<init>", desc := "(J)V" } : Jvm.MethodName) prog_25_method_1_code (3 : Nat) (Option.none : Option Jvm.ClassFile.FieldType)) : Jvm.Cond).before a0 Z = true := hw _ (List.mem_of_getElem? (i := 10) rfl)
theorem w11 {Z : State} {a0 : Array Value} (hw : ∀ d ∈ tables_1, d.before a0 Z = true) : ((Jvm.Cond.methodLink "com/example/bucket_brigade/bucketbrigade/PermitLog" (1 : Nat) ({ cls := "java/lang/Object", name := "<init>", desc := "()V" } : Jvm.MethodName)) : Jvm.Cond).before a0 Z = true := hw _ (List.mem_of_getElem? (i := 11) rfl)
theorem w12 {Z : State} {a0 : Array Value} (hw : ∀ d ∈ tables_1, d.before a0 Z = true) : ((Jvm.Cond.instanceMethod ({ cls := "java/lang/Object", name := "<init>", desc := "()V" } : Jvm.MethodName)) : Jvm.Cond).before a0 Z = true := hw _ (List.mem_of_getElem? (i := 12) rfl)
theorem w13 {Z : State} {a0 : Array Value} (hw : ∀ d ∈ tables_1, d.before a0 Z = true) : ((Jvm.Cond.code ({ cls := "java/lang/Object", name := "<init>", desc := "()V" } : Jvm.MethodName) object_method_1_code (1 : Nat) (Option.none : Option Jvm.ClassFile.FieldType)) : Jvm.Cond).before a0 Z = true := hw _ (List.mem_of_getElem? (i := 13) rfl)
theorem w14 {Z : State} {a0 : Array Value} (hw : ∀ d ∈ tables_1, d.before a0 Z = true) : ((Jvm.Cond.arrayClass Jvm.ClassFile.FieldType.long) : Jvm.Cond).before a0 Z = true := hw _ (List.mem_of_getElem? (i := 14) rfl)
theorem w15 {Z : State} {a0 : Array Value} (hw : ∀ d ∈ tables_1, d.before a0 Z = true) : ((Jvm.Cond.fieldLink "com/example/bucket_brigade/bucketbrigade/PermitLog" (9 : Nat) "com/example/bucket_brigade/bucketbrigade/PermitLog" "instants" "[J") : Jvm.Cond).before a0 Z = true := hw _ (List.mem_of_getElem? (i := 15) rfl)
theorem w16 {Z : State} {a0 : Array Value} (hw : ∀ d ∈ tables_1, d.before a0 Z = true) : ((Jvm.Cond.lays "com/example/bucket_brigade/bucketbrigade/PermitLog" "com/example/bucket_brigade/bucketbrigade/PermitLog" "instants" "[J") : Jvm.Cond).before a0 Z = true := hw _ (List.mem_of_getElem? (i := 16) rfl)
theorem w17 {Z : State} {a0 : Array Value} (hw : ∀ d ∈ tables_1, d.before a0 Z = true) : ((Jvm.Cond.fieldLink "com/example/bucket_brigade/bucketbrigade/PermitLog" (13 : Nat) "com/example/bucket_brigade/bucketbrigade/PermitLog" "lastNumbers" "[J") : Jvm.Cond).before a0 Z = true := hw _ (List.mem_of_getElem? (i := 17) rfl)
theorem w18 {Z : State} {a0 : Array Value} (hw : ∀ d ∈ tables_1, d.before a0 Z = true) : ((Jvm.Cond.lays "com/example/bucket_brigade/bucketbrigade/PermitLog" "com/example/bucket_brigade/bucketbrigade/PermitLog" "lastNumbers" "[J") : Jvm.Cond).before a0 Z = true := hw _ (List.mem_of_getElem? (i := 18) rfl)
theorem w19 {Z : State} {a0 : Array Value} (hw : ∀ d ∈ tables_1, d.before a0 Z = true) : ((Jvm.Cond.fieldLink "com/example/bucket_brigade/bucketbrigade/PermitLog" (16 : Nat) "com/example/bucket_brigade/bucketbrigade/PermitLog" "completeFrom" "J") : Jvm.Cond).before a0 Z = true := hw _ (List.mem_of_getElem? (i := 19) rfl)
theorem w20 {Z : State} {a0 : Array Value} (hw : ∀ d ∈ tables_1, d.before a0 Z = true) : ((Jvm.Cond.laysFinal "com/example/bucket_brigade/bucketbrigade/PermitLog" "com/example/bucket_brigade/bucketbrigade/PermitLog" "completeFrom" "J") : Jvm.Cond).before a0 Z = true := hw _ (List.mem_of_getElem? (i := 20) rfl)
theorem w21 {Z : State} {a0 : Array Value} (hw : ∀ d ∈ tables_1, d.before a0 Z = true) : ((Jvm.Cond.methodLink "com/example/bucket_brigade/bucketbrigade/PermitLogNewestPinLaw" (19 : Nat) ({ cls := "com/example/bucket_brigade/bucketbrigade/PermitLog", name := "add", desc := "(JJ)V" } : Jvm.MethodName)) : Jvm.Cond).before a0 Z = true := hw _ (List.mem_of_getElem? (i := 21) rfl)
theorem w22 {Z : State} {a0 : Array Value} (hw : ∀ d ∈ tables_1, d.before a0 Z = true) : ((Jvm.Cond.declares ({ cls := "com/example/bucket_brigade/bucketbrigade/PermitLog", name := "add", desc := "(JJ)V" } : Jvm.MethodName)) : Jvm.Cond).before a0 Z = true := hw _ (List.mem_of_getElem? (i := 22) rfl)
theorem w23 {Z : State} {a0 : Array Value} (hw : ∀ d ∈ tables_1, d.before a0 Z = true) : ((Jvm.Cond.instanceMethod ({ cls := "com/example/bucket_brigade/bucketbrigade/PermitLog", name := "add", desc := "(JJ)V" } : Jvm.MethodName)) : Jvm.Cond).before a0 Z = true := hw _ (List.mem_of_getElem? (i := 23) rfl)
theorem w24 {Z : State} {a0 : Array Value} (hw : ∀ d ∈ tables_1, d.before a0 Z = true) : ((Jvm.Cond.selects "com/example/bucket_brigade/bucketbrigade/PermitLog" ({ cls := "com/example/bucket_brigade/bucketbrigade/PermitLog", name := "add", desc := "(JJ)V" } : Jvm.MethodName) ({ cls := "com/example/bucket_brigade/bucketbrigade/PermitLog", name := "add", desc := "(JJ)V" } : Jvm.MethodName)) : Jvm.Cond).before a0 Z = true := hw _ (List.mem_of_getElem? (i := 24) rfl)
theorem w25 {Z : State} {a0 : Array Value} (hw : ∀ d ∈ tables_1, d.before a0 Z = true) : ((Jvm.Cond.code ({ cls := "com/example/bucket_brigade/bucketbrigade/PermitLog", name := "add", desc := "(JJ)V" } : Jvm.MethodName) prog_25_method_9_code (7 : Nat) (Option.none : Option Jvm.ClassFile.FieldType)) : Jvm.Cond).before a0 Z = true := hw _ (List.mem_of_getElem? (i := 25) rfl)
theorem w26 {Z : State} {a0 : Array Value} (hw : ∀ d ∈ tables_1, d.before a0 Z = true) : ((Jvm.Cond.methodLink "com/example/bucket_brigade/bucketbrigade/PermitLog" (38 : Nat) ({ cls := "com/example/bucket_brigade/bucketbrigade/PermitLog", name := "firstAtOrAfter", desc := "(J)I" } : Jvm.MethodName)) : Jvm.Cond).before a0 Z = true := hw _ (List.mem_of_getElem? (i := 26) rfl)
theorem w27 {Z : State} {a0 : Array Value} (hw : ∀ d ∈ tables_1, d.before a0 Z = true) : ((Jvm.Cond.instanceMethod ({ cls := "com/example/bucket_brigade/bucketbrigade/PermitLog", name := "firstAtOrAfter", desc := "(J)I" } : Jvm.MethodName)) : Jvm.Cond).before a0 Z = true := hw _ (List.mem_of_getElem? (i := 27) rfl)
theorem w28 {Z : State} {a0 : Array Value} (hw : ∀ d ∈ tables_1, d.before a0 Z = true) : ((Jvm.Cond.privateMethod ({ cls := "com/example/bucket_brigade/bucketbrigade/PermitLog", name := "firstAtOrAfter", desc := "(J)I" } : Jvm.MethodName)) : Jvm.Cond).before a0 Z = true := hw _ (List.mem_of_getElem? (i := 28) rfl)
theorem w29 {Z : State} {a0 : Array Value} (hw : ∀ d ∈ tables_1, d.before a0 Z = true) : ((Jvm.Cond.code ({ cls := "com/example/bucket_brigade/bucketbrigade/PermitLog", name := "firstAtOrAfter", desc := "(J)I" } : Jvm.MethodName) prog_25_method_16_code (6 : Nat) (Option.some Jvm.ClassFile.FieldType.int)) : Jvm.Cond).before a0 Z = true := hw _ (List.mem_of_getElem? (i := 29) rfl)
theorem w30 {Z : State} {a0 : Array Value} (hw : ∀ d ∈ tables_1, d.before a0 Z = true) : ((Jvm.Cond.fieldLink "com/example/bucket_brigade/bucketbrigade/PermitLog" (20 : Nat) "com/example/bucket_brigade/bucketbrigade/PermitLog" "size" "I") : Jvm.Cond).before a0 Z = true := hw _ (List.mem_of_getElem? (i := 30) rfl)
theorem w31 {Z : State} {a0 : Array Value} (hw : ∀ d ∈ tables_1, d.before a0 Z = true) : ((Jvm.Cond.lays "com/example/bucket_brigade/bucketbrigade/PermitLog" "com/example/bucket_brigade/bucketbrigade/PermitLog" "size" "I") : Jvm.Cond).before a0 Z = true := hw _ (List.mem_of_getElem? (i := 31) rfl)
theorem w32 {Z : State} {a0 : Array Value} (hw : ∀ d ∈ tables_1, d.before a0 Z = true) : ((Jvm.Cond.methodLink "com/example/bucket_brigade/bucketbrigade/PermitLog" (41 : Nat) ({ cls := "com/example/bucket_brigade/bucketbrigade/PermitLog", name := "numberBefore", desc := "(I)J" } : Jvm.MethodName)) : Jvm.Cond).before a0 Z = true := hw _ (List.mem_of_getElem? (i := 32) rfl)
theorem w33 {Z : State} {a0 : Array Value} (hw : ∀ d ∈ tables_1, d.before a0 Z = true) : ((Jvm.Cond.instanceMethod ({ cls := "com/example/bucket_brigade/bucketbrigade/PermitLog", name := "numberBefore", desc := "(I)J" } : Jvm.MethodName)) : Jvm.Cond).before a0 Z = true := hw _ (List.mem_of_getElem? (i := 33) rfl)
theorem w34 {Z : State} {a0 : Array Value} (hw : ∀ d ∈ tables_1, d.before a0 Z = true) : ((Jvm.Cond.privateMethod ({ cls := "com/example/bucket_brigade/bucketbrigade/PermitLog", name := "numberBefore", desc := "(I)J" } : Jvm.MethodName)) : Jvm.Cond).before a0 Z = true := hw _ (List.mem_of_getElem? (i := 34) rfl)
theorem w35 {Z : State} {a0 : Array Value} (hw : ∀ d ∈ tables_1, d.before a0 Z = true) : ((Jvm.Cond.code ({ cls := "com/example/bucket_brigade/bucketbrigade/PermitLog", name := "numberBefore", desc := "(I)J" } : Jvm.MethodName) prog_25_method_17_code (2 : Nat) (Option.some Jvm.ClassFile.FieldType.long)) : Jvm.Cond).before a0 Z = true := hw _ (List.mem_of_getElem? (i := 35) rfl)
theorem w36 {Z : State} {a0 : Array Value} (hw : ∀ d ∈ tables_1, d.before a0 Z = true) : ((Jvm.Cond.fieldLink "com/example/bucket_brigade/bucketbrigade/PermitLog" (28 : Nat) "com/example/bucket_brigade/bucketbrigade/PermitLog" "dropped" "J") : Jvm.Cond).before a0 Z = true := hw _ (List.mem_of_getElem? (i := 36) rfl)
theorem w37 {Z : State} {a0 : Array Value} (hw : ∀ d ∈ tables_1, d.before a0 Z = true) : ((Jvm.Cond.lays "com/example/bucket_brigade/bucketbrigade/PermitLog" "com/example/bucket_brigade/bucketbrigade/PermitLog" "dropped" "J") : Jvm.Cond).before a0 Z = true := hw _ (List.mem_of_getElem? (i := 37) rfl)
theorem w38 {Z : State} {a0 : Array Value} (hw : ∀ d ∈ tables_1, d.before a0 Z = true) : ((Jvm.Cond.methodLink "com/example/bucket_brigade/bucketbrigade/PermitLog" (44 : Nat) ({ cls := "com/example/bucket_brigade/bucketbrigade/PermitLog", name := "insert", desc := "(IJJ)V" } : Jvm.MethodName)) : Jvm.Cond).before a0 Z = true := hw _ (List.mem_of_getElem? (i := 38) rfl)
theorem w39 {Z : State} {a0 : Array Value} (hw : ∀ d ∈ tables_1, d.before a0 Z = true) : ((Jvm.Cond.instanceMethod ({ cls := "com/example/bucket_brigade/bucketbrigade/PermitLog", name := "insert", desc := "(IJJ)V" } : Jvm.MethodName)) : Jvm.Cond).before a0 Z = true := hw _ (List.mem_of_getElem? (i := 39) rfl)
theorem w40 {Z : State} {a0 : Array Value} (hw : ∀ d ∈ tables_1, d.before a0 Z = true) : ((Jvm.Cond.privateMethod ({ cls := "com/example/bucket_brigade/bucketbrigade/PermitLog", name := "insert", desc := "(IJJ)V" } : Jvm.MethodName)) : Jvm.Cond).before a0 Z = true := hw _ (List.mem_of_getElem? (i := 40) rfl)
theorem w41 {Z : State} {a0 : Array Value} (hw : ∀ d ∈ tables_1, d.before a0 Z = true) : ((Jvm.Cond.code ({ cls := "com/example/bucket_brigade/bucketbrigade/PermitLog", name := "insert", desc := "(IJJ)V" } : Jvm.MethodName) prog_25_method_13_code (7 : Nat) (Option.none : Option Jvm.ClassFile.FieldType)) : Jvm.Cond).before a0 Z = true := hw _ (List.mem_of_getElem? (i := 41) rfl)
theorem w42 {Z : State} {a0 : Array Value} (hw : ∀ d ∈ tables_1, d.before a0 Z = true) : ((Jvm.Cond.methodLink "com/example/bucket_brigade/bucketbrigade/PermitLog" (48 : Nat) ({ cls := "com/example/bucket_brigade/bucketbrigade/PermitLog", name := "slot", desc := "(I)I" } : Jvm.MethodName)) : Jvm.Cond).before a0 Z = true := hw _ (List.mem_of_getElem? (i := 42) rfl)
theorem w43 {Z : State} {a0 : Array Value} (hw : ∀ d ∈ tables_1, d.before a0 Z = true) : ((Jvm.Cond.instanceMethod ({ cls := "com/example/bucket_brigade/bucketbrigade/PermitLog", name := "slot", desc := "(I)I" } : Jvm.MethodName)) : Jvm.Cond).before a0 Z = true := hw _ (List.mem_of_getElem? (i := 43) rfl)
theorem w44 {Z : State} {a0 : Array Value} (hw : ∀ d ∈ tables_1, d.before a0 Z = true) : ((Jvm.Cond.privateMethod ({ cls := "com/example/bucket_brigade/bucketbrigade/PermitLog", name := "slot", desc := "(I)I" } : Jvm.MethodName)) : Jvm.Cond).before a0 Z = true := hw _ (List.mem_of_getElem? (i := 44) rfl)
theorem w45 {Z : State} {a0 : Array Value} (hw : ∀ d ∈ tables_1, d.before a0 Z = true) : ((Jvm.Cond.code ({ cls := "com/example/bucket_brigade/bucketbrigade/PermitLog", name := "slot", desc := "(I)I" } : Jvm.MethodName) prog_25_method_20_code (2 : Nat) (Option.some Jvm.ClassFile.FieldType.int)) : Jvm.Cond).before a0 Z = true := hw _ (List.mem_of_getElem? (i := 45) rfl)
theorem w46 {Z : State} {a0 : Array Value} (hw : ∀ d ∈ tables_1, d.before a0 Z = true) : ((Jvm.Cond.fieldLink "com/example/bucket_brigade/bucketbrigade/PermitLog" (59 : Nat) "com/example/bucket_brigade/bucketbrigade/PermitLog" "first" "I") : Jvm.Cond).before a0 Z = true := hw _ (List.mem_of_getElem? (i := 46) rfl)
theorem w47 {Z : State} {a0 : Array Value} (hw : ∀ d ∈ tables_1, d.before a0 Z = true) : ((Jvm.Cond.lays "com/example/bucket_brigade/bucketbrigade/PermitLog" "com/example/bucket_brigade/bucketbrigade/PermitLog" "first" "I") : Jvm.Cond).before a0 Z = true := hw _ (List.mem_of_getElem? (i := 47) rfl)
theorem w48 {Z : State} {a0 : Array Value} (hw : ∀ d ∈ tables_1, d.before a0 Z = true) : ((Jvm.Cond.methodLink "com/example/bucket_brigade/bucketbrigade/PermitLog" (31 : Nat) ({ cls := "com/example/bucket_brigade/bucketbrigade/PermitLog", name := "instant", desc := "(I)J" } : Jvm.MethodName)) : Jvm.Cond).before a0 Z = true := hw _ (List.mem_of_getElem? (i := 48) rfl)
theorem w49 {Z : State} {a0 : Array Value} (hw : ∀ d ∈ tables_1, d.before a0 Z = true) : ((Jvm.Cond.instanceMethod ({ cls := "com/example/bucket_brigade/bucketbrigade/PermitLog", name := "instant", desc := "(I)J" } : Jvm.MethodName)) : Jvm.Cond).before a0 Z = true := hw _ (List.mem_of_getElem? (i := 49) rfl)
theorem w50 {Z : State} {a0 : Array Value} (hw : ∀ d ∈ tables_1, d.before a0 Z = true) : ((Jvm.Cond.privateMethod ({ cls := "com/example/bucket_brigade/bucketbrigade/PermitLog", name := "instant", desc := "(I)J" } : Jvm.MethodName)) : Jvm.Cond).before a0 Z = true := hw _ (List.mem_of_getElem? (i := 50) rfl)
theorem w51 {Z : State} {a0 : Array Value} (hw : ∀ d ∈ tables_1, d.before a0 Z = true) : ((Jvm.Cond.code ({ cls := "com/example/bucket_brigade/bucketbrigade/PermitLog", name := "instant", desc := "(I)J" } : Jvm.MethodName) prog_25_method_18_code (2 : Nat) (Option.some Jvm.ClassFile.FieldType.long)) : Jvm.Cond).before a0 Z = true := hw _ (List.mem_of_getElem? (i := 51) rfl)
theorem w52 {Z : State} {a0 : Array Value} (hw : ∀ d ∈ tables_1, d.before a0 Z = true) : ((Jvm.Cond.methodLink "com/example/bucket_brigade/bucketbrigade/PermitLogNewestPinLaw" (23 : Nat) ({ cls := "com/example/bucket_brigade/bucketbrigade/PermitLog", name := "keepNewest", desc := "(J)V" } : Jvm.MethodName)) : Jvm.Cond).before a0 Z = true := hw _ (List.mem_of_getElem? (i := 52) rfl)
theorem w53 {Z : State} {a0 : Array Value} (hw : ∀ d ∈ tables_1, d.before a0 Z = true) : ((Jvm.Cond.declares ({ cls := "com/example/bucket_brigade/bucketbrigade/PermitLog", name := "keepNewest", desc := "(J)V" } : Jvm.MethodName)) : Jvm.Cond).before a0 Z = true := hw _ (List.mem_of_getElem? (i := 53) rfl)
theorem w54 {Z : State} {a0 : Array Value} (hw : ∀ d ∈ tables_1, d.before a0 Z = true) : ((Jvm.Cond.instanceMethod ({ cls := "com/example/bucket_brigade/bucketbrigade/PermitLog", name := "keepNewest", desc := "(J)V" } : Jvm.MethodName)) : Jvm.Cond).before a0 Z = true := hw _ (List.mem_of_getElem? (i := 54) rfl)
theorem w55 {Z : State} {a0 : Array Value} (hw : ∀ d ∈ tables_1, d.before a0 Z = true) : ((Jvm.Cond.selects "com/example/bucket_brigade/bucketbrigade/PermitLog" ({ cls := "com/example/bucket_brigade/bucketbrigade/PermitLog", name := "keepNewest", desc := "(J)V" } : Jvm.MethodName) ({ cls := "com/example/bucket_brigade/bucketbrigade/PermitLog", name := "keepNewest", desc := "(J)V" } : Jvm.MethodName)) : Jvm.Cond).before a0 Z = true := hw _ (List.mem_of_getElem? (i := 55) rfl)
theorem w56 {Z : State} {a0 : Array Value} (hw : ∀ d ∈ tables_1, d.before a0 Z = true) : ((Jvm.Cond.code ({ cls := "com/example/bucket_brigade/bucketbrigade/PermitLog", name := "keepNewest", desc := "(J)V" } : Jvm.MethodName) prog_25_method_10_code (7 : Nat) (Option.none : Option Jvm.ClassFile.FieldType)) : Jvm.Cond).before a0 Z = true := hw _ (List.mem_of_getElem? (i := 56) rfl)
theorem w57 {Z : State} {a0 : Array Value} (hw : ∀ d ∈ tables_1, d.before a0 Z = true) : ((Jvm.Cond.methodLink "com/example/bucket_brigade/bucketbrigade/PermitLog" (52 : Nat) ({ cls := "com/example/bucket_brigade/bucketbrigade/PermitLog", name := "permits", desc := "()J" } : Jvm.MethodName)) : Jvm.Cond).before a0 Z = true := hw _ (List.mem_of_getElem? (i := 57) rfl)
theorem w58 {Z : State} {a0 : Array Value} (hw : ∀ d ∈ tables_1, d.before a0 Z = true) : ((Jvm.Cond.declares ({ cls := "com/example/bucket_brigade/bucketbrigade/PermitLog", name := "permits", desc := "()J" } : Jvm.MethodName)) : Jvm.Cond).before a0 Z = true := hw _ (List.mem_of_getElem? (i := 58) rfl)
theorem w59 {Z : State} {a0 : Array Value} (hw : ∀ d ∈ tables_1, d.before a0 Z = true) : ((Jvm.Cond.instanceMethod ({ cls := "com/example/bucket_brigade/bucketbrigade/PermitLog", name := "permits", desc := "()J" } : Jvm.MethodName)) : Jvm.Cond).before a0 Z = true := hw _ (List.mem_of_getElem? (i := 59) rfl)
theorem w60 {Z : State} {a0 : Array Value} (hw : ∀ d ∈ tables_1, d.before a0 Z = true) : ((Jvm.Cond.selects "com/example/bucket_brigade/bucketbrigade/PermitLog" ({ cls := "com/example/bucket_brigade/bucketbrigade/PermitLog", name := "permits", desc := "()J" } : Jvm.MethodName) ({ cls := "com/example/bucket_brigade/bucketbrigade/PermitLog", name := "permits", desc := "()J" } : Jvm.MethodName)) : Jvm.Cond).before a0 Z = true := hw _ (List.mem_of_getElem? (i := 60) rfl)
theorem w61 {Z : State} {a0 : Array Value} (hw : ∀ d ∈ tables_1, d.before a0 Z = true) : ((Jvm.Cond.code ({ cls := "com/example/bucket_brigade/bucketbrigade/PermitLog", name := "permits", desc := "()J" } : Jvm.MethodName) prog_25_method_4_code (1 : Nat) (Option.some Jvm.ClassFile.FieldType.long)) : Jvm.Cond).before a0 Z = true := hw _ (List.mem_of_getElem? (i := 61) rfl)
theorem w62 {Z : State} {a0 : Array Value} (hw : ∀ d ∈ tables_1, d.before a0 Z = true) : ((Jvm.Cond.methodLink "com/example/bucket_brigade/bucketbrigade/PermitLog" (24 : Nat) ({ cls := "com/example/bucket_brigade/bucketbrigade/PermitLog", name := "lastNumber", desc := "(I)J" } : Jvm.MethodName)) : Jvm.Cond).before a0 Z = true := hw _ (List.mem_of_getElem? (i := 62) rfl)
theorem w63 {Z : State} {a0 : Array Value} (hw : ∀ d ∈ tables_1, d.before a0 Z = true) : ((Jvm.Cond.instanceMethod ({ cls := "com/example/bucket_brigade/bucketbrigade/PermitLog", name := "lastNumber", desc := "(I)J" } : Jvm.MethodName)) : Jvm.Cond).before a0 Z = true := hw _ (List.mem_of_getElem? (i := 63) rfl)
theorem w64 {Z : State} {a0 : Array Value} (hw : ∀ d ∈ tables_1, d.before a0 Z = true) : ((Jvm.Cond.privateMethod ({ cls := "com/example/bucket_brigade/bucketbrigade/PermitLog", name := "lastNumber", desc := "(I)J" } : Jvm.MethodName)) : Jvm.Cond).before a0 Z = true := hw _ (List.mem_of_getElem? (i := 64) rfl)
theorem w65 {Z : State} {a0 : Array Value} (hw : ∀ d ∈ tables_1, d.before a0 Z = true) : ((Jvm.Cond.code ({ cls := "com/example/bucket_brigade/bucketbrigade/PermitLog", name := "lastNumber", desc := "(I)J" } : Jvm.MethodName) prog_25_method_19_code (2 : Nat) (Option.some Jvm.ClassFile.FieldType.long)) : Jvm.Cond).before a0 Z = true := hw _ (List.mem_of_getElem? (i := 65) rfl)
theorem w66 {Z : State} {a0 : Array Value} (hw : ∀ d ∈ tables_1, d.before a0 Z = true) : ((Jvm.Cond.methodLink "com/example/bucket_brigade/bucketbrigade/PermitLog" (56 : Nat) ({ cls := "com/example/bucket_brigade/bucketbrigade/PermitLog", name := "dropOldest", desc := "()V" } : Jvm.MethodName)) : Jvm.Cond).before a0 Z = true := hw _ (List.mem_of_getElem? (i := 66) rfl)
theorem w67 {Z : State} {a0 : Array Value} (hw : ∀ d ∈ tables_1, d.before a0 Z = true) : ((Jvm.Cond.instanceMethod ({ cls := "com/example/bucket_brigade/bucketbrigade/PermitLog", name := "dropOldest", desc := "()V" } : Jvm.MethodName)) : Jvm.Cond).before a0 Z = true := hw _ (List.mem_of_getElem? (i := 67) rfl)
theorem w68 {Z : State} {a0 : Array Value} (hw : ∀ d ∈ tables_1, d.before a0 Z = true) : ((Jvm.Cond.privateMethod ({ cls := "com/example/bucket_brigade/bucketbrigade/PermitLog", name := "dropOldest", desc := "()V" } : Jvm.MethodName)) : Jvm.Cond).before a0 Z = true := hw _ (List.mem_of_getElem? (i := 68) rfl)
theorem w69 {Z : State} {a0 : Array Value} (hw : ∀ d ∈ tables_1, d.before a0 Z = true) : ((Jvm.Cond.code ({ cls := "com/example/bucket_brigade/bucketbrigade/PermitLog", name := "dropOldest", desc := "()V" } : Jvm.MethodName) prog_25_method_12_code (1 : Nat) (Option.none : Option Jvm.ClassFile.FieldType)) : Jvm.Cond).before a0 Z = true := hw _ (List.mem_of_getElem? (i := 69) rfl)
theorem w70 {Z : State} {a0 : Array Value} (hw : ∀ d ∈ tables_1, d.before a0 Z = true) : ((Jvm.Cond.methodLink "com/example/bucket_brigade/bucketbrigade/PermitLogNewestPinLaw" (26 : Nat) ({ cls := "com/example/bucket_brigade/bucketbrigade/PermitLog", name := "newest", desc := "(J)J" } : Jvm.MethodName)) : Jvm.Cond).before a0 Z = true := hw _ (List.mem_of_getElem? (i := 70) rfl)
theorem w71 {Z : State} {a0 : Array Value} (hw : ∀ d ∈ tables_1, d.before a0 Z = true) : ((Jvm.Cond.declares ({ cls := "com/example/bucket_brigade/bucketbrigade/PermitLog", name := "newest", desc := "(J)J" } : Jvm.MethodName)) : Jvm.Cond).before a0 Z = true := hw _ (List.mem_of_getElem? (i := 71) rfl)
theorem w72 {Z : State} {a0 : Array Value} (hw : ∀ d ∈ tables_1, d.before a0 Z = true) : ((Jvm.Cond.instanceMethod ({ cls := "com/example/bucket_brigade/bucketbrigade/PermitLog", name := "newest", desc := "(J)J" } : Jvm.MethodName)) : Jvm.Cond).before a0 Z = true := hw _ (List.mem_of_getElem? (i := 72) rfl)
theorem w73 {Z : State} {a0 : Array Value} (hw : ∀ d ∈ tables_1, d.before a0 Z = true) : ((Jvm.Cond.selects "com/example/bucket_brigade/bucketbrigade/PermitLog" ({ cls := "com/example/bucket_brigade/bucketbrigade/PermitLog", name := "newest", desc := "(J)J" } : Jvm.MethodName) ({ cls := "com/example/bucket_brigade/bucketbrigade/PermitLog", name := "newest", desc := "(J)J" } : Jvm.MethodName)) : Jvm.Cond).before a0 Z = true := hw _ (List.mem_of_getElem? (i := 73) rfl)
theorem w74 {Z : State} {a0 : Array Value} (hw : ∀ d ∈ tables_1, d.before a0 Z = true) : ((Jvm.Cond.code ({ cls := "com/example/bucket_brigade/bucketbrigade/PermitLog", name := "newest", desc := "(J)J" } : Jvm.MethodName) prog_25_method_7_code (8 : Nat) (Option.some Jvm.ClassFile.FieldType.long)) : Jvm.Cond).before a0 Z = true := hw _ (List.mem_of_getElem? (i := 74) rfl)
theorem w75 {Z : State} {a0 : Array Value} (hw : ∀ d ∈ tables_1, d.before a0 Z = true) : ((Jvm.Cond.methodLink "com/example/bucket_brigade/bucketbrigade/PermitLogNewestPinLaw" (30 : Nat) ({ cls := "com/example/bucket_brigade/bucketbrigade/PermitLogNewestPinLaw", name := "atOrAfter", desc := "(JJJJJJJ)J" } : Jvm.MethodName)) : Jvm.Cond).before a0 Z = true := hw _ (List.mem_of_getElem? (i := 75) rfl)
theorem w76 {Z : State} {a0 : Array Value} (hw : ∀ d ∈ tables_1, d.before a0 Z = true) : ((Jvm.Cond.static ({ cls := "com/example/bucket_brigade/bucketbrigade/PermitLogNewestPinLaw", name := "atOrAfter", desc := "(JJJJJJJ)J" } : Jvm.MethodName)) : Jvm.Cond).before a0 Z = true := hw _ (List.mem_of_getElem? (i := 76) rfl)
theorem w77 {Z : State} {a0 : Array Value} (hw : ∀ d ∈ tables_1, d.before a0 Z = true) : ((Jvm.Cond.initialized "com/example/bucket_brigade/bucketbrigade/PermitLogNewestPinLaw") : Jvm.Cond).before a0 Z = true := hw _ (List.mem_of_getElem? (i := 77) rfl)
theorem w78 {Z : State} {a0 : Array Value} (hw : ∀ d ∈ tables_1, d.before a0 Z = true) : ((Jvm.Cond.code ({ cls := "com/example/bucket_brigade/bucketbrigade/PermitLogNewestPinLaw", name := "atOrAfter", desc := "(JJJJJJJ)J" } : Jvm.MethodName) method_3_code (16 : Nat) (Option.some Jvm.ClassFile.FieldType.long)) : Jvm.Cond).before a0 Z = true := hw _ (List.mem_of_getElem? (i := 78) rfl)
theorem w79 {Z : State} {a0 : Array Value} (hw : ∀ d ∈ tables_1, d.before a0 Z = true) : ((Jvm.Cond.methodLink "com/example/bucket_brigade/bucketbrigade/PermitLogNewestPinLaw" (36 : Nat) ({ cls := "com/example/bucket_brigade/bucketbrigade/PermitLogNewestPinLaw", name := "after", desc := "(JJJJJJJ)J" } : Jvm.MethodName)) : Jvm.Cond).before a0 Z = true := hw _ (List.mem_of_getElem? (i := 79) rfl)
theorem w80 {Z : State} {a0 : Array Value} (hw : ∀ d ∈ tables_1, d.before a0 Z = true) : ((Jvm.Cond.static ({ cls := "com/example/bucket_brigade/bucketbrigade/PermitLogNewestPinLaw", name := "after", desc := "(JJJJJJJ)J" } : Jvm.MethodName)) : Jvm.Cond).before a0 Z = true := hw _ (List.mem_of_getElem? (i := 80) rfl)
theorem w81 {Z : State} {a0 : Array Value} (hw : ∀ d ∈ tables_1, d.before a0 Z = true) : ((Jvm.Cond.code ({ cls := "com/example/bucket_brigade/bucketbrigade/PermitLogNewestPinLaw", name := "after", desc := "(JJJJJJJ)J" } : Jvm.MethodName) method_4_code (16 : Nat) (Option.some Jvm.ClassFile.FieldType.long)) : Jvm.Cond).before a0 Z = true := hw _ (List.mem_of_getElem? (i := 81) rfl)
theorem d_prog_25_method_1_0 : decode prog_25_method_1_code 0 = .ok (.aload_n 0, 1) := by decide +kernel
theorem d_prog_25_method_1_1 : decode prog_25_method_1_code 1 = .ok (.invokespecial 1, 3) := by decide +kernel
theorem d_prog_25_method_1_4 : decode prog_25_method_1_code 4 = .ok (.aload_n 0, 1) := by decide +kernel
theorem d_prog_25_method_1_5 : decode prog_25_method_1_code 5 = .ok (.iconst 4, 1) := by decide +kernel
theorem d_prog_25_method_1_6 : decode prog_25_method_1_code 6 = .ok (.newarray .long, 2) := by decide +kernel
theorem d_prog_25_method_1_8 : decode prog_25_method_1_code 8 = .ok (.putfield 9, 3) := by decide +kernel
theorem d_prog_25_method_1_11 : decode prog_25_method_1_code 11 = .ok (.aload_n 0, 1) := by decide +kernel
theorem d_prog_25_method_1_12 : decode prog_25_method_1_code 12 = .ok (.iconst 4, 1) := by decide +kernel
theorem d_prog_25_method_1_13 : decode prog_25_method_1_code 13 = .ok (.newarray .long, 2) := by decide +kernel
theorem d_prog_25_method_1_15 : decode prog_25_method_1_code 15 = .ok (.putfield 13, 3) := by decide +kernel
theorem d_prog_25_method_1_18 : decode prog_25_method_1_code 18 = .ok (.aload_n 0, 1) := by decide +kernel
theorem d_prog_25_method_1_19 : decode prog_25_method_1_code 19 = .ok (.lload_n 1, 1) := by decide +kernel
theorem d_prog_25_method_1_20 : decode prog_25_method_1_code 20 = .ok (.putfield 16, 3) := by decide +kernel
theorem d_prog_25_method_1_23 : decode prog_25_method_1_code 23 = .ok (.return_, 1) := by decide +kernel
theorem d_prog_25_method_20_0 : decode prog_25_method_20_code 0 = .ok (.aload_n 0, 1) := by decide +kernel
theorem d_prog_25_method_20_1 : decode prog_25_method_20_code 1 = .ok (.getfield 59, 3) := by decide +kernel
theorem d_prog_25_method_20_4 : decode prog_25_method_20_code 4 = .ok (.iload_n 1, 1) := by decide +kernel
theorem d_prog_25_method_20_5 : decode prog_25_method_20_code 5 = .ok (.iadd, 1) := by decide +kernel
theorem d_prog_25_method_20_6 : decode prog_25_method_20_code 6 = .ok (.aload_n 0, 1) := by decide +kernel
theorem d_prog_25_method_20_7 : decode prog_25_method_20_code 7 = .ok (.getfield 9, 3) := by decide +kernel
theorem d_prog_25_method_20_10 : decode prog_25_method_20_code 10 = .ok (.arraylength, 1) := by decide +kernel
theorem d_prog_25_method_20_11 : decode prog_25_method_20_code 11 = .ok (.iconst 1, 1) := by decide +kernel
theorem d_prog_25_method_20_12 : decode prog_25_method_20_code 12 = .ok (.isub, 1) := by decide +kernel
theorem d_prog_25_method_20_13 : decode prog_25_method_20_code 13 = .ok (.iand, 1) := by decide +kernel
theorem d_prog_25_method_20_14 : decode prog_25_method_20_code 14 = .ok (.ireturn, 1) := by decide +kernel
theorem d_prog_25_method_18_0 : decode prog_25_method_18_code 0 = .ok (.aload_n 0, 1) := by decide +kernel
theorem d_prog_25_method_18_1 : decode prog_25_method_18_code 1 = .ok (.getfield 9, 3) := by decide +kernel
theorem d_prog_25_method_18_4 : decode prog_25_method_18_code 4 = .ok (.aload_n 0, 1) := by decide +kernel
theorem d_prog_25_method_18_5 : decode prog_25_method_18_code 5 = .ok (.iload_n 1, 1) := by decide +kernel
theorem d_prog_25_method_18_6 : decode prog_25_method_18_code 6 = .ok (.invokevirtual 48, 3) := by decide +kernel
theorem d_prog_25_method_18_9 : decode prog_25_method_18_code 9 = .ok (.laload, 1) := by decide +kernel
theorem d_prog_25_method_18_10 : decode prog_25_method_18_code 10 = .ok (.lreturn, 1) := by decide +kernel
theorem d_prog_25_method_19_0 : decode prog_25_method_19_code 0 = .ok (.aload_n 0, 1) := by decide +kernel
theorem d_prog_25_method_19_1 : decode prog_25_method_19_code 1 = .ok (.getfield 13, 3) := by decide +kernel
theorem d_prog_25_method_19_4 : decode prog_25_method_19_code 4 = .ok (.aload_n 0, 1) := by decide +kernel
theorem d_prog_25_method_19_5 : decode prog_25_method_19_code 5 = .ok (.iload_n 1, 1) := by decide +kernel
theorem d_prog_25_method_19_6 : decode prog_25_method_19_code 6 = .ok (.invokevirtual 48, 3) := by decide +kernel
theorem d_prog_25_method_19_9 : decode prog_25_method_19_code 9 = .ok (.laload, 1) := by decide +kernel
theorem d_prog_25_method_19_10 : decode prog_25_method_19_code 10 = .ok (.lreturn, 1) := by decide +kernel
theorem d_prog_25_method_4_0 : decode prog_25_method_4_code 0 = .ok (.aload_n 0, 1) := by decide +kernel
theorem d_prog_25_method_4_1 : decode prog_25_method_4_code 1 = .ok (.getfield 20, 3) := by decide +kernel
theorem d_prog_25_method_4_4 : decode prog_25_method_4_code 4 = .ok (.ifCond .ne 7, 3) := by decide +kernel
theorem d_prog_25_method_4_7 : decode prog_25_method_4_code 7 = .ok (.lconst 0, 1) := by decide +kernel
theorem d_prog_25_method_4_8 : decode prog_25_method_4_code 8 = .ok (.goto 18, 3) := by decide +kernel
theorem d_prog_25_method_4_26 : decode prog_25_method_4_code 26 = .ok (.lreturn, 1) := by decide +kernel
theorem d_prog_25_method_4_11 : decode prog_25_method_4_code 11 = .ok (.aload_n 0, 1) := by decide +kernel
theorem d_prog_25_method_4_12 : decode prog_25_method_4_code 12 = .ok (.aload_n 0, 1) := by decide +kernel
theorem d_prog_25_method_4_13 : decode prog_25_method_4_code 13 = .ok (.getfield 20, 3) := by decide +kernel
theorem d_prog_25_method_4_16 : decode prog_25_method_4_code 16 = .ok (.iconst 1, 1) := by decide +kernel
theorem d_prog_25_method_4_17 : decode prog_25_method_4_code 17 = .ok (.isub, 1) := by decide +kernel
theorem d_prog_25_method_4_18 : decode prog_25_method_4_code 18 = .ok (.invokevirtual 24, 3) := by decide +kernel
theorem d_prog_25_method_4_21 : decode prog_25_method_4_code 21 = .ok (.aload_n 0, 1) := by decide +kernel
theorem d_prog_25_method_4_22 : decode prog_25_method_4_code 22 = .ok (.getfield 28, 3) := by decide +kernel
theorem d_prog_25_method_4_25 : decode prog_25_method_4_code 25 = .ok (.lsub, 1) := by decide +kernel
theorem d_prog_25_method_17_0 : decode prog_25_method_17_code 0 = .ok (.iload_n 1, 1) := by decide +kernel
theorem d_prog_25_method_17_1 : decode prog_25_method_17_code 1 = .ok (.ifCond .ne 10, 3) := by decide +kernel
theorem d_prog_25_method_17_4 : decode prog_25_method_17_code 4 = .ok (.aload_n 0, 1) := by decide +kernel
theorem d_prog_25_method_17_5 : decode prog_25_method_17_code 5 = .ok (.getfield 28, 3) := by decide +kernel
theorem d_prog_25_method_17_8 : decode prog_25_method_17_code 8 = .ok (.goto 10, 3) := by decide +kernel
theorem d_prog_25_method_17_18 : decode prog_25_method_17_code 18 = .ok (.lreturn, 1) := by decide +kernel
theorem d_prog_25_method_17_11 : decode prog_25_method_17_code 11 = .ok (.aload_n 0, 1) := by decide +kernel
theorem d_prog_25_method_17_12 : decode prog_25_method_17_code 12 = .ok (.iload_n 1, 1) := by decide +kernel
theorem d_prog_25_method_17_13 : decode prog_25_method_17_code 13 = .ok (.iconst 1, 1) := by decide +kernel
theorem d_prog_25_method_17_14 : decode prog_25_method_17_code 14 = .ok (.isub, 1) := by decide +kernel
theorem d_prog_25_method_17_15 : decode prog_25_method_17_code 15 = .ok (.invokevirtual 24, 3) := by decide +kernel
theorem d_prog_25_method_12_0 : decode prog_25_method_12_code 0 = .ok (.aload_n 0, 1) := by decide +kernel
theorem d_prog_25_method_12_1 : decode prog_25_method_12_code 1 = .ok (.aload_n 0, 1) := by decide +kernel
theorem d_prog_25_method_12_2 : decode prog_25_method_12_code 2 = .ok (.iconst 0, 1) := by decide +kernel
theorem d_prog_25_method_12_3 : decode prog_25_method_12_code 3 = .ok (.invokevirtual 24, 3) := by decide +kernel
theorem d_prog_25_method_12_6 : decode prog_25_method_12_code 6 = .ok (.putfield 28, 3) := by decide +kernel
theorem d_prog_25_method_12_9 : decode prog_25_method_12_code 9 = .ok (.aload_n 0, 1) := by decide +kernel
theorem d_prog_25_method_12_10 : decode prog_25_method_12_code 10 = .ok (.aload_n 0, 1) := by decide +kernel
theorem d_prog_25_method_12_11 : decode prog_25_method_12_code 11 = .ok (.iconst 1, 1) := by decide +kernel
theorem d_prog_25_method_12_12 : decode prog_25_method_12_code 12 = .ok (.invokevirtual 48, 3) := by decide +kernel
theorem d_prog_25_method_12_15 : decode prog_25_method_12_code 15 = .ok (.putfield 59, 3) := by decide +kernel
theorem d_prog_25_method_12_18 : decode prog_25_method_12_code 18 = .ok (.aload_n 0, 1) := by decide +kernel
theorem d_prog_25_method_12_19 : decode prog_25_method_12_code 19 = .ok (.dup, 1) := by decide +kernel
theorem d_prog_25_method_12_20 : decode prog_25_method_12_code 20 = .ok (.getfield 20, 3) := by decide +kernel
theorem d_prog_25_method_12_23 : decode prog_25_method_12_code 23 = .ok (.iconst 1, 1) := by decide +kernel
theorem d_prog_25_method_12_24 : decode prog_25_method_12_code 24 = .ok (.isub, 1) := by decide +kernel
theorem d_prog_25_method_12_25 : decode prog_25_method_12_code 25 = .ok (.putfield 20, 3) := by decide +kernel
theorem d_prog_25_method_12_28 : decode prog_25_method_12_code 28 = .ok (.return_, 1) := by decide +kernel
theorem d_prog_25_method_16_0 : decode prog_25_method_16_code 0 = .ok (.iconst 0, 1) := by decide +kernel
theorem d_prog_25_method_16_1 : decode prog_25_method_16_code 1 = .ok (.istore_n 3, 1) := by decide +kernel
theorem d_prog_25_method_16_2 : decode prog_25_method_16_code 2 = .ok (.aload_n 0, 1) := by decide +kernel
theorem d_prog_25_method_16_3 : decode prog_25_method_16_code 3 = .ok (.getfield 20, 3) := by decide +kernel
theorem d_prog_25_method_16_6 : decode prog_25_method_16_code 6 = .ok (.istore 4, 2) := by decide +kernel
theorem d_prog_25_method_16_79 : decode prog_25_method_16_code 79 = .ok (.iload_n 3, 1) := by decide +kernel
theorem d_prog_25_method_16_80 : decode prog_25_method_16_code 80 = .ok (.iload 4, 2) := by decide +kernel
theorem d_prog_25_method_16_82 : decode prog_25_method_16_code 82 = .ok (.if_icmp .ge 37, 3) := by decide +kernel
theorem d_prog_25_method_16_119 : decode prog_25_method_16_code 119 = .ok (.iload_n 3, 1) := by decide +kernel
theorem d_prog_25_method_16_120 : decode prog_25_method_16_code 120 = .ok (.ireturn, 1) := by decide +kernel
theorem d_prog_25_method_16_85 : decode prog_25_method_16_code 85 = .ok (.iload_n 3, 1) := by decide +kernel
theorem d_prog_25_method_16_86 : decode prog_25_method_16_code 86 = .ok (.iload 4, 2) := by decide +kernel
theorem d_prog_25_method_16_88 : decode prog_25_method_16_code 88 = .ok (.iadd, 1) := by decide +kernel
theorem d_prog_25_method_16_89 : decode prog_25_method_16_code 89 = .ok (.iconst 1, 1) := by decide +kernel
theorem d_prog_25_method_16_90 : decode prog_25_method_16_code 90 = .ok (.iushr, 1) := by decide +kernel
theorem d_prog_25_method_16_91 : decode prog_25_method_16_code 91 = .ok (.istore 5, 2) := by decide +kernel
theorem d_prog_25_method_16_93 : decode prog_25_method_16_code 93 = .ok (.aload_n 0, 1) := by decide +kernel
theorem d_prog_25_method_16_94 : decode prog_25_method_16_code 94 = .ok (.iload 5, 2) := by decide +kernel
theorem d_prog_25_method_16_96 : decode prog_25_method_16_code 96 = .ok (.invokevirtual 31, 3) := by decide +kernel
theorem d_prog_25_method_16_99 : decode prog_25_method_16_code 99 = .ok (.lload_n 1, 1) := by decide +kernel
theorem d_prog_25_method_16_100 : decode prog_25_method_16_code 100 = .ok (.lcmp, 1) := by decide +kernel
theorem d_prog_25_method_16_101 : decode prog_25_method_16_code 101 = .ok (.ifCond .lt 10, 3) := by decide +kernel
theorem d_prog_25_method_16_111 : decode prog_25_method_16_code 111 = .ok (.iload 5, 2) := by decide +kernel
theorem d_prog_25_method_16_113 : decode prog_25_method_16_code 113 = .ok (.iconst 1, 1) := by decide +kernel
theorem d_prog_25_method_16_114 : decode prog_25_method_16_code 114 = .ok (.iadd, 1) := by decide +kernel
theorem d_prog_25_method_16_115 : decode prog_25_method_16_code 115 = .ok (.istore_n 3, 1) := by decide +kernel
theorem d_prog_25_method_16_116 : decode prog_25_method_16_code 116 = .ok (.goto (-37), 3) := by decide +kernel
theorem d_prog_25_method_16_104 : decode prog_25_method_16_code 104 = .ok (.iload 5, 2) := by decide +kernel
theorem d_prog_25_method_16_106 : decode prog_25_method_16_code 106 = .ok (.istore 4, 2) := by decide +kernel
theorem d_prog_25_method_16_108 : decode prog_25_method_16_code 108 = .ok (.goto 8, 3) := by decide +kernel
theorem d_prog_25_method_16_8 : decode prog_25_method_16_code 8 = .ok (.aload_n 0, 1) := by decide +kernel
theorem d_prog_25_method_16_9 : decode prog_25_method_16_code 9 = .ok (.getfield 20, 3) := by decide +kernel
theorem d_prog_25_method_16_12 : decode prog_25_method_16_code 12 = .ok (.ifCond .eq 18, 3) := by decide +kernel
theorem d_prog_25_method_16_30 : decode prog_25_method_16_code 30 = .ok (.aload_n 0, 1) := by decide +kernel
theorem d_prog_25_method_16_31 : decode prog_25_method_16_code 31 = .ok (.getfield 20, 3) := by decide +kernel
theorem d_prog_25_method_16_34 : decode prog_25_method_16_code 34 = .ok (.istore_n 3, 1) := by decide +kernel
theorem d_prog_25_method_16_35 : decode prog_25_method_16_code 35 = .ok (.goto 44, 3) := by decide +kernel
theorem d_prog_25_method_16_15 : decode prog_25_method_16_code 15 = .ok (.aload_n 0, 1) := by decide +kernel
theorem d_prog_25_method_16_16 : decode prog_25_method_16_code 16 = .ok (.aload_n 0, 1) := by decide +kernel
theorem d_prog_25_method_16_17 : decode prog_25_method_16_code 17 = .ok (.getfield 20, 3) := by decide +kernel
theorem d_prog_25_method_16_20 : decode prog_25_method_16_code 20 = .ok (.iconst 1, 1) := by decide +kernel
theorem d_prog_25_method_16_21 : decode prog_25_method_16_code 21 = .ok (.isub, 1) := by decide +kernel
theorem d_prog_25_method_16_22 : decode prog_25_method_16_code 22 = .ok (.invokevirtual 31, 3) := by decide +kernel
theorem d_prog_25_method_16_25 : decode prog_25_method_16_code 25 = .ok (.lload_n 1, 1) := by decide +kernel
theorem d_prog_25_method_16_26 : decode prog_25_method_16_code 26 = .ok (.lcmp, 1) := by decide +kernel
theorem d_prog_25_method_16_27 : decode prog_25_method_16_code 27 = .ok (.ifCond .ge 11, 3) := by decide +kernel
theorem d_prog_25_method_16_38 : decode prog_25_method_16_code 38 = .ok (.aload_n 0, 1) := by decide +kernel
theorem d_prog_25_method_16_39 : decode prog_25_method_16_code 39 = .ok (.iconst 0, 1) := by decide +kernel
theorem d_prog_25_method_16_40 : decode prog_25_method_16_code 40 = .ok (.invokevirtual 31, 3) := by decide +kernel
theorem d_prog_25_method_16_43 : decode prog_25_method_16_code 43 = .ok (.lload_n 1, 1) := by decide +kernel
theorem d_prog_25_method_16_44 : decode prog_25_method_16_code 44 = .ok (.lcmp, 1) := by decide +kernel
theorem d_prog_25_method_16_45 : decode prog_25_method_16_code 45 = .ok (.ifCond .lt 9, 3) := by decide +kernel
theorem d_prog_25_method_16_54 : decode prog_25_method_16_code 54 = .ok (.aload_n 0, 1) := by decide +kernel
theorem d_prog_25_method_16_55 : decode prog_25_method_16_code 55 = .ok (.aload_n 0, 1) := by decide +kernel
theorem d_prog_25_method_16_56 : decode prog_25_method_16_code 56 = .ok (.getfield 20, 3) := by decide +kernel
theorem d_prog_25_method_16_59 : decode prog_25_method_16_code 59 = .ok (.iconst 1, 1) := by decide +kernel
theorem d_prog_25_method_16_60 : decode prog_25_method_16_code 60 = .ok (.isub, 1) := by decide +kernel
theorem d_prog_25_method_16_61 : decode prog_25_method_16_code 61 = .ok (.invokevirtual 31, 3) := by decide +kernel
theorem d_prog_25_method_16_64 : decode prog_25_method_16_code 64 = .ok (.lload_n 1, 1) := by decide +kernel
theorem d_prog_25_method_16_65 : decode prog_25_method_16_code 65 = .ok (.lcmp, 1) := by decide +kernel
theorem d_prog_25_method_16_66 : decode prog_25_method_16_code 66 = .ok (.ifCond .ne 13, 3) := by decide +kernel
theorem d_prog_25_method_16_69 : decode prog_25_method_16_code 69 = .ok (.aload_n 0, 1) := by decide +kernel
theorem d_prog_25_method_16_70 : decode prog_25_method_16_code 70 = .ok (.getfield 20, 3) := by decide +kernel
theorem d_prog_25_method_16_73 : decode prog_25_method_16_code 73 = .ok (.iconst 1, 1) := by decide +kernel
theorem d_prog_25_method_16_74 : decode prog_25_method_16_code 74 = .ok (.isub, 1) := by decide +kernel
theorem d_prog_25_method_16_75 : decode prog_25_method_16_code 75 = .ok (.istore_n 3, 1) := by decide +kernel
theorem d_prog_25_method_16_76 : decode prog_25_method_16_code 76 = .ok (.iload_n 3, 1) := by decide +kernel
theorem d_prog_25_method_16_77 : decode prog_25_method_16_code 77 = .ok (.istore 4, 2) := by decide +kernel
theorem d_prog_25_method_16_48 : decode prog_25_method_16_code 48 = .ok (.iconst 0, 1) := by decide +kernel
theorem d_prog_25_method_16_49 : decode prog_25_method_16_code 49 = .ok (.istore 4, 2) := by decide +kernel
theorem d_prog_25_method_16_51 : decode prog_25_method_16_code 51 = .ok (.goto 28, 3) := by decide +kernel
theorem d_prog_25_method_13_0 : decode prog_25_method_13_code 0 = .ok (.aload_n 0, 1) := by decide +kernel
theorem d_prog_25_method_13_1 : decode prog_25_method_13_code 1 = .ok (.getfield 20, 3) := by decide +kernel
theorem d_prog_25_method_13_4 : decode prog_25_method_13_code 4 = .ok (.aload_n 0, 1) := by decide +kernel
theorem d_prog_25_method_13_5 : decode prog_25_method_13_code 5 = .ok (.getfield 9, 3) := by decide +kernel
theorem d_prog_25_method_13_8 : decode prog_25_method_13_code 8 = .ok (.arraylength, 1) := by decide +kernel
theorem d_prog_25_method_13_9 : decode prog_25_method_13_code 9 = .ok (.if_icmp .ne 7, 3) := by decide +kernel
theorem d_prog_25_method_13_16 : decode prog_25_method_13_code 16 = .ok (.aload_n 0, 1) := by decide +kernel
theorem d_prog_25_method_13_17 : decode prog_25_method_13_code 17 = .ok (.getfield 20, 3) := by decide +kernel
theorem d_prog_25_method_13_20 : decode prog_25_method_13_code 20 = .ok (.istore 6, 2) := by decide +kernel
theorem d_prog_25_method_13_22 : decode prog_25_method_13_code 22 = .ok (.iload 6, 2) := by decide +kernel
theorem d_prog_25_method_13_24 : decode prog_25_method_13_code 24 = .ok (.iload_n 1, 1) := by decide +kernel
theorem d_prog_25_method_13_25 : decode prog_25_method_13_code 25 = .ok (.if_icmp .le 57, 3) := by decide +kernel
theorem d_prog_25_method_13_82 : decode prog_25_method_13_code 82 = .ok (.aload_n 0, 1) := by decide +kernel
theorem d_prog_25_method_13_83 : decode prog_25_method_13_code 83 = .ok (.getfield 9, 3) := by decide +kernel
theorem d_prog_25_method_13_86 : decode prog_25_method_13_code 86 = .ok (.aload_n 0, 1) := by decide +kernel
theorem d_prog_25_method_13_87 : decode prog_25_method_13_code 87 = .ok (.iload_n 1, 1) := by decide +kernel
theorem d_prog_25_method_13_88 : decode prog_25_method_13_code 88 = .ok (.invokevirtual 48, 3) := by decide +kernel
theorem d_prog_25_method_13_91 : decode prog_25_method_13_code 91 = .ok (.lload_n 2, 1) := by decide +kernel
theorem d_prog_25_method_13_92 : decode prog_25_method_13_code 92 = .ok (.lastore, 1) := by decide +kernel
theorem d_prog_25_method_13_93 : decode prog_25_method_13_code 93 = .ok (.aload_n 0, 1) := by decide +kernel
theorem d_prog_25_method_13_94 : decode prog_25_method_13_code 94 = .ok (.getfield 13, 3) := by decide +kernel
theorem d_prog_25_method_13_97 : decode prog_25_method_13_code 97 = .ok (.aload_n 0, 1) := by decide +kernel
theorem d_prog_25_method_13_98 : decode prog_25_method_13_code 98 = .ok (.iload_n 1, 1) := by decide +kernel
theorem d_prog_25_method_13_99 : decode prog_25_method_13_code 99 = .ok (.invokevirtual 48, 3) := by decide +kernel
theorem d_prog_25_method_13_102 : decode prog_25_method_13_code 102 = .ok (.lload 4, 2) := by decide +kernel
theorem d_prog_25_method_13_104 : decode prog_25_method_13_code 104 = .ok (.lastore, 1) := by decide +kernel
theorem d_prog_25_method_13_105 : decode prog_25_method_13_code 105 = .ok (.aload_n 0, 1) := by decide +kernel
theorem d_prog_25_method_13_106 : decode prog_25_method_13_code 106 = .ok (.dup, 1) := by decide +kernel
theorem d_prog_25_method_13_107 : decode prog_25_method_13_code 107 = .ok (.getfield 20, 3) := by decide +kernel
theorem d_prog_25_method_13_110 : decode prog_25_method_13_code 110 = .ok (.iconst 1, 1) := by decide +kernel
theorem d_prog_25_method_13_111 : decode prog_25_method_13_code 111 = .ok (.iadd, 1) := by decide +kernel
theorem d_prog_25_method_13_112 : decode prog_25_method_13_code 112 = .ok (.putfield 20, 3) := by decide +kernel
theorem d_prog_25_method_13_115 : decode prog_25_method_13_code 115 = .ok (.return_, 1) := by decide +kernel
theorem d_prog_25_method_13_28 : decode prog_25_method_13_code 28 = .ok (.aload_n 0, 1) := by decide +kernel
theorem d_prog_25_method_13_29 : decode prog_25_method_13_code 29 = .ok (.getfield 9, 3) := by decide +kernel
theorem d_prog_25_method_13_32 : decode prog_25_method_13_code 32 = .ok (.aload_n 0, 1) := by decide +kernel
theorem d_prog_25_method_13_33 : decode prog_25_method_13_code 33 = .ok (.iload 6, 2) := by decide +kernel
theorem d_prog_25_method_13_35 : decode prog_25_method_13_code 35 = .ok (.invokevirtual 48, 3) := by decide +kernel
theorem d_prog_25_method_13_38 : decode prog_25_method_13_code 38 = .ok (.aload_n 0, 1) := by decide +kernel
theorem d_prog_25_method_13_39 : decode prog_25_method_13_code 39 = .ok (.getfield 9, 3) := by decide +kernel
theorem d_prog_25_method_13_42 : decode prog_25_method_13_code 42 = .ok (.aload_n 0, 1) := by decide +kernel
theorem d_prog_25_method_13_43 : decode prog_25_method_13_code 43 = .ok (.iload 6, 2) := by decide +kernel
theorem d_prog_25_method_13_45 : decode prog_25_method_13_code 45 = .ok (.iconst 1, 1) := by decide +kernel
theorem d_prog_25_method_13_46 : decode prog_25_method_13_code 46 = .ok (.isub, 1) := by decide +kernel
theorem d_prog_25_method_13_47 : decode prog_25_method_13_code 47 = .ok (.invokevirtual 48, 3) := by decide +kernel
theorem d_prog_25_method_13_50 : decode prog_25_method_13_code 50 = .ok (.laload, 1) := by decide +kernel
theorem d_prog_25_method_13_51 : decode prog_25_method_13_code 51 = .ok (.lastore, 1) := by decide +kernel
theorem d_prog_25_method_13_52 : decode prog_25_method_13_code 52 = .ok (.aload_n 0, 1) := by decide +kernel
theorem d_prog_25_method_13_53 : decode prog_25_method_13_code 53 = .ok (.getfield 13, 3) := by decide +kernel
theorem d_prog_25_method_13_56 : decode prog_25_method_13_code 56 = .ok (.aload_n 0, 1) := by decide +kernel
theorem d_prog_25_method_13_57 : decode prog_25_method_13_code 57 = .ok (.iload 6, 2) := by decide +kernel
theorem d_prog_25_method_13_59 : decode prog_25_method_13_code 59 = .ok (.invokevirtual 48, 3) := by decide +kernel
theorem d_prog_25_method_13_62 : decode prog_25_method_13_code 62 = .ok (.aload_n 0, 1) := by decide +kernel
theorem d_prog_25_method_13_63 : decode prog_25_method_13_code 63 = .ok (.getfield 13, 3) := by decide +kernel
theorem d_prog_25_method_13_66 : decode prog_25_method_13_code 66 = .ok (.aload_n 0, 1) := by decide +kernel
theorem d_prog_25_method_13_67 : decode prog_25_method_13_code 67 = .ok (.iload 6, 2) := by decide +kernel
theorem d_prog_25_method_13_69 : decode prog_25_method_13_code 69 = .ok (.iconst 1, 1) := by decide +kernel
theorem d_prog_25_method_13_70 : decode prog_25_method_13_code 70 = .ok (.isub, 1) := by decide +kernel
theorem d_prog_25_method_13_71 : decode prog_25_method_13_code 71 = .ok (.invokevirtual 48, 3) := by decide +kernel
theorem d_prog_25_method_13_74 : decode prog_25_method_13_code 74 = .ok (.laload, 1) := by decide +kernel
theorem d_prog_25_method_13_75 : decode prog_25_method_13_code 75 = .ok (.lastore, 1) := by decide +kernel
theorem d_prog_25_method_13_76 : decode prog_25_method_13_code 76 = .ok (.iinc 6 (-1), 3) := by decide +kernel
theorem d_prog_25_method_13_79 : decode prog_25_method_13_code 79 = .ok (.goto (-57), 3) := by decide +kernel
theorem d_prog_25_method_9_0 : decode prog_25_method_9_code 0 = .ok (.aload_n 0, 1) := by decide +kernel
theorem d_prog_25_method_9_1 : decode prog_25_method_9_code 1 = .ok (.lload_n 1, 1) := by decide +kernel
theorem d_prog_25_method_9_2 : decode prog_25_method_9_code 2 = .ok (.invokevirtual 38, 3) := by decide +kernel
theorem d_prog_25_method_9_5 : decode prog_25_method_9_code 5 = .ok (.istore 5, 2) := by decide +kernel
theorem d_prog_25_method_9_40 : decode prog_25_method_9_code 40 = .ok (.iload 5, 2) := by decide +kernel
theorem d_prog_25_method_9_42 : decode prog_25_method_9_code 42 = .ok (.istore 6, 2) := by decide +kernel
theorem d_prog_25_method_9_44 : decode prog_25_method_9_code 44 = .ok (.iload 6, 2) := by decide +kernel
theorem d_prog_25_method_9_46 : decode prog_25_method_9_code 46 = .ok (.aload_n 0, 1) := by decide +kernel
theorem d_prog_25_method_9_47 : decode prog_25_method_9_code 47 = .ok (.getfield 20, 3) := by decide +kernel
theorem d_prog_25_method_9_50 : decode prog_25_method_9_code 50 = .ok (.if_icmp .ge 24, 3) := by decide +kernel
theorem d_prog_25_method_9_74 : decode prog_25_method_9_code 74 = .ok (.return_, 1) := by decide +kernel
theorem d_prog_25_method_9_53 : decode prog_25_method_9_code 53 = .ok (.aload_n 0, 1) := by decide +kernel
theorem d_prog_25_method_9_54 : decode prog_25_method_9_code 54 = .ok (.getfield 13, 3) := by decide +kernel
theorem d_prog_25_method_9_57 : decode prog_25_method_9_code 57 = .ok (.aload_n 0, 1) := by decide +kernel
theorem d_prog_25_method_9_58 : decode prog_25_method_9_code 58 = .ok (.iload 6, 2) := by decide +kernel
theorem d_prog_25_method_9_60 : decode prog_25_method_9_code 60 = .ok (.invokevirtual 48, 3) := by decide +kernel
theorem d_prog_25_method_9_63 : decode prog_25_method_9_code 63 = .ok (.dup2, 1) := by decide +kernel
theorem d_prog_25_method_9_64 : decode prog_25_method_9_code 64 = .ok (.laload, 1) := by decide +kernel
theorem d_prog_25_method_9_65 : decode prog_25_method_9_code 65 = .ok (.lload_n 3, 1) := by decide +kernel
theorem d_prog_25_method_9_66 : decode prog_25_method_9_code 66 = .ok (.ladd, 1) := by decide +kernel
theorem d_prog_25_method_9_67 : decode prog_25_method_9_code 67 = .ok (.lastore, 1) := by decide +kernel
theorem d_prog_25_method_9_68 : decode prog_25_method_9_code 68 = .ok (.iinc 6 1, 3) := by decide +kernel
theorem d_prog_25_method_9_71 : decode prog_25_method_9_code 71 = .ok (.goto (-27), 3) := by decide +kernel
theorem d_prog_25_method_9_7 : decode prog_25_method_9_code 7 = .ok (.iload 5, 2) := by decide +kernel
theorem d_prog_25_method_9_9 : decode prog_25_method_9_code 9 = .ok (.aload_n 0, 1) := by decide +kernel
theorem d_prog_25_method_9_10 : decode prog_25_method_9_code 10 = .ok (.getfield 20, 3) := by decide +kernel
theorem d_prog_25_method_9_13 : decode prog_25_method_9_code 13 = .ok (.if_icmp .eq 14, 3) := by decide +kernel
theorem d_prog_25_method_9_27 : decode prog_25_method_9_code 27 = .ok (.aload_n 0, 1) := by decide +kernel
theorem d_prog_25_method_9_28 : decode prog_25_method_9_code 28 = .ok (.iload 5, 2) := by decide +kernel
theorem d_prog_25_method_9_30 : decode prog_25_method_9_code 30 = .ok (.lload_n 1, 1) := by decide +kernel
theorem d_prog_25_method_9_31 : decode prog_25_method_9_code 31 = .ok (.aload_n 0, 1) := by decide +kernel
theorem d_prog_25_method_9_32 : decode prog_25_method_9_code 32 = .ok (.iload 5, 2) := by decide +kernel
theorem d_prog_25_method_9_34 : decode prog_25_method_9_code 34 = .ok (.invokevirtual 41, 3) := by decide +kernel
theorem d_prog_25_method_9_37 : decode prog_25_method_9_code 37 = .ok (.invokevirtual 44, 3) := by decide +kernel
theorem d_prog_25_method_9_16 : decode prog_25_method_9_code 16 = .ok (.aload_n 0, 1) := by decide +kernel
theorem d_prog_25_method_9_17 : decode prog_25_method_9_code 17 = .ok (.iload 5, 2) := by decide +kernel
theorem d_prog_25_method_9_19 : decode prog_25_method_9_code 19 = .ok (.invokevirtual 31, 3) := by decide +kernel
theorem d_prog_25_method_9_22 : decode prog_25_method_9_code 22 = .ok (.lload_n 1, 1) := by decide +kernel
theorem d_prog_25_method_9_23 : decode prog_25_method_9_code 23 = .ok (.lcmp, 1) := by decide +kernel
theorem d_prog_25_method_9_24 : decode prog_25_method_9_code 24 = .ok (.ifCond .eq 16, 3) := by decide +kernel
theorem d_prog_25_method_10_0 : decode prog_25_method_10_code 0 = .ok (.aload_n 0, 1) := by decide +kernel
theorem d_prog_25_method_10_1 : decode prog_25_method_10_code 1 = .ok (.invokevirtual 52, 3) := by decide +kernel
theorem d_prog_25_method_10_4 : decode prog_25_method_10_code 4 = .ok (.lload_n 1, 1) := by decide +kernel
theorem d_prog_25_method_10_5 : decode prog_25_method_10_code 5 = .ok (.lsub, 1) := by decide +kernel
theorem d_prog_25_method_10_6 : decode prog_25_method_10_code 6 = .ok (.lstore_n 3, 1) := by decide +kernel
theorem d_prog_25_method_10_7 : decode prog_25_method_10_code 7 = .ok (.lload_n 3, 1) := by decide +kernel
theorem d_prog_25_method_10_8 : decode prog_25_method_10_code 8 = .ok (.lconst 0, 1) := by decide +kernel
theorem d_prog_25_method_10_9 : decode prog_25_method_10_code 9 = .ok (.lcmp, 1) := by decide +kernel
theorem d_prog_25_method_10_10 : decode prog_25_method_10_code 10 = .ok (.ifCond .le 49, 3) := by decide +kernel
theorem d_prog_25_method_10_59 : decode prog_25_method_10_code 59 = .ok (.return_, 1) := by decide +kernel
theorem d_prog_25_method_10_13 : decode prog_25_method_10_code 13 = .ok (.aload_n 0, 1) := by decide +kernel
theorem d_prog_25_method_10_14 : decode prog_25_method_10_code 14 = .ok (.iconst 0, 1) := by decide +kernel
theorem d_prog_25_method_10_15 : decode prog_25_method_10_code 15 = .ok (.invokevirtual 24, 3) := by decide +kernel
theorem d_prog_25_method_10_18 : decode prog_25_method_10_code 18 = .ok (.aload_n 0, 1) := by decide +kernel
theorem d_prog_25_method_10_19 : decode prog_25_method_10_code 19 = .ok (.getfield 28, 3) := by decide +kernel
theorem d_prog_25_method_10_22 : decode prog_25_method_10_code 22 = .ok (.lsub, 1) := by decide +kernel
theorem d_prog_25_method_10_23 : decode prog_25_method_10_code 23 = .ok (.lstore 5, 2) := by decide +kernel
theorem d_prog_25_method_10_25 : decode prog_25_method_10_code 25 = .ok (.lload 5, 2) := by decide +kernel
theorem d_prog_25_method_10_27 : decode prog_25_method_10_code 27 = .ok (.lload_n 3, 1) := by decide +kernel
theorem d_prog_25_method_10_28 : decode prog_25_method_10_code 28 = .ok (.lcmp, 1) := by decide +kernel
theorem d_prog_25_method_10_29 : decode prog_25_method_10_code 29 = .ok (.ifCond .gt 15, 3) := by decide +kernel
theorem d_prog_25_method_10_44 : decode prog_25_method_10_code 44 = .ok (.aload_n 0, 1) := by decide +kernel
theorem d_prog_25_method_10_45 : decode prog_25_method_10_code 45 = .ok (.dup, 1) := by decide +kernel
theorem d_prog_25_method_10_46 : decode prog_25_method_10_code 46 = .ok (.getfield 28, 3) := by decide +kernel
theorem d_prog_25_method_10_49 : decode prog_25_method_10_code 49 = .ok (.lload_n 3, 1) := by decide +kernel
theorem d_prog_25_method_10_50 : decode prog_25_method_10_code 50 = .ok (.ladd, 1) := by decide +kernel
theorem d_prog_25_method_10_51 : decode prog_25_method_10_code 51 = .ok (.putfield 28, 3) := by decide +kernel
theorem d_prog_25_method_10_54 : decode prog_25_method_10_code 54 = .ok (.lconst 0, 1) := by decide +kernel
theorem d_prog_25_method_10_55 : decode prog_25_method_10_code 55 = .ok (.lstore_n 3, 1) := by decide +kernel
theorem d_prog_25_method_10_56 : decode prog_25_method_10_code 56 = .ok (.goto (-49), 3) := by decide +kernel
theorem d_prog_25_method_10_32 : decode prog_25_method_10_code 32 = .ok (.aload_n 0, 1) := by decide +kernel
theorem d_prog_25_method_10_33 : decode prog_25_method_10_code 33 = .ok (.invokevirtual 56, 3) := by decide +kernel
theorem d_prog_25_method_10_36 : decode prog_25_method_10_code 36 = .ok (.lload_n 3, 1) := by decide +kernel
theorem d_prog_25_method_10_37 : decode prog_25_method_10_code 37 = .ok (.lload 5, 2) := by decide +kernel
theorem d_prog_25_method_10_39 : decode prog_25_method_10_code 39 = .ok (.lsub, 1) := by decide +kernel
theorem d_prog_25_method_10_40 : decode prog_25_method_10_code 40 = .ok (.lstore_n 3, 1) := by decide +kernel
theorem d_prog_25_method_10_41 : decode prog_25_method_10_code 41 = .ok (.goto 15, 3) := by decide +kernel
theorem d_jdk_29_method_66_0 : decode jdk_29_method_66_code 0 = .ok (.lload_n 0, 1) := by decide +kernel
theorem d_jdk_29_method_66_1 : decode jdk_29_method_66_code 1 = .ok (.lload_n 2, 1) := by decide +kernel
theorem d_jdk_29_method_66_2 : decode jdk_29_method_66_code 2 = .ok (.lcmp, 1) := by decide +kernel
theorem d_jdk_29_method_66_3 : decode jdk_29_method_66_code 3 = .ok (.ifCond .lt 7, 3) := by decide +kernel
theorem d_jdk_29_method_66_10 : decode jdk_29_method_66_code 10 = .ok (.lload_n 2, 1) := by decide +kernel
theorem d_jdk_29_method_66_11 : decode jdk_29_method_66_code 11 = .ok (.lreturn, 1) := by decide +kernel
theorem d_jdk_29_method_66_6 : decode jdk_29_method_66_code 6 = .ok (.lload_n 0, 1) := by decide +kernel
theorem d_jdk_29_method_66_7 : decode jdk_29_method_66_code 7 = .ok (.goto 4, 3) := by decide +kernel
theorem d_method_3_0 : decode method_3_code 0 = .ok (.lconst 0, 1) := by decide +kernel
theorem d_method_3_1 : decode method_3_code 1 = .ok (.lstore 14, 2) := by decide +kernel
theorem d_method_3_3 : decode method_3_code 3 = .ok (.lload_n 2, 1) := by decide +kernel
theorem d_method_3_4 : decode method_3_code 4 = .ok (.lload_n 0, 1) := by decide +kernel
theorem d_method_3_5 : decode method_3_code 5 = .ok (.lcmp, 1) := by decide +kernel
theorem d_method_3_6 : decode method_3_code 6 = .ok (.ifCond .lt 10, 3) := by decide +kernel
theorem d_method_3_16 : decode method_3_code 16 = .ok (.lload 6, 2) := by decide +kernel
theorem d_method_3_18 : decode method_3_code 18 = .ok (.lload_n 0, 1) := by decide +kernel
theorem d_method_3_19 : decode method_3_code 19 = .ok (.lcmp, 1) := by decide +kernel
theorem d_method_3_20 : decode method_3_code 20 = .ok (.ifCond .lt 10, 3) := by decide +kernel
theorem d_method_3_30 : decode method_3_code 30 = .ok (.lload 10, 2) := by decide +kernel
theorem d_method_3_32 : decode method_3_code 32 = .ok (.lload_n 0, 1) := by decide +kernel
theorem d_method_3_33 : decode method_3_code 33 = .ok (.lcmp, 1) := by decide +kernel
theorem d_method_3_34 : decode method_3_code 34 = .ok (.ifCond .lt 10, 3) := by decide +kernel
theorem d_method_3_44 : decode method_3_code 44 = .ok (.lload 14, 2) := by decide +kernel
theorem d_method_3_46 : decode method_3_code 46 = .ok (.lreturn, 1) := by decide +kernel
theorem d_method_3_37 : decode method_3_code 37 = .ok (.lload 14, 2) := by decide +kernel
theorem d_method_3_39 : decode method_3_code 39 = .ok (.lload 12, 2) := by decide +kernel
theorem d_method_3_41 : decode method_3_code 41 = .ok (.ladd, 1) := by decide +kernel
theorem d_method_3_42 : decode method_3_code 42 = .ok (.lstore 14, 2) := by decide +kernel
theorem d_method_3_23 : decode method_3_code 23 = .ok (.lload 14, 2) := by decide +kernel
theorem d_method_3_25 : decode method_3_code 25 = .ok (.lload 8, 2) := by decide +kernel
theorem d_method_3_27 : decode method_3_code 27 = .ok (.ladd, 1) := by decide +kernel
theorem d_method_3_28 : decode method_3_code 28 = .ok (.lstore 14, 2) := by decide +kernel
theorem d_method_3_9 : decode method_3_code 9 = .ok (.lload 14, 2) := by decide +kernel
theorem d_method_3_11 : decode method_3_code 11 = .ok (.lload 4, 2) := by decide +kernel
theorem d_method_3_13 : decode method_3_code 13 = .ok (.ladd, 1) := by decide +kernel
theorem d_method_3_14 : decode method_3_code 14 = .ok (.lstore 14, 2) := by decide +kernel
theorem d_method_4_0 : decode method_4_code 0 = .ok (.lconst 0, 1) := by decide +kernel
theorem d_method_4_1 : decode method_4_code 1 = .ok (.lstore 14, 2) := by decide +kernel
theorem d_method_4_3 : decode method_4_code 3 = .ok (.lload_n 2, 1) := by decide +kernel
theorem d_method_4_4 : decode method_4_code 4 = .ok (.lload_n 0, 1) := by decide +kernel
theorem d_method_4_5 : decode method_4_code 5 = .ok (.lcmp, 1) := by decide +kernel
theorem d_method_4_6 : decode method_4_code 6 = .ok (.ifCond .le 10, 3) := by decide +kernel
theorem d_method_4_9 : decode method_4_code 9 = .ok (.lload 14, 2) := by decide +kernel
theorem d_method_4_11 : decode method_4_code 11 = .ok (.lload 4, 2) := by decide +kernel
theorem d_method_4_13 : decode method_4_code 13 = .ok (.ladd, 1) := by decide +kernel
theorem d_method_4_14 : decode method_4_code 14 = .ok (.lstore 14, 2) := by decide +kernel
theorem d_method_4_16 : decode method_4_code 16 = .ok (.lload 6, 2) := by decide +kernel
theorem d_method_4_18 : decode method_4_code 18 = .ok (.lload_n 0, 1) := by decide +kernel
theorem d_method_4_19 : decode method_4_code 19 = .ok (.lcmp, 1) := by decide +kernel
theorem d_method_4_20 : decode method_4_code 20 = .ok (.ifCond .le 10, 3) := by decide +kernel
theorem d_method_4_23 : decode method_4_code 23 = .ok (.lload 14, 2) := by decide +kernel
theorem d_method_4_25 : decode method_4_code 25 = .ok (.lload 8, 2) := by decide +kernel
theorem d_method_4_27 : decode method_4_code 27 = .ok (.ladd, 1) := by decide +kernel
theorem d_method_4_28 : decode method_4_code 28 = .ok (.lstore 14, 2) := by decide +kernel
theorem d_method_4_30 : decode method_4_code 30 = .ok (.lload 10, 2) := by decide +kernel
theorem d_method_4_32 : decode method_4_code 32 = .ok (.lload_n 0, 1) := by decide +kernel
theorem d_method_4_33 : decode method_4_code 33 = .ok (.lcmp, 1) := by decide +kernel
theorem d_method_4_34 : decode method_4_code 34 = .ok (.ifCond .le 10, 3) := by decide +kernel
theorem d_method_4_37 : decode method_4_code 37 = .ok (.lload 14, 2) := by decide +kernel
theorem d_method_4_39 : decode method_4_code 39 = .ok (.lload 12, 2) := by decide +kernel
theorem d_method_4_41 : decode method_4_code 41 = .ok (.ladd, 1) := by decide +kernel
theorem d_method_4_42 : decode method_4_code 42 = .ok (.lstore 14, 2) := by decide +kernel
theorem d_method_4_44 : decode method_4_code 44 = .ok (.lload 14, 2) := by decide +kernel
theorem d_method_4_46 : decode method_4_code 46 = .ok (.lreturn, 1) := by decide +kernel
theorem d_prog_25_method_7_0 : decode prog_25_method_7_code 0 = .ok (.aload_n 0, 1) := by decide +kernel
theorem d_prog_25_method_7_1 : decode prog_25_method_7_code 1 = .ok (.aload_n 0, 1) := by decide +kernel
theorem d_prog_25_method_7_2 : decode prog_25_method_7_code 2 = .ok (.getfield 20, 3) := by decide +kernel
theorem d_prog_25_method_7_5 : decode prog_25_method_7_code 5 = .ok (.iconst 1, 1) := by decide +kernel
theorem d_prog_25_method_7_6 : decode prog_25_method_7_code 6 = .ok (.isub, 1) := by decide +kernel
theorem d_prog_25_method_7_7 : decode prog_25_method_7_code 7 = .ok (.invokevirtual 24, 3) := by decide +kernel
theorem d_prog_25_method_7_10 : decode prog_25_method_7_code 10 = .ok (.lload_n 1, 1) := by decide +kernel
theorem d_prog_25_method_7_11 : decode prog_25_method_7_code 11 = .ok (.lsub, 1) := by decide +kernel
theorem d_prog_25_method_7_12 : decode prog_25_method_7_code 12 = .ok (.lconst 1, 1) := by decide +kernel
theorem d_prog_25_method_7_13 : decode prog_25_method_7_code 13 = .ok (.ladd, 1) := by decide +kernel
theorem d_prog_25_method_7_14 : decode prog_25_method_7_code 14 = .ok (.lstore_n 3, 1) := by decide +kernel
theorem d_prog_25_method_7_15 : decode prog_25_method_7_code 15 = .ok (.iconst 0, 1) := by decide +kernel
theorem d_prog_25_method_7_16 : decode prog_25_method_7_code 16 = .ok (.istore 5, 2) := by decide +kernel
theorem d_prog_25_method_7_18 : decode prog_25_method_7_code 18 = .ok (.aload_n 0, 1) := by decide +kernel
theorem d_prog_25_method_7_19 : decode prog_25_method_7_code 19 = .ok (.getfield 20, 3) := by decide +kernel
theorem d_prog_25_method_7_22 : decode prog_25_method_7_code 22 = .ok (.iconst 1, 1) := by decide +kernel
theorem d_prog_25_method_7_23 : decode prog_25_method_7_code 23 = .ok (.isub, 1) := by decide +kernel
theorem d_prog_25_method_7_24 : decode prog_25_method_7_code 24 = .ok (.istore 6, 2) := by decide +kernel
theorem d_prog_25_method_7_26 : decode prog_25_method_7_code 26 = .ok (.iload 5, 2) := by decide +kernel
theorem d_prog_25_method_7_28 : decode prog_25_method_7_code 28 = .ok (.iload 6, 2) := by decide +kernel
theorem d_prog_25_method_7_30 : decode prog_25_method_7_code 30 = .ok (.if_icmp .ge 39, 3) := by decide +kernel
theorem d_prog_25_method_7_69 : decode prog_25_method_7_code 69 = .ok (.aload_n 0, 1) := by decide +kernel
theorem d_prog_25_method_7_70 : decode prog_25_method_7_code 70 = .ok (.iload 5, 2) := by decide +kernel
theorem d_prog_25_method_7_72 : decode prog_25_method_7_code 72 = .ok (.invokevirtual 31, 3) := by decide +kernel
theorem d_prog_25_method_7_75 : decode prog_25_method_7_code 75 = .ok (.lreturn, 1) := by decide +kernel
theorem d_prog_25_method_7_33 : decode prog_25_method_7_code 33 = .ok (.iload 5, 2) := by decide +kernel
theorem d_prog_25_method_7_35 : decode prog_25_method_7_code 35 = .ok (.iload 6, 2) := by decide +kernel
theorem d_prog_25_method_7_37 : decode prog_25_method_7_code 37 = .ok (.iadd, 1) := by decide +kernel
theorem d_prog_25_method_7_38 : decode prog_25_method_7_code 38 = .ok (.iconst 1, 1) := by decide +kernel
theorem d_prog_25_method_7_39 : decode prog_25_method_7_code 39 = .ok (.iushr, 1) := by decide +kernel
theorem d_prog_25_method_7_40 : decode prog_25_method_7_code 40 = .ok (.istore 7, 2) := by decide +kernel
theorem d_prog_25_method_7_42 : decode prog_25_method_7_code 42 = .ok (.aload_n 0, 1) := by decide +kernel
theorem d_prog_25_method_7_43 : decode prog_25_method_7_code 43 = .ok (.iload 7, 2) := by decide +kernel
theorem d_prog_25_method_7_45 : decode prog_25_method_7_code 45 = .ok (.invokevirtual 24, 3) := by decide +kernel
theorem d_prog_25_method_7_48 : decode prog_25_method_7_code 48 = .ok (.lload_n 3, 1) := by decide +kernel
theorem d_prog_25_method_7_49 : decode prog_25_method_7_code 49 = .ok (.lcmp, 1) := by decide +kernel
theorem d_prog_25_method_7_50 : decode prog_25_method_7_code 50 = .ok (.ifCond .lt 10, 3) := by decide +kernel
theorem d_prog_25_method_7_60 : decode prog_25_method_7_code 60 = .ok (.iload 7, 2) := by decide +kernel
theorem d_prog_25_method_7_62 : decode prog_25_method_7_code 62 = .ok (.iconst 1, 1) := by decide +kernel
theorem d_prog_25_method_7_63 : decode prog_25_method_7_code 63 = .ok (.iadd, 1) := by decide +kernel
theorem d_prog_25_method_7_64 : decode prog_25_method_7_code 64 = .ok (.istore 5, 2) := by decide +kernel
theorem d_prog_25_method_7_66 : decode prog_25_method_7_code 66 = .ok (.goto (-40), 3) := by decide +kernel
theorem d_prog_25_method_7_53 : decode prog_25_method_7_code 53 = .ok (.iload 7, 2) := by decide +kernel
theorem d_prog_25_method_7_55 : decode prog_25_method_7_code 55 = .ok (.istore 6, 2) := by decide +kernel
theorem d_prog_25_method_7_57 : decode prog_25_method_7_code 57 = .ok (.goto 9, 3) := by decide +kernel
theorem pd_0 : parseMethodDescriptor "(I)I" = some ⟨[.int], some .int⟩ := by decide +kernel
theorem pd_1 : parseMethodDescriptor "(I)J" = some ⟨[.int], some .long⟩ := by decide +kernel
theorem pd_2 : parseMethodDescriptor "(J)I" = some ⟨[.long], some .int⟩ := by decide +kernel
theorem pd_3 : parseMethodDescriptor "(IJJ)V" = some ⟨[.int, .long, .long], none⟩ := by decide +kernel
theorem pd_4 : parseMethodDescriptor "()J" = some ⟨[], some .long⟩ := by decide +kernel
theorem pd_5 : parseMethodDescriptor "()V" = some ⟨[], none⟩ := by decide +kernel
theorem pd_6 : parseMethodDescriptor "(JJ)J" = some ⟨[.long, .long], some .long⟩ := by decide +kernel
theorem pd_7 : parseMethodDescriptor "(J)V" = some ⟨[.long], none⟩ := by decide +kernel
theorem pd_8 : parseMethodDescriptor "(JJ)V" = some ⟨[.long, .long], none⟩ := by decide +kernel
theorem pd_9 : parseMethodDescriptor "(J)J" = some ⟨[.long], some .long⟩ := by decide +kernel
theorem pd_10 : parseMethodDescriptor "(JJJJJJJ)J" = some ⟨[.long, .long, .long, .long, .long, .long, .long], some .long⟩ := by decide +kernel
theorem pn_0 : plainName "com/example/bucket_brigade/bucketbrigade/PermitLog" = true := by first | (simp [plainName, overriddenIn]; done) | decide +kernel
theorem pn_1 : plainName "com/example/bucket_brigade/bucketbrigade/PermitLogNewestPinLaw" = true := by first | (simp [plainName, overriddenIn]; done) | decide +kernel
def own_Q (f : Int32) (I : Nat → Int64) (ts : List Int64) : Prop := 0 ≤ f.toInt ∧ f.toInt < 4 ∧ ts.length ≤ 4 ∧ ∀ i t, ts[i]? = some t → I ((f.toInt.toNat + i) % 4) = t
def own_S (ts : List Int64) : Prop := ts.Pairwise fun a b => a < b
def own_pos : List Int64 → Int64 → Nat
  | [], _ => 0
  | t :: r, m => if t < m then own_pos r m + 1 else 0
def own_perm (sz : Int32) (d x : Int64) : Int64 := if sz = 0 then 0 else x - d
def own_nbf (p : Int32) (d x : Int64) : Int64 := if p = 0 then d else x
theorem own_e0 : (0 : Int32).toInt = 0 := by decide
theorem own_e1 : (1 : Int32).toInt = 1 := by decide
theorem own_em : (-1 : Int32).toInt = -1 := by decide
theorem own_tn (x : Int32) : x.toNatClampNeg = x.toInt.toNat := rfl
theorem own_m3 (x : Int32) : ¬ (x &&& (3 : Int32)) < 0 ∧ (x &&& (3 : Int32)).toNatClampNeg < 4 := by
  have h := c_mask x 3 2 (by omega) (by decide)
  rw [own_tn, Int32.lt_iff_toInt_lt, own_e0]
  omega
theorem own_ofn (k : Nat) (h : k ≤ 8) : (Int32.ofNat k).toInt = k := Int32.toInt_ofNat_of_lt (by omega)
theorem own_eqn {x : Int32} {k : Nat} (h : x.toInt = (k : Int)) (hk : k ≤ 8) : x = Int32.ofNat k := Int32.toInt_inj.mp (by rw [own_ofn k hk, h])
theorem own_ltt (a b : Int64) : a < b ↔ a.toInt < b.toInt := Int64.lt_iff_toInt_lt
theorem own_sl {f p : Int32} {i : Nat} (h0 : 0 ≤ f.toInt) (h1 : f.toInt < 4) (hp : p.toInt = (i : Int)) (hi : i ≤ 8) : ((f + p) &&& (3 : Int32)).toNatClampNeg = (f.toInt.toNat + i) % 4 := by
  have a := c_iadd f p
  have r := rng32 (f + p)
  have m := c_mask (f + p) 3 2 (by omega) (by decide)
  rw [own_tn]
  omega
section
variable {f sz lo hi p : Int32} {I : Nat → Int64} {ts : List Int64} {m : Int64}
theorem own_get {i : Nat} {t : Int64} (hQ : own_Q f I ts) (hp : p.toInt = (i : Int)) (ht : ts[i]? = some t) : I ((f + p) &&& (3 : Int32)).toNatClampNeg = t := by
  have hi := (List.getElem?_eq_some_iff.mp ht).1
  rw [own_sl hQ.1 hQ.2.1 hp (by have := hQ.2.2.1; omega)]
  exact hQ.2.2.2 i t ht
theorem own_ple : ∀ (ts : List Int64) (m : Int64), own_pos ts m ≤ ts.length
  | [], _ => Nat.le_refl _
  | t :: r, m => by
    have := own_ple r m
    simp only [own_pos, List.length_cons]
    split <;> omega
theorem own_posb : ∀ {ts : List Int64}, own_S ts → ∀ {i : Nat} {t m : Int64}, ts[i]? = some t → (t < m ↔ i < own_pos ts m)
  | [], _, i, t, m, h => by simp at h
  | a :: r, hS, i, t, m, h => by
    have hS' := List.pairwise_cons.mp hS
    simp only [own_pos]
    cases i with
    | zero =>
      simp at h; subst h
      by_cases q : a < m
      · simp [q]
      · simp [q]
    | succ i =>
      simp at h
      have ih := own_posb (m := m) hS'.2 h
      by_cases q : a < m
      · simp [q, ih]
      · have hm : t ∈ r := List.mem_of_getElem? h
        have hat := hS'.1 t hm
        rw [own_ltt] at q hat
        have : ¬ t < m := by rw [own_ltt]; omega
        simp [this, own_ltt, q]
theorem own_idx {i : Nat} (h : i < ts.length) : ∃ t, ts[i]? = some t := ⟨ts[i], List.getElem?_eq_getElem h⟩
theorem own_sne (hsz : sz.toInt = (ts.length : Int)) (h : ¬ sz = 0) : 0 < ts.length := by
  have : sz.toInt ≠ 0 := fun q => h (Int32.toInt_inj.mp (by rw [own_e0]; exact q))
  omega
theorem own_sm1 (hsz : sz.toInt = (ts.length : Int)) (h : 0 < ts.length) (hl : ts.length ≤ 4) : (sz - (1 : Int32)).toInt = ((ts.length - 1 : Nat) : Int) := by
  have a := c_isub sz 1
  have r := rng32 (sz - 1)
  rw [own_e1] at a
  omega
theorem own_b0 (hsz : sz.toInt = (ts.length : Int)) (h : sz = 0) : 0 ≤ sz.toInt ∧ sz.toInt ≤ (own_pos ts m : Int) ∧ (own_pos ts m : Int) ≤ sz.toInt ∧ sz.toInt ≤ (ts.length : Int) := by
  have := own_ple ts m
  rw [h, own_e0] at hsz ⊢
  omega
theorem own_b1 (hQ : own_Q f I ts) (hsz : sz.toInt = (ts.length : Int)) (hS : own_S ts) (h : ¬ sz = 0) (h2 : I ((f + (sz - (1 : Int32))) &&& (3 : Int32)).toNatClampNeg < m) : 0 ≤ sz.toInt ∧ sz.toInt ≤ (own_pos ts m : Int) ∧ (own_pos ts m : Int) ≤ sz.toInt ∧ sz.toInt ≤ (ts.length : Int) := by
  have h0 := own_sne hsz h
  obtain ⟨t, ht⟩ := own_idx (ts := ts) (i := ts.length - 1) (by omega)
  rw [own_get hQ (own_sm1 hsz h0 hQ.2.2.1) ht] at h2
  have := (own_posb hS ht).mp h2
  have := own_ple ts m
  omega
theorem own_b2 (hQ : own_Q f I ts) (hsz : sz.toInt = (ts.length : Int)) (hS : own_S ts) (h : ¬ sz = 0) (h2 : ¬ I ((f + (0 : Int32)) &&& (3 : Int32)).toNatClampNeg < m) : 0 ≤ (0 : Int32).toInt ∧ (0 : Int32).toInt ≤ (own_pos ts m : Int) ∧ (own_pos ts m : Int) ≤ (0 : Int32).toInt ∧ (0 : Int32).toInt ≤ (ts.length : Int) := by
  have h0 := own_sne hsz h
  obtain ⟨t, ht⟩ := own_idx (ts := ts) (i := 0) h0
  rw [own_get hQ (i := 0) own_e0 ht] at h2
  have := mt (own_posb (m := m) hS ht).mpr h2
  rw [own_e0]
  omega
theorem own_b3 (hQ : own_Q f I ts) (hsz : sz.toInt = (ts.length : Int)) (hS : own_S ts) (h : ¬ sz = 0) (h2 : I ((f + (sz - (1 : Int32))) &&& (3 : Int32)).toNatClampNeg = m) : 0 ≤ (sz - (1 : Int32)).toInt ∧ (sz - (1 : Int32)).toInt ≤ (own_pos ts m : Int) ∧ (own_pos ts m : Int) ≤ (sz - (1 : Int32)).toInt ∧ (sz - (1 : Int32)).toInt ≤ (ts.length : Int) := by
  have h0 := own_sne hsz h
  have hs1 := own_sm1 hsz h0 hQ.2.2.1
  obtain ⟨t, ht⟩ := own_idx (ts := ts) (i := ts.length - 1) (by omega)
  rw [own_get hQ hs1 ht] at h2
  subst h2
  have h3 := own_posb (m := t) hS ht
  have h4 : ¬ t < t := by rw [own_ltt]; omega
  have h5 := mt h3.mpr h4
  have h6 : ts.length - 1 ≤ own_pos ts t := by
    by_cases q : ts.length - 1 = 0
    · omega
    · obtain ⟨u, hu⟩ := own_idx (ts := ts) (i := ts.length - 2) (by omega)
      have h7 : u < t := by
        have := (List.pairwise_iff_getElem.mp hS) (ts.length - 2) (ts.length - 1) (by omega) (by omega) (by omega)
        rw [(List.getElem?_eq_some_iff.mp hu).2, (List.getElem?_eq_some_iff.mp ht).2] at this
        exact this
      have := (own_posb (m := t) hS hu).mp h7
      omega
  omega
theorem own_b4 (hsz : sz.toInt = (ts.length : Int)) : 0 ≤ (0 : Int32).toInt ∧ (0 : Int32).toInt ≤ (own_pos ts m : Int) ∧ (own_pos ts m : Int) ≤ sz.toInt ∧ sz.toInt ≤ (ts.length : Int) := by
  have := own_ple ts m
  rw [own_e0]
  omega
abbrev own_mid (lo hi : Int32) : Int32 := ((lo + hi).toUInt32 >>> ((1 : Int32) &&& 31).toUInt32).toInt32
theorem own_midv (h0 : 0 ≤ lo.toInt) (h1 : hi.toInt ≤ 8) (h2 : lo.toInt < hi.toInt) : (own_mid lo hi).toInt = (lo.toInt + hi.toInt) / 2 := by
  have a := c_iadd lo hi
  have r := rng32 (lo + hi)
  have s := c_iushr (lo + hi) 1 1 (by decide) (by omega)
  have s' : (own_mid lo hi).toInt = (lo + hi).toInt % 4294967296 / 2 := s
  rw [s']
  omega
theorem own_midt (hQ : own_Q f I ts) (hB : 0 ≤ lo.toInt ∧ lo.toInt ≤ (own_pos ts m : Int) ∧ (own_pos ts m : Int) ≤ hi.toInt ∧ hi.toInt ≤ (ts.length : Int)) (hc : lo < hi) : ∃ (i : Nat) (t : Int64), (own_mid lo hi).toInt = (i : Int) ∧ lo.toInt ≤ i ∧ (i : Int) < hi.toInt ∧ 2 * (i : Int) ≤ lo.toInt + hi.toInt ∧ lo.toInt + hi.toInt ≤ 2 * i + 1 ∧ ts[i]? = some t := by
  have hl := hQ.2.2.1
  rw [Int32.lt_iff_toInt_lt] at hc
  have h := own_midv hB.1 (by omega) hc
  obtain ⟨t, ht⟩ := own_idx (ts := ts) (i := (own_mid lo hi).toInt.toNat) (by omega)
  exact ⟨_, t, by omega, by omega, by omega, by omega, by omega, ht⟩
theorem own_lo (hQ : own_Q f I ts) (hsz : sz.toInt = (ts.length : Int)) (hS : own_S ts) (hB : 0 ≤ lo.toInt ∧ lo.toInt ≤ (own_pos ts m : Int) ∧ (own_pos ts m : Int) ≤ hi.toInt ∧ hi.toInt ≤ (ts.length : Int)) (hc : lo < hi) (h2 : I ((f + own_mid lo hi) &&& (3 : Int32)).toNatClampNeg < m) : 0 ≤ (own_mid lo hi + (1 : Int32)).toInt ∧ (own_mid lo hi + (1 : Int32)).toInt ≤ (own_pos ts m : Int) ∧ (own_pos ts m : Int) ≤ hi.toInt ∧ hi.toInt ≤ (ts.length : Int) := by
  obtain ⟨i, t, e1, e2, e3, -, -, e4⟩ := own_midt hQ hB hc
  rw [own_get hQ e1 e4] at h2
  have h3 := (own_posb hS e4).mp h2
  have a := c_iadd (own_mid lo hi) 1
  have r := rng32 (own_mid lo hi + 1)
  have hl := hQ.2.2.1
  rw [own_e1] at a
  omega
theorem own_hi (hQ : own_Q f I ts) (hsz : sz.toInt = (ts.length : Int)) (hS : own_S ts) (hB : 0 ≤ lo.toInt ∧ lo.toInt ≤ (own_pos ts m : Int) ∧ (own_pos ts m : Int) ≤ hi.toInt ∧ hi.toInt ≤ (ts.length : Int)) (hc : lo < hi) (h2 : ¬ I ((f + own_mid lo hi) &&& (3 : Int32)).toNatClampNeg < m) : 0 ≤ lo.toInt ∧ lo.toInt ≤ (own_pos ts m : Int) ∧ (own_pos ts m : Int) ≤ (own_mid lo hi).toInt ∧ (own_mid lo hi).toInt ≤ (ts.length : Int) := by
  obtain ⟨i, t, e1, e2, e3, -, -, e4⟩ := own_midt hQ hB hc
  rw [own_get hQ e1 e4] at h2
  have h3 := mt (own_posb (m := m) hS e4).mpr h2
  omega
theorem own_kl1 {k : Nat} (hQ : own_Q f I ts) (hB : 0 ≤ lo.toInt ∧ lo.toInt ≤ (own_pos ts m : Int) ∧ (own_pos ts m : Int) ≤ hi.toInt ∧ hi.toInt ≤ (ts.length : Int)) (hk : hi.toInt - lo.toInt ≤ ((k + 1 : Nat) : Int)) (hc : lo < hi) : hi.toInt - (own_mid lo hi + (1 : Int32)).toInt ≤ (k : Int) := by
  obtain ⟨i, t, e1, e2, e3, e5, e6, e4⟩ := own_midt hQ hB hc
  have a := c_iadd (own_mid lo hi) 1
  have r := rng32 (own_mid lo hi + 1)
  have hl := hQ.2.2.1
  rw [own_e1] at a
  omega
theorem own_kl2 {k : Nat} (hQ : own_Q f I ts) (hB : 0 ≤ lo.toInt ∧ lo.toInt ≤ (own_pos ts m : Int) ∧ (own_pos ts m : Int) ≤ hi.toInt ∧ hi.toInt ≤ (ts.length : Int)) (hk : hi.toInt - lo.toInt ≤ ((k + 1 : Nat) : Int)) (hc : lo < hi) : (own_mid lo hi).toInt - lo.toInt ≤ (k : Int) := by
  obtain ⟨i, t, e1, e2, e3, e5, e6, e4⟩ := own_midt hQ hB hc
  omega
theorem own_k0 (hQ : own_Q f I ts) (hB : 0 ≤ lo.toInt ∧ lo.toInt ≤ (own_pos ts m : Int) ∧ (own_pos ts m : Int) ≤ hi.toInt ∧ hi.toInt ≤ (ts.length : Int)) : hi.toInt - lo.toInt ≤ ((4 : Nat) : Int) := by
  have hl := hQ.2.2.1
  omega
theorem own_z (hB : 0 ≤ lo.toInt ∧ lo.toInt ≤ (own_pos ts m : Int) ∧ (own_pos ts m : Int) ≤ hi.toInt ∧ hi.toInt ≤ (ts.length : Int)) (hk : hi.toInt - lo.toInt ≤ ((0 : Nat) : Int)) : ¬ lo < hi := by
  rw [Int32.lt_iff_toInt_lt]; omega
theorem own_done (hQ : own_Q f I ts) (hB : 0 ≤ lo.toInt ∧ lo.toInt ≤ (own_pos ts m : Int) ∧ (own_pos ts m : Int) ≤ hi.toInt ∧ hi.toInt ≤ (ts.length : Int)) (h : ¬ lo < hi) : lo = Int32.ofNat (own_pos ts m) := by
  have hl := hQ.2.2.1
  rw [Int32.lt_iff_toInt_lt] at h
  exact own_eqn (by omega) (by omega)
end
def own_at (l : List Int64) (k : Nat) (x : Int64) : List Int64 := l.take k ++ x :: l.drop k
def own_sh (f : Int32) (I I2 : Nat → Int64) (i len : Nat) : Prop := ∀ j, j ≤ len → I2 ((f.toInt.toNat + j) % 4) = if j ≤ i then I ((f.toInt.toNat + j) % 4) else I ((f.toInt.toNat + (j - 1)) % 4)
def own_ti (ts : List Int64) (x : Int64) : List Int64 := if ts[own_pos ts x]? = some x then ts else own_at ts (own_pos ts x) x
def own_nbv (d : Int64) (ns : List Int64) (k : Nat) : Int64 := if k = 0 then d else ns.getD (k - 1) 0
def own_ni (d : Int64) (ts ns : List Int64) (x : Int64) : List Int64 := if ts[own_pos ts x]? = some x then ns else own_at ns (own_pos ts x) (own_nbv d ns (own_pos ts x))
def own_bump (l : List Int64) (k : Nat) (p : Int64) : List Int64 := l.take k ++ (l.drop k).map (· + p)
def own_ad (f : Int32) (N2 N3 : Nat → Int64) (p : Int64) (pos cur len : Nat) : Prop := ∀ j, j < len → N3 ((f.toInt.toNat + j) % 4) = if pos ≤ j ∧ j < cur then N2 ((f.toInt.toNat + j) % 4) + p else N2 ((f.toInt.toNat + j) % 4)
theorem own_at_get (l : List Int64) (k : Nat) (x : Int64) (hk : k ≤ l.length) (i : Nat) : (own_at l k x)[i]? = if i < k then l[i]? else if i = k then some x else l[i - 1]? := by
  unfold own_at
  have hl : (l.take k).length = k := by simp; omega
  by_cases h : i < k
  · rw [if_pos h, List.getElem?_append_left (by omega), List.getElem?_take, if_pos h]
  · rw [if_neg h, List.getElem?_append_right (by omega), hl]
    by_cases h2 : i = k
    · subst h2; simp
    · rw [if_neg h2]
      obtain ⟨j, hj⟩ : ∃ j, i - k = j + 1 := ⟨i - k - 1, by omega⟩
      rw [hj, List.getElem?_cons_succ, List.getElem?_drop]
      congr 1
      omega
theorem own_at_len (l : List Int64) (k : Nat) (x : Int64) (hk : k ≤ l.length) : (own_at l k x).length = l.length + 1 := by
  unfold own_at
  simp
  omega
section
variable {f sz p1 i6 : Int32} {I I2 N N2 N3 I0 : Nat → Int64} {ts ns ls : List Int64} {kk k len : Nat} {x d p q1 : Int64}
theorem own_sh0 {i : Nat} (h : len ≤ i) : own_sh f I I i len := fun j hj => by rw [if_pos (by omega)]
theorem own_dec (hi : i6.toInt = ((kk + (k + 1) : Nat) : Int)) (h : kk + (k + 1) ≤ 8) : (i6 + (-1 : Int32)).toInt = ((kk + k : Nat) : Int) := by
  have a := c_iadd i6 (-1)
  have r := rng32 (i6 + -1)
  rw [own_em] at a
  omega
theorem own_shs (hQ : own_Q f I0 ts) (hl : ts.length < 4) (hi : i6.toInt = ((kk + (k + 1) : Nat) : Int)) (hkl : kk + (k + 1) ≤ ts.length) (h : own_sh f I I2 (kk + (k + 1)) ts.length) : own_sh f I (aup I2 ((f + i6) &&& (3 : Int32)).toNatClampNeg (I2 ((f + (i6 - (1 : Int32))) &&& (3 : Int32)).toNatClampNeg)) (kk + k) ts.length := by
  have a := c_isub i6 1
  have r := rng32 (i6 - 1)
  rw [own_e1] at a
  have e1 := own_sl (p := i6) hQ.1 hQ.2.1 hi (by omega)
  have e2 := own_sl (p := i6 - 1) (i := kk + k) hQ.1 hQ.2.1 (by omega) (by omega)
  rw [e1, e2]
  intro j hj
  simp only [aup]
  have h0 := hQ.1
  have h1 := hQ.2.1
  by_cases c : j = kk + (k + 1)
  · subst c
    rw [if_pos rfl, if_neg (by omega), h (kk + k) (by omega), if_pos (by omega)]
    congr 1
  · rw [if_neg (by omega), h j hj]
    by_cases c2 : j ≤ kk + k
    · rw [if_pos (by omega), if_pos c2]
    · rw [if_neg (by omega), if_neg c2]
theorem own_i0 (hat : p1.toInt = (kk : Int)) (hi : i6.toInt = ((kk + 0 : Nat) : Int)) : ¬ p1 < i6 := by rw [Int32.lt_iff_toInt_lt]; omega
theorem own_i1 (hat : p1.toInt = (kk : Int)) (hi : i6.toInt = ((kk + (k + 1) : Nat) : Int)) : p1 < i6 := by rw [Int32.lt_iff_toInt_lt]; omega
theorem own_n4 (hsz : sz.toInt = (ts.length : Int)) (hl : ts.length < 4) : ¬ sz = 4 := fun q => by
  have e : (4 : Int32).toInt = 4 := by decide
  rw [q, e] at hsz
  omega
theorem own_inq (hQ : own_Q f I0 ts) (hI : own_Q f I ls) (hll : ls.length = ts.length) (hl : ts.length < 4) (hat : p1.toInt = (kk : Int)) (hk0 : kk ≤ ts.length) (h : own_sh f I I2 (kk + 0) ts.length) : own_Q f (aup I2 ((f + p1) &&& (3 : Int32)).toNatClampNeg x) (own_at ls kk x) := by
  refine ⟨hQ.1, hQ.2.1, by rw [own_at_len _ _ _ (by omega)]; omega, fun i t ht => ?_⟩
  have h0 := hQ.1
  have h1 := hQ.2.1
  rw [own_sl hQ.1 hQ.2.1 hat (by omega)]
  have hi : i < ls.length + 1 := by rw [← own_at_len ls kk x (by omega)]; exact (List.getElem?_eq_some_iff.mp ht).1
  rw [own_at_get _ _ _ (by omega)] at ht
  simp only [aup]
  by_cases c : i = kk
  · subst c
    simp at ht
    rw [if_pos rfl, ht]
  · rw [if_neg (by omega), h i (by omega)]
    by_cases c2 : i < kk
    · rw [if_pos c2] at ht
      rw [if_pos (by omega)]
      exact hI.2.2.2 i t ht
    · rw [if_neg c2, if_neg c] at ht
      rw [if_neg (by omega)]
      exact hI.2.2.2 (i - 1) t ht
theorem own_pat (hl : ts.length < 4) : (Int32.ofNat (own_pos ts q1)).toInt = (own_pos ts q1 : Int) := own_ofn _ (by have := own_ple ts q1; omega)
theorem own_plt13 (hsz : sz.toInt = (ts.length : Int)) (hQ : own_Q f I ts) (h : ¬ (Int32.ofNat (own_pos ts q1)) = sz) : own_pos ts q1 < ts.length := by
  have h1 := own_ple ts q1
  have h2 := hQ.2.2.1
  have h3 : own_pos ts q1 ≠ ts.length := fun e => h (own_eqn (by rw [hsz, e]) (by omega)).symm
  omega
theorem own_fd (hQ : own_Q f I ts) (hsz : sz.toInt = (ts.length : Int)) (h : ¬ (Int32.ofNat (own_pos ts q1)) = sz) (h2 : I ((f + (Int32.ofNat (own_pos ts q1))) &&& (3 : Int32)).toNatClampNeg = q1) : ts[own_pos ts q1]? = some q1 := by
  have h1 := own_plt13 hsz hQ h
  obtain ⟨t, ht⟩ := own_idx (ts := ts) h1
  have h3 := hQ.2.2.1
  rw [own_get hQ (own_ofn _ (by omega)) ht] at h2
  rw [ht, h2]
theorem own_nf1 (hQ : own_Q f I ts) (hsz : sz.toInt = (ts.length : Int)) (h : (Int32.ofNat (own_pos ts q1)) = sz) : ¬ ts[own_pos ts q1]? = some q1 := fun e => by
  have h1 := (List.getElem?_eq_some_iff.mp e).1
  have h2 := hQ.2.2.1
  have h3 := own_ofn (own_pos ts q1) (by omega)
  rw [h, hsz] at h3
  omega
theorem own_nf2 (hQ : own_Q f I ts) (hsz : sz.toInt = (ts.length : Int)) (h : ¬ (Int32.ofNat (own_pos ts q1)) = sz) (h2 : ¬ I ((f + (Int32.ofNat (own_pos ts q1))) &&& (3 : Int32)).toNatClampNeg = q1) : ¬ ts[own_pos ts q1]? = some q1 := fun e => by
  have h1 := (List.getElem?_eq_some_iff.mp e).1
  have h3 := hQ.2.2.1
  exact h2 (own_get hQ (own_ofn _ (by omega)) e)
theorem own_ti1 (hQ : own_Q f I ts) (hf : ts[own_pos ts q1]? = some q1) : own_Q f I (own_ti ts q1) := by unfold own_ti; rw [if_pos hf]; exact hQ
theorem own_ni1 (hN : own_Q f N ns) (hf : ts[own_pos ts q1]? = some q1) : own_Q f N (own_ni d ts ns q1) := by unfold own_ni; rw [if_pos hf]; exact hN
theorem own_sz1 (hsz : sz.toInt = (ts.length : Int)) (hf : ts[own_pos ts q1]? = some q1) : sz.toInt = ((own_ti ts q1).length : Int) := by unfold own_ti; rw [if_pos hf]; exact hsz
theorem own_ti2 (hf : ¬ ts[own_pos ts q1]? = some q1) (hQ : own_Q f I (own_at ts (own_pos ts q1) q1)) : own_Q f I (own_ti ts q1) := by unfold own_ti; rw [if_neg hf]; exact hQ
theorem own_ni2 (hf : ¬ ts[own_pos ts q1]? = some q1) (hQ : own_Q f I ts) (hN : own_Q f N ns) (hll : ns.length = ts.length) (hl : ts.length < 4) (h : own_Q f N3 (own_at ns (own_pos ts q1) (own_nbf (Int32.ofNat (own_pos ts q1)) d (N ((f + ((Int32.ofNat (own_pos ts q1)) - (1 : Int32))) &&& (3 : Int32)).toNatClampNeg)))) : own_Q f N3 (own_ni d ts ns q1) := by
  unfold own_ni
  rw [if_neg hf]
  have e : own_nbf (Int32.ofNat (own_pos ts q1)) d (N ((f + ((Int32.ofNat (own_pos ts q1)) - (1 : Int32))) &&& (3 : Int32)).toNatClampNeg) = own_nbv d ns (own_pos ts q1) := by
    have h1 := own_ple ts q1
    have h2 := own_ofn (own_pos ts q1) (by omega)
    unfold own_nbf own_nbv
    by_cases c : own_pos ts q1 = 0
    · rw [if_pos c, if_pos (by rw [c]; rfl)]
    · have c' : ¬ Int32.ofNat (own_pos ts q1) = 0 := fun q => by rw [q, own_e0] at h2; omega
      rw [if_neg c, if_neg c']
      have a := c_isub (Int32.ofNat (own_pos ts q1)) 1
      have r := rng32 (Int32.ofNat (own_pos ts q1) - 1)
      rw [own_e1] at a
      obtain ⟨t, ht⟩ := own_idx (ts := ns) (i := own_pos ts q1 - 1) (by omega)
      rw [own_get hN (i := own_pos ts q1 - 1) (by omega) ht, List.getD_eq_getElem?_getD, ht]
      rfl
  rw [← e]
  exact h
theorem own_til (hf : ¬ ts[own_pos ts q1]? = some q1) : (own_ti ts q1).length = ts.length + 1 := by unfold own_ti; rw [if_neg hf]; exact own_at_len _ _ _ (own_ple ts q1)
theorem own_sz2 (hf : ¬ ts[own_pos ts q1]? = some q1) (hsz : sz.toInt = (ts.length : Int)) (hl : ts.length < 4) : (sz + (1 : Int32)).toInt = ((own_ti ts q1).length : Int) := by
  have a := c_iadd sz 1
  have r := rng32 (sz + 1)
  rw [own_e1] at a
  rw [own_til hf]
  omega
theorem own_tle : own_pos ts q1 ≤ (own_ti ts q1).length := by
  have h := own_ple ts q1
  by_cases hf : ts[own_pos ts q1]? = some q1
  · unfold own_ti; rw [if_pos hf]; exact h
  · rw [own_til hf]; omega
theorem own_st (hl : ts.length < 4) : (Int32.ofNat (own_pos ts q1)).toInt = (((own_ti ts q1).length - ((own_ti ts q1).length - own_pos ts q1) : Nat) : Int) := by
  have h := own_tle (ts := ts) (q1 := q1)
  rw [own_pat hl]
  omega
theorem own_ad0 (h : own_pos ts q1 ≤ len) : own_ad f N2 N2 p (own_pos ts q1) (len - (len - own_pos ts q1)) len := fun j hj => by rw [if_neg (by omega)]
theorem own_inc (hQ : own_Q f I2 ls) {pos : Nat} (hkl : k + 1 ≤ ls.length - pos) (hi : i6.toInt = ((ls.length - (k + 1) : Nat) : Int)) : (i6 + (1 : Int32)).toInt = ((ls.length - k : Nat) : Int) := by
  have a := c_iadd i6 1
  have r := rng32 (i6 + 1)
  have h := hQ.2.2.1
  rw [own_e1] at a
  omega
theorem own_ads (hQ : own_Q f I2 ls) {pos : Nat} (hkl : k + 1 ≤ ls.length - pos) (hi : i6.toInt = ((ls.length - (k + 1) : Nat) : Int)) (ha : own_ad f N2 N3 p pos (ls.length - (k + 1)) ls.length) : own_ad f N2 (aup N3 ((f + i6) &&& (3 : Int32)).toNatClampNeg ((N3 ((f + i6) &&& (3 : Int32)).toNatClampNeg) + p)) p pos (ls.length - k) ls.length := by
  have h := hQ.2.2.1
  have h0 := hQ.1
  have h1 := hQ.2.1
  rw [own_sl hQ.1 hQ.2.1 hi (by omega)]
  intro j hj
  simp only [aup]
  by_cases c : j = ls.length - (k + 1)
  · subst c
    rw [if_pos rfl, if_pos (by omega), ha _ hj, if_neg (by omega)]
  · rw [if_neg (by omega), ha j hj]
    by_cases c2 : pos ≤ j ∧ j < ls.length - (k + 1)
    · rw [if_pos c2, if_pos (by omega)]
    · rw [if_neg c2, if_neg (by omega)]
theorem own_j0 {s2 : Int32} (hi : i6.toInt = ((ls.length - 0 : Nat) : Int)) (hs : s2.toInt = (ls.length : Int)) : ¬ i6 < s2 := by rw [Int32.lt_iff_toInt_lt]; omega
theorem own_j1 {s2 : Int32} {pos : Nat} (hi : i6.toInt = ((ls.length - (k + 1) : Nat) : Int)) (hs : s2.toInt = (ls.length : Int)) (hkl : k + 1 ≤ ls.length - pos) : i6 < s2 := by rw [Int32.lt_iff_toInt_lt]; omega
theorem own_nil (hll : ns.length = ts.length) : (own_ni d ts ns q1).length = (own_ti ts q1).length := by
  unfold own_ni own_ti
  have h := own_ple ts q1
  split
  · exact hll
  · rw [own_at_len _ _ _ (by omega), own_at_len _ _ _ h, hll]
theorem own_adq (hQ : own_Q f I2 ls) (hN : own_Q f N2 ns) (hll : ns.length = ls.length) {pos : Nat} (ha : own_ad f N2 N3 p pos (ls.length - 0) ls.length) : own_Q f N3 (own_bump ns pos p) := by
  refine ⟨hQ.1, hQ.2.1, by unfold own_bump; simp; have := hQ.2.2.1; omega, fun i t ht => ?_⟩
  unfold own_bump at ht
  have hi : i < ns.length := by
    have := (List.getElem?_eq_some_iff.mp ht).1
    simp at this
    omega
  obtain ⟨u, hu⟩ := own_idx (ts := ns) hi
  rw [ha i (by omega), hN.2.2.2 i u hu]
  by_cases c : i < pos
  · rw [if_neg (by omega)]
    rw [List.getElem?_append_left (by simp; omega), List.getElem?_take, if_pos c, hu] at ht
    exact Option.some.inj ht
  · rw [if_pos (by omega)]
    by_cases c2 : pos ≤ ns.length
    · rw [List.getElem?_append_right (by simp; omega), List.getElem?_map, List.getElem?_drop] at ht
      have e : pos + (i - (List.take pos ns).length) = i := by simp; omega
      rw [e, hu] at ht
      exact Option.some.inj ht
    · omega
end
def own_Two (a b : Slot) : Prop := (a = .unset ∧ b = .unset) ∨ ∃ x : Int64, a = .val (.long x) ∧ b = .second
def own_M (d : Int64) (ns : List Int64) : Prop := (d :: ns).Pairwise (fun a b => a.toInt ≤ b.toInt) ∧ ∀ x ∈ d :: ns, 0 ≤ x.toInt ∧ x.toInt ≤ 1099511627776
def own_tt (d : Int64) (ns : List Int64) : Int64 := match ns.getLast? with | none => 0 | some x => x - d
def own_kp : Int64 → List Int64 → List Int64 → Int64 → Int64 × List Int64 × List Int64
  | d, t :: ts, n :: ns, e => if 0 < e then (if e < n - d then (d + e, t :: ts, n :: ns) else own_kp n ts ns (e - (n - d))) else (d, t :: ts, n :: ns)
  | d, [], ns, _ => (d, [], ns)
  | d, ts, [], _ => (d, ts, [])
def own_kf : Int64 → List Int64 → List Int64 → Int64 → Int64 × List Int64 × List Int64
  | d, t :: ts, n :: ns, x => if t < x then own_kf n ts ns x else (d, t :: ts, n :: ns)
  | d, [], ns, _ => (d, [], ns)
  | d, ts, [], _ => (d, ts, [])
theorem own_el0 : (0 : Int64).toInt = 0 := by decide
section
variable {f sz f2 s2 : Int32} {I N : Nat → Int64} {ts ns ts2 ns2 tr nr : List Int64} {d d2 e3 q1 t0 n0 : Int64} {k : Nat} {R : Int64 × List Int64 × List Int64}
theorem own_pt (hN : own_Q f N ns) (hsz : sz.toInt = (ts.length : Int)) (hll : ns.length = ts.length) : own_perm sz d (N ((f + (sz - (1 : Int32))) &&& (3 : Int32)).toNatClampNeg) = own_tt d ns := by
  unfold own_perm own_tt
  rw [← hll] at hsz
  by_cases c : sz = 0
  · rw [if_pos c]
    rw [c, own_e0] at hsz
    have : ns = [] := List.length_eq_zero_iff.mp (by omega)
    subst this; rfl
  · rw [if_neg c]
    have h0 := own_sne hsz c
    have h1 := own_sm1 hsz h0 hN.2.2.1
    obtain ⟨t, ht⟩ := own_idx (ts := ns) (i := ns.length - 1) (by omega)
    rw [own_get hN h1 ht, List.getLast?_eq_getElem?, ht]
theorem own_lsub (a b : Int64) (ha : 0 ≤ a.toInt ∧ a.toInt ≤ 4398046511104) (hb : 0 ≤ b.toInt) : (a - b).toInt = a.toInt - b.toInt := by
  have h := c_lsub a b
  have r := rng64 (a - b)
  have r2 := rng64 b
  omega
theorem own_ladd (a b : Int64) (ha : 0 ≤ a.toInt ∧ a.toInt ≤ 4398046511104) (hb : 0 ≤ b.toInt ∧ b.toInt ≤ 4398046511104) : (a + b).toInt = a.toInt + b.toInt := by
  have h := c_ladd a b
  have r := rng64 (a + b)
  omega
theorem own_ttv (hM : own_M d ns) : (own_tt d ns).toInt = (match ns.getLast? with | none => 0 | some x => x.toInt - d.toInt) ∧ 0 ≤ (own_tt d ns).toInt ∧ (own_tt d ns).toInt ≤ 1099511627776 := by
  unfold own_tt
  cases h : ns.getLast? with
  | none => exact ⟨own_el0, by show 0 ≤ (0 : Int64).toInt; rw [own_el0]; omega, by show (0 : Int64).toInt ≤ _; rw [own_el0]; omega⟩
  | some x =>
    have hx : x ∈ ns := List.mem_of_getLast? h
    have h1 := hM.2 x (List.mem_cons_of_mem _ hx)
    have h2 := hM.2 d (List.mem_cons_self ..)
    have h3 := (List.pairwise_cons.mp hM.1).1 x hx
    have h4 := own_lsub x d (by omega) h2.1
    refine ⟨h4, ?_, ?_⟩
    · show 0 ≤ (x - d).toInt; omega
    · show (x - d).toInt ≤ _; omega
theorem own_he (hN : own_Q f N ns) (hsz : sz.toInt = (ts.length : Int)) (hll : ns.length = ts.length) (hM : own_M d ns) (hq : 0 ≤ q1.toInt) : ((own_perm sz d (N ((f + (sz - (1 : Int32))) &&& (3 : Int32)).toNatClampNeg)) - q1).toInt ≤ (own_tt d ns).toInt := by
  rw [own_pt hN hsz hll]
  have h := own_ttv hM
  rw [own_lsub _ _ (by omega) hq]
  omega
theorem own_ne (hc : (0 : Int64) < e3) (he : e3.toInt ≤ (own_tt d2 ns2).toInt) (hl : ns2.length = ts2.length) : ∃ t0 tr n0 nr, ts2 = t0 :: tr ∧ ns2 = n0 :: nr := by
  rw [own_ltt, own_el0] at hc
  cases ns2 with
  | nil => exfalso; have : (own_tt d2 []).toInt = 0 := own_el0; omega
  | cons n0 nr =>
    cases ts2 with
    | nil => simp at hl
    | cons t0 tr => exact ⟨_, _, _, _, rfl, rfl⟩
theorem own_nef (hc : (0 : Int32) < s2) (hs : s2.toInt = (ts2.length : Int)) (hl : ns2.length = ts2.length) : ∃ t0 tr n0 nr, ts2 = t0 :: tr ∧ ns2 = n0 :: nr := by
  rw [Int32.lt_iff_toInt_lt, own_e0] at hc
  cases ts2 with
  | nil => exfalso; simp at hs; omega
  | cons t0 tr =>
    cases ns2 with
    | nil => simp at hl
    | cons n0 nr => exact ⟨_, _, _, _, rfl, rfl⟩
theorem own_kz {x : Nat} (hk : (if (0 : Int64) < e3 then x + 1 else 0) ≤ 0) : ¬ (0 : Int64) < e3 := fun q => by rw [if_pos q] at hk; omega
theorem own_fz (hk : ts2.length ≤ 0) (hs : s2.toInt = (ts2.length : Int)) : ¬ (0 : Int32) < s2 := by rw [Int32.lt_iff_toInt_lt, own_e0]; omega
theorem own_kB (hr : own_kp d2 (t0 :: tr) (n0 :: nr) e3 = R) (hc : (0 : Int64) < e3) (h : e3 < (n0 - d2)) : own_kp (d2 + e3) (t0 :: tr) (n0 :: nr) (0 : Int64) = R := by
  rw [← hr]
  simp only [own_kp]
  rw [if_pos hc, if_pos h, if_neg (by rw [own_ltt]; omega)]
theorem own_kA (hr : own_kp d2 (t0 :: tr) (n0 :: nr) e3 = R) (hc : (0 : Int64) < e3) (h : ¬ e3 < (n0 - d2)) : own_kp n0 tr nr (e3 - (n0 - d2)) = R := by
  rw [← hr]
  simp only [own_kp]
  rw [if_pos hc, if_neg h]
theorem own_kend (hr : own_kp d2 ts2 ns2 e3 = R) (h : ¬ (0 : Int64) < e3) : (d2, ts2, ns2) = R := by
  rw [← hr]
  cases ts2 with
  | nil => rfl
  | cons t tr =>
    cases ns2 with
    | nil => rfl
    | cons n nr => simp only [own_kp]; rw [if_neg h]
theorem own_QA (hQ : own_Q f2 I (t0 :: tr)) : own_Q ((f2 + (1 : Int32)) &&& (3 : Int32)) I tr := by
  obtain ⟨h0, h1, h2, h3⟩ := hQ
  have a := c_iadd f2 1
  have r := rng32 (f2 + 1)
  have m := c_mask (f2 + 1) 3 2 (by omega) (by decide)
  rw [own_e1] at a
  refine ⟨by omega, by omega, by simp at h2; omega, fun i t ht => ?_⟩
  have := h3 (i + 1) t (by simpa using ht)
  rw [← this]
  congr 1
  omega
theorem own_sA (hs : s2.toInt = ((t0 :: tr).length : Int)) (hQ : own_Q f2 I (t0 :: tr)) : (s2 - (1 : Int32)).toInt = (tr.length : Int) := by
  have a := c_isub s2 1
  have r := rng32 (s2 - 1)
  have h := hQ.2.2.1
  rw [own_e1] at a
  simp at hs h
  omega
theorem own_lA (hl : (n0 :: nr).length = (t0 :: tr).length) : nr.length = tr.length := by simpa using hl
theorem own_MA (hM : own_M d2 (n0 :: nr)) : own_M n0 nr := ⟨(List.pairwise_cons.mp hM.1).2, fun x hx => hM.2 x (List.mem_cons_of_mem _ hx)⟩
theorem own_MB (hM : own_M d2 (n0 :: nr)) (hc : (0 : Int64) < e3) (h : e3 < (n0 - d2)) : own_M (d2 + e3) (n0 :: nr) := by
  have h1 := hM.2 d2 (List.mem_cons_self ..)
  have h2 := hM.2 n0 (List.mem_cons_of_mem _ (List.mem_cons_self ..))
  have h3 := own_lsub n0 d2 (by omega) h1.1
  rw [own_ltt] at hc h
  rw [own_el0] at hc
  have h4 := own_ladd d2 e3 (by omega) (by omega)
  have h5 := List.pairwise_cons.mp hM.1
  have h6 := List.pairwise_cons.mp h5.2
  refine ⟨List.pairwise_cons.mpr ⟨fun x hx => ?_, h5.2⟩, fun x hx => ?_⟩
  · rcases List.mem_cons.mp hx with rfl | hx
    · omega
    · have := h6.1 x hx; omega
  · rcases List.mem_cons.mp hx with rfl | hx
    · omega
    · exact hM.2 x (List.mem_cons_of_mem _ hx)
theorem own_eB (hM : own_M d2 ns2) : (0 : Int64).toInt ≤ (own_tt d2 ns2).toInt := by rw [own_el0]; exact (own_ttv hM).2.1
theorem own_eA (hM : own_M d2 (n0 :: nr)) (hc : (0 : Int64) < e3) (h : ¬ e3 < (n0 - d2)) (he : e3.toInt ≤ (own_tt d2 (n0 :: nr)).toInt) : (e3 - (n0 - d2)).toInt ≤ (own_tt n0 nr).toInt := by
  have h1 := hM.2 d2 (List.mem_cons_self ..)
  have h2 := hM.2 n0 (List.mem_cons_of_mem _ (List.mem_cons_self ..))
  have h3 := own_lsub n0 d2 (by omega) h1.1
  have h5 := (own_ttv hM)
  have h6 := (own_ttv (own_MA hM))
  have h7 := (List.pairwise_cons.mp hM.1).1 n0 (List.mem_cons_self ..)
  rw [own_ltt] at hc h
  rw [own_el0] at hc
  have h8 := own_lsub e3 (n0 - d2) (by omega) (by omega)
  rw [h8, h3, h6.1]
  rw [h5.1] at he
  cases nr with
  | nil =>
    have he' : e3.toInt ≤ n0.toInt - d2.toInt := he
    show e3.toInt - (n0.toInt - d2.toInt) ≤ 0
    omega
  | cons b br =>
    rw [List.getLast?_cons_cons] at he
    cases hg : (b :: br).getLast? with
    | none => simp at hg
    | some x =>
      rw [hg] at he
      have he' : e3.toInt ≤ x.toInt - d2.toInt := he
      show e3.toInt - (n0.toInt - d2.toInt) ≤ x.toInt - n0.toInt
      omega
theorem own_kkA (hk : (if (0 : Int64) < e3 then (t0 :: tr).length + 1 else 0) ≤ k + 1) (hc : (0 : Int64) < e3) {e : Int64} : (if (0 : Int64) < e then tr.length + 1 else 0) ≤ k := by
  rw [if_pos hc] at hk
  simp at hk
  split <;> omega
theorem own_fA {x : Int64} (hr : own_kf d2 (t0 :: tr) (n0 :: nr) x = R) (h : t0 < x) : own_kf n0 tr nr x = R := by
  rw [← hr]; simp only [own_kf]; rw [if_pos h]
theorem own_fend2 {x : Int64} (hr : own_kf d2 (t0 :: tr) (n0 :: nr) x = R) (h : ¬ t0 < x) : (d2, t0 :: tr, n0 :: nr) = R := by
  rw [← hr]; simp only [own_kf]; rw [if_neg h]
theorem own_fend1 {x : Int64} (hr : own_kf d2 ts2 ns2 x = R) (hl : ns2.length = ts2.length) (hs : s2.toInt = (ts2.length : Int)) (h : ¬ (0 : Int32) < s2) : (d2, ts2, ns2) = R := by
  rw [Int32.lt_iff_toInt_lt, own_e0] at h
  have : ts2 = [] := List.length_eq_zero_iff.mp (by omega)
  subst this
  rw [← hr]; rfl
end
def own_min (a b : Int64) : Int64 := if b < a then b else a
theorem own_min_t (a b : Int64) : (own_min a b).toInt = if b.toInt < a.toInt then b.toInt else a.toInt := by
  unfold own_min
  by_cases h : b < a
  · rw [if_pos h, if_pos ((own_ltt _ _).mp h)]
  · rw [if_neg h, if_neg (mt (own_ltt _ _).mpr h)]
section
variable {f : Int32} {I N : Nat → Int64} {t1 t2 a b d x p : Int64}
theorem own_Q0 : own_Q (0 : Int32) (fun _ => 0) [] := ⟨by decide, by decide, by simp, by simp⟩
theorem own_ti0 : own_ti [] x = [x] := by simp [own_ti, own_pos, own_at]
theorem own_ni0 : own_bump (own_ni d [] [] x) (own_pos [] x) p = [d + p] := by simp [own_ni, own_pos, own_at, own_bump, own_nbv]
theorem own_irr (x : Int64) : ¬ x < x := by rw [own_ltt]; omega
theorem own_tri (t1 t2 : Int64) : t1 < t2 ∨ t1 = t2 ∨ t2 < t1 := by
  rw [own_ltt, own_ltt, ← Int64.toInt_inj]; omega
theorem own_pos_lt (h : t1 < t2) : own_pos [t1] t2 = 1 := by simp [own_pos, h]
theorem own_pos_nl (h : ¬ t1 < t2) : own_pos [t1] t2 = 0 := by simp [own_pos, h]
theorem own_two (t1 t2 n d p : Int64) : (t1 < t2 ∧ own_ti [t1] t2 = [t1, t2] ∧ own_bump (own_ni d [t1] [n] t2) (own_pos [t1] t2) p = [n, n + p]) ∨ (t1 = t2 ∧ own_ti [t1] t2 = [t1] ∧ own_bump (own_ni d [t1] [n] t2) (own_pos [t1] t2) p = [n + p]) ∨ (t2 < t1 ∧ own_ti [t1] t2 = [t2, t1] ∧ own_bump (own_ni d [t1] [n] t2) (own_pos [t1] t2) p = [d + p, n + p]) := by
  rcases own_tri t1 t2 with h | h | h
  · refine Or.inl ⟨h, ?_, ?_⟩
    · unfold own_ti; rw [own_pos_lt h]; simp [own_at]
    · unfold own_ni; rw [own_pos_lt h]; simp [own_at, own_bump, own_nbv]
  · subst h
    refine Or.inr (Or.inl ⟨rfl, ?_, ?_⟩)
    · unfold own_ti; rw [own_pos_nl (own_irr _)]; simp
    · unfold own_ni; rw [own_pos_nl (own_irr _)]; simp [own_bump]
  · have h' : ¬ t1 < t2 := by rw [own_ltt] at h ⊢; omega
    have hne : ¬ t1 = t2 := fun e => by rw [e] at h; exact own_irr _ h
    refine Or.inr (Or.inr ⟨h, ?_, ?_⟩)
    · unfold own_ti; rw [own_pos_nl h']; simp [own_at, hne]
    · unfold own_ni; rw [own_pos_nl h']; simp [own_at, own_bump, own_nbv, hne]
theorem own_m31 (p : Int32) {v : Int64} (h : (p.toInt64 &&& (2147483647 : Int64)) = v) : 0 ≤ v.toInt ∧ v.toInt ≤ 2147483647 := by
  have h1 := c_maskL p.toInt64 2147483647 31 (by omega) (by decide)
  rw [h] at h1
  omega
theorem own_m63 (q : Int64) {v : Int64} (h : (q &&& (9223372036854775807 : Int64)) = v) : 0 ≤ v.toInt := by
  have h1 := c_maskL q 9223372036854775807 63 (by omega) (by decide)
  rw [h] at h1
  omega
theorem own_z0 (v : Int64) : (0 : Int64) + v = v := by simp
theorem own_tt1 : own_tt d [d + a] = a := by
  show (d + a) - d = a
  apply Int64.toInt_inj.mp
  have h1 := c_ladd d a
  have h2 := c_lsub (d + a) d
  have r1 := rng64 a
  have r2 := rng64 (d + a - d)
  omega
theorem own_ktot : ∀ {ns ts : List Int64} {d e : Int64} {R : Int64 × List Int64 × List Int64}, R = own_kp d ts ns e → ns.length = ts.length → own_M d ns → e.toInt ≤ (own_tt d ns).toInt → (own_tt R.1 R.2.2).toInt = (own_tt d ns).toInt - (if 0 < e.toInt then e.toInt else 0)
  | [], ts, d, e, R, hR, hl, hM, he => by
    have : ts = [] := List.length_eq_zero_iff.mp hl.symm
    subst this
    subst hR
    have h0 : (own_tt d []).toInt = 0 := own_el0
    rw [h0] at he
    rw [if_neg (by omega), h0]
    exact own_el0
  | n :: r, [], d, e, R, hR, hl, hM, he => by simp at hl
  | n :: r, t :: ts, d, e, R, hR, hl, hM, he => by
    have hd := hM.2 d (List.mem_cons_self ..)
    have hn := hM.2 n (List.mem_cons_of_mem _ (List.mem_cons_self ..))
    have hdn := (List.pairwise_cons.mp hM.1).1 n (List.mem_cons_self ..)
    have hs := own_lsub n d (by omega) hd.1
    simp only [own_kp] at hR
    by_cases c : (0 : Int64) < e
    · have c' := (own_ltt _ _).mp c
      rw [own_el0] at c'
      rw [if_pos c] at hR
      rw [if_pos c']
      by_cases c2 : e < n - d
      · rw [if_pos c2] at hR
        subst hR
        have c3 := (own_ltt _ _).mp c2
        have ha := own_ladd d e (by omega) (by omega)
        have hM' := own_MB hM c c2
        have h1 := (own_ttv hM').1
        have h2 := (own_ttv hM).1
        show (own_tt (d + e) (n :: r)).toInt = _
        rw [h1, h2]
        cases hg : (n :: r).getLast? with
        | none => simp at hg
        | some y =>
          show y.toInt - (d + e).toInt = y.toInt - d.toInt - e.toInt
          omega
      · rw [if_neg c2] at hR
        have c3 := mt (own_ltt _ _).mpr c2
        have hM' := own_MA hM
        have he' := own_eA hM c c2 he
        have ih := own_ktot hR (by simpa using hl) hM' he'
        have hb := (own_ttv hM).2.2
        have hsub := own_lsub e (n - d) (by omega) (by omega)
        rw [ih, hsub, hs]
        have h1 := (own_ttv hM').1
        have h2 := (own_ttv hM).1
        have h3 : (own_tt d (n :: r)).toInt = (n.toInt - d.toInt) + (own_tt n r).toInt := by
          rw [h1, h2]
          cases r with
          | nil => show n.toInt - d.toInt = n.toInt - d.toInt + 0; omega
          | cons b br =>
            rw [List.getLast?_cons_cons]
            cases hg : (b :: br).getLast? with
            | none => simp at hg
            | some y => show y.toInt - d.toInt = n.toInt - d.toInt + (y.toInt - n.toInt); omega
        rw [h3]
        split <;> omega
    · have c' := mt (own_ltt _ _).mpr c
      rw [own_el0] at c'
      rw [if_neg c] at hR
      subst hR
      rw [if_neg c']
      show (own_tt d (n :: r)).toInt = _
      omega
end
theorem own_lt2 {t1 t2 n d p : Int64} (h : t1 < t2) : own_ti [t1] t2 = [t1, t2] ∧ own_bump (own_ni d [t1] [n] t2) (own_pos [t1] t2) p = [n, n + p] := by
  refine ⟨?_, ?_⟩
  · unfold own_ti; rw [own_pos_lt h]; simp [own_at]
  · unfold own_ni; rw [own_pos_lt h]; simp [own_at, own_bump, own_nbv]
theorem own_lt3 {t0 t1 t2 n m d p : Int64} (h0 : t0 < t2) (h : t1 < t2) : own_ti [t0, t1] t2 = [t0, t1, t2] ∧ own_bump (own_ni d [t0, t1] [n, m] t2) (own_pos [t0, t1] t2) p = [n, m, m + p] := by
  have e : own_pos [t0, t1] t2 = 2 := by simp [own_pos, h, h0]
  refine ⟨?_, ?_⟩
  · unfold own_ti; rw [e]; simp [own_at]
  · unfold own_ni; rw [e]; simp [own_at, own_bump, own_nbv]
theorem own_kk0 {d e : Int64} {ts ns : List Int64} (h : e.toInt ≤ 0) : own_kp d ts ns e = (d, ts, ns) := (own_kend (R := own_kp d ts ns e) rfl (by rw [own_ltt, own_el0]; omega)).symm
theorem own_kk1 {d e t n : Int64} {ts ns : List Int64} (h : 0 < e.toInt) (h2 : e.toInt < (n - d).toInt) : own_kp d (t :: ts) (n :: ns) e = (d + e, t :: ts, n :: ns) := by
  simp only [own_kp]
  rw [if_pos (by rw [own_ltt, own_el0]; exact h), if_pos (by rw [own_ltt]; exact h2)]
theorem own_kk2 {d e t n : Int64} {ts ns : List Int64} (h : 0 < e.toInt) (h2 : ¬ e.toInt < (n - d).toInt) : own_kp d (t :: ts) (n :: ns) e = own_kp n ts ns (e - (n - d)) := by
  simp only [own_kp]
  rw [if_pos (by rw [own_ltt, own_el0]; exact h), if_neg (by rw [own_ltt]; exact h2)]
def own_R (t0 t1 t2 n0 n1 n2 D : Int64) (R : Int64 × List Int64 × List Int64) : Prop := 0 ≤ D.toInt ∧ ((D.toInt < n0.toInt ∧ R = (D, [t0, t1, t2], [n0, n1, n2])) ∨ (n0.toInt ≤ D.toInt ∧ D.toInt < n1.toInt ∧ R = (D, [t1, t2], [n1, n2])) ∨ (n1.toInt ≤ D.toInt ∧ D.toInt < n2.toInt ∧ R = (D, [t2], [n2])) ∨ (D.toInt = n2.toInt ∧ R = (D, [], [])))
def own_mx (e : Int64) : Int := if 0 < e.toInt then e.toInt else 0
section
variable {t0 t1 t2 n0 n1 n2 D e : Int64}
theorem own_R0 (hn : 0 < n0.toInt ∧ n0.toInt < n1.toInt ∧ n1.toInt < n2.toInt ∧ n2.toInt ≤ 1000) (hD : D.toInt = n2.toInt) (he : e.toInt ≤ n2.toInt - D.toInt) : ∃ D', D'.toInt = D.toInt + own_mx e ∧ own_R t0 t1 t2 n0 n1 n2 D' (own_kp D [] [] e) := by
  refine ⟨D, ?_, by omega, ?_⟩
  · unfold own_mx; rw [if_neg (by omega)]; omega
  · exact Or.inr (Or.inr (Or.inr ⟨hD, rfl⟩))
theorem own_R1 (hn : 0 < n0.toInt ∧ n0.toInt < n1.toInt ∧ n1.toInt < n2.toInt ∧ n2.toInt ≤ 1000) (hD : n1.toInt ≤ D.toInt ∧ D.toInt < n2.toInt) (he : e.toInt ≤ n2.toInt - D.toInt) : ∃ D', D'.toInt = D.toInt + own_mx e ∧ own_R t0 t1 t2 n0 n1 n2 D' (own_kp D [t2] [n2] e) := by
  have hs := own_lsub n2 D (by omega) (by omega)
  by_cases c : 0 < e.toInt
  · have hm : own_mx e = e.toInt := if_pos c
    by_cases c2 : e.toInt < (n2 - D).toInt
    · have ha := own_ladd D e (by omega) (by omega)
      refine ⟨D + e, by omega, by omega, ?_⟩
      rw [own_kk1 c c2]
      exact Or.inr (Or.inr (Or.inl ⟨by omega, by omega, rfl⟩))
    · have hs2 := own_lsub e (n2 - D) (by omega) (by omega)
      rw [own_kk2 c c2]
      obtain ⟨D', h1, h2⟩ := own_R0 (t0 := t0) (t1 := t1) (t2 := t2) (e := e - (n2 - D)) hn (D := n2) rfl (by omega)
      refine ⟨D', ?_, h2⟩
      rw [h1, hm]; unfold own_mx; split <;> omega
  · have hm : own_mx e = 0 := if_neg c
    rw [own_kk0 (by omega)]
    exact ⟨D, by omega, by omega, Or.inr (Or.inr (Or.inl ⟨by omega, by omega, rfl⟩))⟩
theorem own_R2 (hn : 0 < n0.toInt ∧ n0.toInt < n1.toInt ∧ n1.toInt < n2.toInt ∧ n2.toInt ≤ 1000) (hD : n0.toInt ≤ D.toInt ∧ D.toInt < n1.toInt) (he : e.toInt ≤ n2.toInt - D.toInt) : ∃ D', D'.toInt = D.toInt + own_mx e ∧ own_R t0 t1 t2 n0 n1 n2 D' (own_kp D [t1, t2] [n1, n2] e) := by
  have hs := own_lsub n1 D (by omega) (by omega)
  by_cases c : 0 < e.toInt
  · have hm : own_mx e = e.toInt := if_pos c
    by_cases c2 : e.toInt < (n1 - D).toInt
    · have ha := own_ladd D e (by omega) (by omega)
      refine ⟨D + e, by omega, by omega, ?_⟩
      rw [own_kk1 c c2]
      exact Or.inr (Or.inl ⟨by omega, by omega, rfl⟩)
    · have hs2 := own_lsub e (n1 - D) (by omega) (by omega)
      rw [own_kk2 c c2]
      obtain ⟨D', h1, h2⟩ := own_R1 (t0 := t0) (t1 := t1) (t2 := t2) (e := e - (n1 - D)) hn (D := n1) (by omega) (by omega)
      refine ⟨D', ?_, h2⟩
      rw [h1, hm]; unfold own_mx; split <;> omega
  · have hm : own_mx e = 0 := if_neg c
    rw [own_kk0 (by omega)]
    exact ⟨D, by omega, by omega, Or.inr (Or.inl ⟨by omega, by omega, rfl⟩)⟩
theorem own_R3 (hn : 0 < n0.toInt ∧ n0.toInt < n1.toInt ∧ n1.toInt < n2.toInt ∧ n2.toInt ≤ 1000) (hD : 0 ≤ D.toInt ∧ D.toInt < n0.toInt) (he : e.toInt ≤ n2.toInt - D.toInt) : ∃ D', D'.toInt = D.toInt + own_mx e ∧ own_R t0 t1 t2 n0 n1 n2 D' (own_kp D [t0, t1, t2] [n0, n1, n2] e) := by
  have hs := own_lsub n0 D (by omega) (by omega)
  by_cases c : 0 < e.toInt
  · have hm : own_mx e = e.toInt := if_pos c
    by_cases c2 : e.toInt < (n0 - D).toInt
    · have ha := own_ladd D e (by omega) (by omega)
      refine ⟨D + e, by omega, by omega, ?_⟩
      rw [own_kk1 c c2]
      exact Or.inl ⟨by omega, rfl⟩
    · have hs2 := own_lsub e (n0 - D) (by omega) (by omega)
      rw [own_kk2 c c2]
      obtain ⟨D', h1, h2⟩ := own_R2 (t0 := t0) (t1 := t1) (t2 := t2) (e := e - (n0 - D)) hn (D := n0) (by omega) (by omega)
      refine ⟨D', ?_, h2⟩
      rw [h1, hm]; unfold own_mx; split <;> omega
  · have hm : own_mx e = 0 := if_neg c
    rw [own_kk0 (by omega)]
    exact ⟨D, by omega, by omega, Or.inl ⟨by omega, rfl⟩⟩
theorem own_Rk {R : Int64 × List Int64 × List Int64} (hn : 0 < n0.toInt ∧ n0.toInt < n1.toInt ∧ n1.toInt < n2.toInt ∧ n2.toInt ≤ 1000) (hR : own_R t0 t1 t2 n0 n1 n2 D R) (he : e.toInt ≤ n2.toInt - D.toInt) : ∃ D', D'.toInt = D.toInt + own_mx e ∧ own_R t0 t1 t2 n0 n1 n2 D' (own_kp R.1 R.2.1 R.2.2 e) := by
  obtain ⟨h0, ⟨h1, rfl⟩ | ⟨h1, h2, rfl⟩ | ⟨h1, h2, rfl⟩ | ⟨h1, rfl⟩⟩ := hR
  · exact own_R3 hn ⟨h0, h1⟩ he
  · exact own_R2 hn ⟨h1, h2⟩ he
  · exact own_R1 hn ⟨h1, h2⟩ he
  · exact own_R0 hn h1 he
theorem own_Rt {R : Int64 × List Int64 × List Int64} (hn : 0 < n0.toInt ∧ n0.toInt < n1.toInt ∧ n1.toInt < n2.toInt ∧ n2.toInt ≤ 1000) (hR : own_R t0 t1 t2 n0 n1 n2 D R) : R.1 = D ∧ (own_tt R.1 R.2.2).toInt = n2.toInt - D.toInt := by
  obtain ⟨h0, ⟨h1, rfl⟩ | ⟨h1, h2, rfl⟩ | ⟨h1, h2, rfl⟩ | ⟨h1, rfl⟩⟩ := hR
  · exact ⟨rfl, own_lsub n2 D (by omega) (by omega)⟩
  · exact ⟨rfl, own_lsub n2 D (by omega) (by omega)⟩
  · exact ⟨rfl, own_lsub n2 D (by omega) (by omega)⟩
  · refine ⟨rfl, ?_⟩
    show (0 : Int64).toInt = _
    rw [own_el0]; omega
end
theorem own_min_s (a b : Int64) {r : Int64} (h : own_min a b = r) : (r.toInt = b.toInt ∧ b.toInt < a.toInt) ∨ (r.toInt = a.toInt ∧ a.toInt ≤ b.toInt) := by
  have := own_min_t a b
  rw [h] at this
  split at this <;> omega
theorem own_fx {v4 v5 v6 v7 v8 k r0 r1 r2 n0 n1 n2 D1 D2 : Int} (h4 : 1 ≤ v4 ∧ v4 ≤ 8) (h5 : 1 ≤ v5 ∧ v5 ≤ 8) (h6 : 1 ≤ v6 ∧ v6 ≤ 8) (h7 : 0 ≤ v7) (h8 : 0 ≤ v8) (e0 : n0 = v4) (e1 : n1 = v4 + v5) (e2 : n2 = v4 + v5 + v6) (hD1 : D1 = (if 0 < n2 - v7 then n2 - v7 else 0)) (hD2 : D2 = D1 + (if 0 < n2 - D1 - v8 then n2 - D1 - v8 else 0)) (hk : (k = v8 ∧ v8 < v7) ∨ (k = v7 ∧ v7 ≤ v8)) (hr2 : (r2 = k ∧ k < v6) ∨ (r2 = v6 ∧ v6 ≤ k)) (hr1 : (r1 = k - r2 ∧ k - r2 < v5) ∨ (r1 = v5 ∧ v5 ≤ k - r2)) (hr0 : (r0 = k - r2 - r1 ∧ k - r2 - r1 < v4) ∨ (r0 = v4 ∧ v4 ≤ k - r2 - r1)) : (0 ≤ k ∧ 0 ≤ r2 ∧ 0 ≤ r1 ∧ 0 ≤ r0 ∧ r0 + r1 + r2 = n2 - D2) ∧ (D2 < n0 → 0 < r0 ∧ 0 < r1 ∧ 0 < r2 ∧ n0 - D2 = r0) ∧ (n0 ≤ D2 → D2 < n1 → r0 = 0 ∧ 0 < r1 ∧ 0 < r2 ∧ n1 - D2 = r1) ∧ (n1 ≤ D2 → D2 < n2 → r0 = 0 ∧ r1 = 0 ∧ 0 < r2 ∧ n2 - D2 = r2) ∧ (D2 = n2 → r0 = 0 ∧ r1 = 0 ∧ r2 = 0) := by
  have hk0 : 0 ≤ k := by omega
  have hkD : D2 = if 0 < n2 - k then n2 - k else 0 := by
    split at hD1 <;> split at hD2 <;> split <;> omega
  clear hD1 hD2 hk
  split at hkD <;> refine ⟨by omega, fun _ => by omega, fun _ _ => by omega, fun _ _ => by omega, fun _ => by omega⟩
theorem own_ssub (a b c : Int64) : (a - c) - (a - b) = b - c := by
  apply Int64.toInt_inj.mp
  have h1 := c_lsub a c
  have h2 := c_lsub a b
  have h3 := c_lsub (a - c) (a - b)
  have h4 := c_lsub b c
  have r1 := rng64 ((a - c) - (a - b))
  have r2 := rng64 (b - c)
  omega
def own_fa (sz : Int32) (ts : List Int64) (m : Int64) : Int32 := if m = (9223372036854775807 : Int64) then sz else Int32.ofNat (own_pos ts (m + (1 : Int64)))
def own_cnt (o w f : Int32) (d : Int64) (N : Nat → Int64) : Int64 := if w < o then 0 else N ((f + w) &&& (3 : Int32)).toNatClampNeg - own_nbf o d (N ((f + (o - (1 : Int32))) &&& (3 : Int32)).toNatClampNeg)
theorem own_emx : (9223372036854775807 : Int64).toInt = 9223372036854775807 := by decide
theorem own_el1 : (1 : Int64).toInt = 1 := by decide
section
variable {t t0 t1 t2 u n0 n1 n2 d : Int64} {f sz : Int32} {N : Nat → Int64}
theorem own_ltm (h : t.toInt < 9000000000000000000) : t < (9223372036854775807 : Int64) := by rw [own_ltt, own_emx]; omega
theorem own_nem (h : t.toInt < 9000000000000000000) : ¬ t = (9223372036854775807 : Int64) := fun q => by rw [q, own_emx] at h; omega
theorem own_p1 (h : t.toInt < 9000000000000000000) : (t + (1 : Int64)).toInt = t.toInt + 1 := by
  have a := c_ladd t 1
  rw [own_el1] at a
  have r := rng64 t
  have r2 := rng64 (t + 1)
  omega
theorem own_lp1 (h : t.toInt < 9000000000000000000) : t < t + (1 : Int64) := by rw [own_ltt, own_p1 h]; omega
theorem own_np1 (h : t.toInt < 9000000000000000000) (hu : t < u) : ¬ u < t + (1 : Int64) := by rw [own_ltt] at *; rw [own_p1 h]; omega
theorem own_cv3 (hN : own_Q f N [n0, n1, n2]) (h01 : t0 < t1) (h12 : t1 < t2) (hb : t2.toInt < 9000000000000000000) : own_cnt (own_fa sz [t0, t1, t2] t0) (Int32.ofNat (own_pos [t0, t1, t2] (9223372036854775807 : Int64)) - (1 : Int32)) f d N = n2 - n0 := by
  have a := (own_ltt _ _).mp h01
  have b := (own_ltt _ _).mp h12
  have e1 : own_pos [t0, t1, t2] (9223372036854775807 : Int64) = 3 := by simp [own_pos, own_ltm (t := t0) (by omega), own_ltm (t := t1) (by omega), own_ltm (t := t2) (by omega)]
  have e2 : own_fa sz [t0, t1, t2] t0 = (1 : Int32) := by
    unfold own_fa; rw [if_neg (own_nem (by omega))]
    have : own_pos [t0, t1, t2] (t0 + 1) = 1 := by simp [own_pos, own_lp1 (t := t0) (by omega), own_np1 (by omega) h01]
    rw [this]; rfl
  rw [e1, e2]
  have e3 : Int32.ofNat 3 - (1 : Int32) = 2 := by decide
  rw [e3]; unfold own_cnt own_nbf
  rw [if_neg (by decide), if_neg (by decide), own_get (p := 2) (i := 2) hN (by decide) rfl, own_get (p := (1 - 1)) (i := 0) hN (by decide) rfl]
theorem own_cv2 (hN : own_Q f N [n1, n2]) (h12 : t1 < t2) (hb : t2.toInt < 9000000000000000000) : own_cnt (own_fa sz [t1, t2] t1) (Int32.ofNat (own_pos [t1, t2] (9223372036854775807 : Int64)) - (1 : Int32)) f d N = n2 - n1 := by
  have b := (own_ltt _ _).mp h12
  have e1 : own_pos [t1, t2] (9223372036854775807 : Int64) = 2 := by simp [own_pos, own_ltm (t := t1) (by omega), own_ltm (t := t2) (by omega)]
  have e2 : own_fa sz [t1, t2] t1 = (1 : Int32) := by
    unfold own_fa; rw [if_neg (own_nem (by omega))]
    have : own_pos [t1, t2] (t1 + 1) = 1 := by simp [own_pos, own_lp1 (t := t1) (by omega), own_np1 (by omega) h12]
    rw [this]; rfl
  rw [e1, e2]
  have e3 : Int32.ofNat 2 - (1 : Int32) = 1 := by decide
  rw [e3]; unfold own_cnt own_nbf
  rw [if_neg (by decide), if_neg (by decide), own_get (p := 1) (i := 1) hN (by decide) rfl, own_get (p := (1 - 1)) (i := 0) hN (by decide) rfl]
theorem own_cv1 (hb : t2.toInt < 9000000000000000000) : own_cnt (own_fa sz [t2] t2) (Int32.ofNat (own_pos [t2] (9223372036854775807 : Int64)) - (1 : Int32)) f d N = 0 := by
  have e1 : own_pos [t2] (9223372036854775807 : Int64) = 1 := by simp [own_pos, own_ltm hb]
  have e2 : own_fa sz [t2] t2 = (1 : Int32) := by
    unfold own_fa; rw [if_neg (own_nem (by omega))]
    have : own_pos [t2] (t2 + 1) = 1 := by simp [own_pos, own_lp1 hb]
    rw [this]; rfl
  rw [e1, e2]
  have e3 : Int32.ofNat 1 - (1 : Int32) = 0 := by decide
  rw [e3]; unfold own_cnt
  rw [if_pos (by decide)]
end
theorem own_M3 {v4 v5 v6 : Int64} (h4 : 1 ≤ v4.toInt ∧ v4.toInt ≤ 8) (h5 : 1 ≤ v5.toInt ∧ v5.toInt ≤ 8) (h6 : 1 ≤ v6.toInt ∧ v6.toInt ≤ 8) : ((0 : Int64) + v4).toInt = v4.toInt ∧ ((0 : Int64) + v4 + v5).toInt = v4.toInt + v5.toInt ∧ ((0 : Int64) + v4 + v5 + v6).toInt = v4.toInt + v5.toInt + v6.toInt := by
  have a := own_ladd v4 v5 (by omega) (by omega)
  have b := own_ladd (v4 + v5) v6 (by omega) (by omega)
  rw [own_z0]
  refine ⟨rfl, a, by omega⟩
theorem own_Ml {n0 n1 n2 : Int64} (h : 0 ≤ n0.toInt ∧ n0.toInt ≤ n1.toInt ∧ n1.toInt ≤ n2.toInt ∧ n2.toInt ≤ 1000) : own_M (0 : Int64) [n0, n1, n2] := by
  have e := own_el0
  refine ⟨?_, ?_⟩
  · simp only [List.pairwise_cons, List.mem_cons, List.not_mem_nil, or_false, forall_eq_or_imp, forall_eq, e]
    refine ⟨⟨by omega, by omega, by omega⟩, ⟨by omega, by omega⟩, by omega, by simp, List.Pairwise.nil⟩
  · intro x hx
    simp only [List.mem_cons, List.not_mem_nil, or_false] at hx
    rcases hx with rfl | rfl | rfl | rfl <;> omega
theorem own_Mv {v4 v5 v6 : Int64} (h4 : 1 ≤ v4.toInt ∧ v4.toInt ≤ 8) (h5 : 1 ≤ v5.toInt ∧ v5.toInt ≤ 8) (h6 : 1 ≤ v6.toInt ∧ v6.toInt ≤ 8) : own_M (0 : Int64) [((0 : Int64) + v4), ((0 : Int64) + v4 + v5), ((0 : Int64) + v4 + v5 + v6)] := by
  have h := own_M3 h4 h5 h6
  exact own_Ml (by omega)
theorem own_fin {t0 t1 t2 v4 v5 v6 v7 v8 k r2 r1 r0 d3 d4 : Int64} {ts3 ns3 ts4 ns4 : List Int64} (h4 : 1 ≤ v4.toInt ∧ v4.toInt ≤ 8) (h5 : 1 ≤ v5.toInt ∧ v5.toInt ≤ 8) (h6 : 1 ≤ v6.toInt ∧ v6.toInt ≤ 8) (h7 : 0 ≤ v7.toInt ∧ v7.toInt ≤ 31) (h8 : 0 ≤ v8.toInt ∧ v8.toInt ≤ 31)
    (hr1 : (d3, ts3, ns3) = own_kp (0 : Int64) [t0, t1, t2] [((0 : Int64) + v4), ((0 : Int64) + v4 + v5), ((0 : Int64) + v4 + v5 + v6)] ((own_tt (0 : Int64) [((0 : Int64) + v4), ((0 : Int64) + v4 + v5), ((0 : Int64) + v4 + v5 + v6)]) - v7))
    (hr2 : (d4, ts4, ns4) = own_kp d3 ts3 ns3 ((own_tt d3 ns3) - v8)) (hk : own_min v7 v8 = k) (x2 : own_min v6 k = r2) (x1 : own_min v5 (k - r2) = r1) (x0 : own_min v4 (k - r2 - r1) = r0) :
    (ts4 = [t0, t1, t2] ∧ ns4 = [((0 : Int64) + v4), ((0 : Int64) + v4 + v5), ((0 : Int64) + v4 + v5 + v6)] ∧ own_tt d4 ns4 = r0 + r1 + r2 ∧ 0 < r0 ∧ 0 < r1 ∧ 0 < r2 ∧ ((0 : Int64) + v4) - d4 = r0) ∨
    (ts4 = [t1, t2] ∧ ns4 = [((0 : Int64) + v4 + v5), ((0 : Int64) + v4 + v5 + v6)] ∧ own_tt d4 ns4 = r0 + r1 + r2 ∧ ¬ 0 < r0 ∧ 0 < r1 ∧ 0 < r2 ∧ ((0 : Int64) + v4 + v5) - d4 = r1) ∨
    (ts4 = [t2] ∧ ns4 = [((0 : Int64) + v4 + v5 + v6)] ∧ own_tt d4 ns4 = r0 + r1 + r2 ∧ ¬ 0 < r0 ∧ ¬ 0 < r1 ∧ 0 < r2 ∧ ((0 : Int64) + v4 + v5 + v6) - d4 = r2) ∨
    (ts4 = [] ∧ ns4 = [] ∧ own_tt d4 ns4 = r0 + r1 + r2 ∧ ¬ 0 < r0 ∧ ¬ 0 < r1 ∧ ¬ 0 < r2 ∧ True) := by
  obtain ⟨a0, a1, a2⟩ := own_M3 h4 h5 h6
  generalize (0 : Int64) + v4 + v5 + v6 = n2 at *
  generalize (0 : Int64) + v4 + v5 = n1 at *
  generalize (0 : Int64) + v4 = n0 at *
  have hn : 0 < n0.toInt ∧ n0.toInt < n1.toInt ∧ n1.toInt < n2.toInt ∧ n2.toInt ≤ 1000 := by omega
  have hI : own_R t0 t1 t2 n0 n1 n2 0 ((0 : Int64), [t0, t1, t2], [n0, n1, n2]) := ⟨by rw [own_el0]; omega, Or.inl ⟨by rw [own_el0]; omega, rfl⟩⟩
  have hI2 := (own_Rt hn hI).2
  have hI3 : (own_tt (0 : Int64) [n0, n1, n2]).toInt = n2.toInt := by
    have : (own_tt (0 : Int64) [n0, n1, n2]).toInt = n2.toInt - (0 : Int64).toInt := hI2
    rw [own_el0] at this; omega
  have s1 := own_lsub (own_tt (0 : Int64) [n0, n1, n2]) v7 (by omega) h7.1
  obtain ⟨D1, q1, R1⟩ := own_Rk (e := (own_tt (0 : Int64) [n0, n1, n2]) - v7) hn hI (by rw [own_el0]; omega)
  have R1' : own_R t0 t1 t2 n0 n1 n2 D1 (d3, ts3, ns3) := by rw [hr1]; exact R1
  obtain ⟨e1, e2⟩ := own_Rt hn R1'
  have e1' : d3 = D1 := e1
  have e2' : (own_tt d3 ns3).toInt = n2.toInt - D1.toInt := e2
  have d0 := R1'.1
  have hD1 : D1.toInt = if 0 < n2.toInt - v7.toInt then n2.toInt - v7.toInt else 0 := by
    rw [q1, own_el0]; unfold own_mx; rw [s1, hI3]; split <;> omega
  have hD1b : D1.toInt ≤ n2.toInt := by split at hD1 <;> omega
  have s2 := own_lsub (own_tt d3 ns3) v8 (by omega) h8.1
  obtain ⟨D2, q2, R2⟩ := own_Rk (e := (own_tt d3 ns3) - v8) hn R1' (by omega)
  have R2' : own_R t0 t1 t2 n0 n1 n2 D2 (d4, ts4, ns4) := by rw [hr2]; exact R2
  have hD2 : D2.toInt = D1.toInt + if 0 < n2.toInt - D1.toInt - v8.toInt then n2.toInt - D1.toInt - v8.toInt else 0 := by
    rw [q2]; unfold own_mx; rw [s2, e2']
  have hk' := own_min_s _ _ hk
  have hx2 := own_min_s _ _ x2
  have hx1 := own_min_s _ _ x1
  have hx0 := own_min_s _ _ x0
  have b1 := own_lsub k r2 (by omega) (by omega)
  rw [b1] at hx1
  have b2 := own_lsub (k - r2) r1 (by omega) (by omega)
  rw [b2, b1] at hx0
  obtain ⟨⟨g0, g1, g2, g3, g4⟩, fA, fB, fC, fD⟩ := own_fx h4 h5 h6 h7.1 h8.1 a0 a1 a2 hD1 hD2 hk' hx2 hx1 hx0
  obtain ⟨w1, w2⟩ := own_Rt hn R2'
  have w1' : d4 = D2 := w1
  have w2' : (own_tt d4 ns4).toInt = n2.toInt - D2.toInt := w2
  have tot : own_tt d4 ns4 = r0 + r1 + r2 := by
    apply Int64.toInt_inj.mp
    have z1 := own_ladd r0 r1 (by omega) (by omega)
    have z2 := own_ladd (r0 + r1) r2 (by omega) (by omega)
    omega
  have pl : ∀ x : Int64, (0 : Int64) < x ↔ 0 < x.toInt := fun x => by rw [own_ltt, own_el0]
  have sb : ∀ n r : Int64, 0 ≤ n.toInt ∧ n.toInt ≤ 1000 → n.toInt - D2.toInt = r.toInt → n - d4 = r := fun n r hn' h => by
    apply Int64.toInt_inj.mp
    rw [w1', own_lsub n D2 (by omega) (by have := R2'.1; omega)]; exact h
  obtain ⟨y0, ⟨y1, y⟩ | ⟨y1, y2, y⟩ | ⟨y1, y2, y⟩ | ⟨y1, y⟩⟩ := R2' <;> simp only [Prod.mk.injEq] at y <;> obtain ⟨-, eT, eN⟩ := y
  · obtain ⟨c0, c1, c2, c3⟩ := fA y1
    exact Or.inl ⟨eT, eN, tot, (pl _).mpr c0, (pl _).mpr c1, (pl _).mpr c2, sb _ _ (by omega) c3⟩
  · obtain ⟨c0, c1, c2, c3⟩ := fB y1 y2
    exact Or.inr (Or.inl ⟨eT, eN, tot, mt (pl _).mp (by omega), (pl _).mpr c1, (pl _).mpr c2, sb _ _ (by omega) c3⟩)
  · obtain ⟨c0, c1, c2, c3⟩ := fC y1 y2
    exact Or.inr (Or.inr (Or.inl ⟨eT, eN, tot, mt (pl _).mp (by omega), mt (pl _).mp (by omega), (pl _).mpr c2, sb _ _ (by omega) c3⟩))
  · obtain ⟨c0, c1, c2⟩ := fD y1
    exact Or.inr (Or.inr (Or.inr ⟨eT, eN, tot, mt (pl _).mp (by omega), mt (pl _).mp (by omega), mt (pl _).mp (by omega), trivial⟩))
def own_max (a b : Int64) : Int64 := if a < b then b else a
theorem own_max_s (a b : Int64) {r : Int64} (h : own_max a b = r) : (r.toInt = b.toInt ∧ a.toInt < b.toInt) ∨ (r.toInt = a.toInt ∧ b.toInt ≤ a.toInt) := by
  unfold own_max at h
  by_cases c : a < b
  · rw [if_pos c] at h; rw [own_ltt] at c; subst h; omega
  · rw [if_neg c] at h; rw [own_ltt] at c; subst h; omega
def own_stp (P : Prop) [Decidable P] (s q : Int64) : Int64 := if P then s else s + q
def own_ge (t x qx y qy z qz : Int64) : Int64 := own_stp (z < t) (own_stp (y < t) (own_stp (x < t) 0 qx) qy) qz
def own_gt (t x qx y qy z qz : Int64) : Int64 := own_stp (¬ t < z) (own_stp (¬ t < y) (own_stp (¬ t < x) 0 qx) qy) qz
def own_GI (x qx y qy z qz t : Int) : Int := (if x < t then 0 else qx) + (if y < t then 0 else qy) + (if z < t then 0 else qz)
def own_HI (x qx y qy z qz t : Int) : Int := (if t < x then qx else 0) + (if t < y then qy else 0) + (if t < z then qz else 0)
theorem own_sts {P : Prop} [Decidable P] {s q : Int64} (hs : 0 ≤ s.toInt ∧ s.toInt ≤ 1000) (hq : 0 ≤ q.toInt ∧ q.toInt ≤ 100) : (own_stp P s q).toInt = s.toInt + (if P then 0 else q.toInt) ∧ 0 ≤ (own_stp P s q).toInt ∧ (own_stp P s q).toInt ≤ s.toInt + 100 := by
  unfold own_stp
  have := own_ladd s q (by omega) (by omega)
  by_cases c : P
  · simp only [if_pos c]; omega
  · simp only [if_neg c]; omega
section
variable {t x qx y qy z qz : Int64}
theorem own_geI (hx : 0 ≤ qx.toInt ∧ qx.toInt ≤ 100) (hy : 0 ≤ qy.toInt ∧ qy.toInt ≤ 100) (hz : 0 ≤ qz.toInt ∧ qz.toInt ≤ 100) : (own_ge t x qx y qy z qz).toInt = own_GI x.toInt qx.toInt y.toInt qy.toInt z.toInt qz.toInt t.toInt := by
  have e0 := own_el0
  have a := own_sts (P := x < t) (s := 0) (by omega) hx
  have b := own_sts (P := y < t) (s := own_stp (x < t) 0 qx) (by omega) hy
  have c := own_sts (P := z < t) (s := own_stp (y < t) (own_stp (x < t) 0 qx) qy) (by omega) hz
  unfold own_ge own_GI
  rw [c.1, b.1, a.1, e0]
  simp only [own_ltt, Int.zero_add]
theorem own_gtI (hx : 0 ≤ qx.toInt ∧ qx.toInt ≤ 100) (hy : 0 ≤ qy.toInt ∧ qy.toInt ≤ 100) (hz : 0 ≤ qz.toInt ∧ qz.toInt ≤ 100) : (own_gt t x qx y qy z qz).toInt = own_HI x.toInt qx.toInt y.toInt qy.toInt z.toInt qz.toInt t.toInt := by
  have e0 := own_el0
  have a := own_sts (P := ¬ t < x) (s := 0) (by omega) hx
  have b := own_sts (P := ¬ t < y) (s := own_stp (¬ t < x) 0 qx) (by omega) hy
  have c := own_sts (P := ¬ t < z) (s := own_stp (¬ t < y) (own_stp (¬ t < x) 0 qx) qy) (by omega) hz
  unfold own_gt own_HI
  rw [c.1, b.1, a.1, e0]
  simp only [own_ltt, Int.zero_add, ite_not]
end
def own_P (G H : Int → Int) (L : Int) : Int → List Int64 → List Int64 → Prop
  | b, [], [] => b = L
  | b, t :: ts, n :: ns => b ≤ n.toInt ∧ G t.toInt = L - b ∧ H t.toInt = L - n.toInt ∧ own_P G H L n.toInt ts ns
  | _, [], _ :: _ => False
  | _, _ :: _, [] => False
def own_W (ns : List Int64) : Prop := ns.Pairwise fun a b => a.toInt ≤ b.toInt
section
variable {G H : Int → Int} {L : Int}
theorem own_Plen : ∀ {ts ns : List Int64} {b : Int}, own_P G H L b ts ns → ns.length = ts.length
  | [], [], _, _ => rfl
  | _ :: _, _ :: _, _, h => by simp only [own_P] at h; simp [own_Plen h.2.2.2]
  | [], _ :: _, _, h => by simp only [own_P] at h
  | _ :: _, [], _, h => by simp only [own_P] at h
theorem own_Pge : ∀ {ts ns : List Int64} {b : Int}, own_P G H L b ts ns → (∀ x ∈ ns, b ≤ x.toInt) ∧ own_W ns ∧ b ≤ L
  | [], [], _, h => by simp only [own_P] at h; exact ⟨by simp, List.Pairwise.nil, by omega⟩
  | _ :: _, n :: ns, b, h => by
    simp only [own_P] at h
    have ih := own_Pge h.2.2.2
    refine ⟨fun x hx => ?_, List.pairwise_cons.mpr ⟨ih.1, ih.2.1⟩, by omega⟩
    rcases List.mem_cons.mp hx with rfl | hx
    · exact h.1
    · have := ih.1 x hx; omega
  | [], _ :: _, _, h => by simp only [own_P] at h
  | _ :: _, [], _, h => by simp only [own_P] at h
theorem own_Plast : ∀ {ts ns : List Int64} {b : Int}, own_P G H L b ts ns → ∀ x, ns[ns.length - 1]? = some x → x.toInt = L
  | [], [], _, _, _, hx => by simp at hx
  | _ :: ts, [n], _, h, x, hx => by
    simp only [own_P] at h
    cases ts with
    | nil => simp only [own_P] at h; simp at hx; subst hx; omega
    | cons _ _ => simp only [own_P] at h; exact h.2.2.2.elim
  | _ :: ts, _ :: n :: ns, _, h, x, hx => by
    simp only [own_P] at h
    exact own_Plast (ns := n :: ns) h.2.2.2 x (by simpa using hx)
  | [], _ :: _, _, h, _, _ => by simp only [own_P] at h
  | _ :: _, [], _, h, _, _ => by simp only [own_P] at h
theorem own_Pfin : ∀ {ts ns : List Int64} {b : Int} {w : Int64}, own_P G H L b ts ns → b < w.toInt → w.toInt ≤ L → ∃ t, ts[own_pos ns w]? = some t ∧ own_pos ns w < ns.length ∧ L - w.toInt < G t.toInt ∧ H t.toInt ≤ L - w.toInt
  | [], [], _, _, h, h1, h2 => by simp only [own_P] at h; omega
  | t :: ts, n :: ns, b, w, h, h1, h2 => by
    simp only [own_P] at h
    simp only [own_pos]
    by_cases c : n < w
    · rw [if_pos c]
      rw [own_ltt] at c
      obtain ⟨u, e1, e2, e3, e4⟩ := own_Pfin h.2.2.2 c h2
      exact ⟨u, by simpa using e1, by simp; omega, e3, e4⟩
    · rw [if_neg c]
      rw [own_ltt] at c
      exact ⟨t, by simp, by simp, by omega, by omega⟩
  | [], _ :: _, _, _, h, _, _ => by simp only [own_P] at h
  | _ :: _, [], _, _, h, _, _ => by simp only [own_P] at h
end
theorem own_posw : ∀ {ts : List Int64}, own_W ts → ∀ {i : Nat} {t m : Int64}, ts[i]? = some t → (t < m ↔ i < own_pos ts m)
  | [], _, i, t, m, h => by simp at h
  | a :: r, hS, i, t, m, h => by
    have hS' := List.pairwise_cons.mp hS
    simp only [own_pos]
    cases i with
    | zero =>
      simp at h; subst h
      by_cases q : a < m
      · simp [q]
      · simp [q]
    | succ i =>
      simp at h
      have ih := own_posw (m := m) hS'.2 h
      by_cases q : a < m
      · simp [q, ih]
      · have hm : t ∈ r := List.mem_of_getElem? h
        have hat := hS'.1 t hm
        rw [own_ltt] at q
        have : ¬ t < m := by rw [own_ltt]; omega
        simp [this, own_ltt, q]
section
variable {f sz lo hi p : Int32} {I : Nat → Int64} {ts : List Int64} {m : Int64}
theorem own_low (hQ : own_Q f I ts) (hS : own_W ts) (hB : 0 ≤ lo.toInt ∧ lo.toInt ≤ (own_pos ts m : Int) ∧ (own_pos ts m : Int) ≤ hi.toInt ∧ hi.toInt ≤ (ts.length : Int)) (hc : lo < hi) (h2 : I ((f + own_mid lo hi) &&& (3 : Int32)).toNatClampNeg < m) : 0 ≤ (own_mid lo hi + (1 : Int32)).toInt ∧ (own_mid lo hi + (1 : Int32)).toInt ≤ (own_pos ts m : Int) ∧ (own_pos ts m : Int) ≤ hi.toInt ∧ hi.toInt ≤ (ts.length : Int) := by
  obtain ⟨i, t, e1, e2, e3, -, -, e4⟩ := own_midt hQ hB hc
  rw [own_get hQ e1 e4] at h2
  have h3 := (own_posw hS e4).mp h2
  have a := c_iadd (own_mid lo hi) 1
  have r := rng32 (own_mid lo hi + 1)
  have hl := hQ.2.2.1
  rw [own_e1] at a
  omega
theorem own_hiw (hQ : own_Q f I ts) (hS : own_W ts) (hB : 0 ≤ lo.toInt ∧ lo.toInt ≤ (own_pos ts m : Int) ∧ (own_pos ts m : Int) ≤ hi.toInt ∧ hi.toInt ≤ (ts.length : Int)) (hc : lo < hi) (h2 : ¬ I ((f + own_mid lo hi) &&& (3 : Int32)).toNatClampNeg < m) : 0 ≤ lo.toInt ∧ lo.toInt ≤ (own_pos ts m : Int) ∧ (own_pos ts m : Int) ≤ (own_mid lo hi).toInt ∧ (own_mid lo hi).toInt ≤ (ts.length : Int) := by
  obtain ⟨i, t, e1, e2, e3, -, -, e4⟩ := own_midt hQ hB hc
  rw [own_get hQ e1 e4] at h2
  have h3 := mt (own_posw (m := m) hS e4).mpr h2
  omega
theorem own_bn (hQ : own_Q f I ts) (hsz : sz.toInt = (ts.length : Int)) (hp : own_pos ts m < ts.length) : 0 ≤ (0 : Int32).toInt ∧ (0 : Int32).toInt ≤ (own_pos ts m : Int) ∧ (own_pos ts m : Int) ≤ (sz - (1 : Int32)).toInt ∧ (sz - (1 : Int32)).toInt ≤ (ts.length : Int) := by
  have h1 := own_sm1 hsz (by omega) hQ.2.2.1
  rw [own_e0]
  omega
end
def own_H (a b pa pb lo hi plo phi : Int64) : Prop := (a < b ∧ lo = a ∧ hi = b ∧ plo = pa ∧ phi = pb) ∨ (b < a ∧ lo = b ∧ hi = a ∧ plo = pb ∧ phi = pa) ∨ (a = b ∧ lo = a ∧ hi = a ∧ plo = 0 ∧ phi = pa + pb)
def own_Z (lo hi : Int64) (plo T : Int) (ts ns : List Int64) : Prop := (lo < hi ∧ ∃ n0 n1 : Int64, ts = [lo, hi] ∧ ns = [n0, n1] ∧ n0.toInt = plo ∧ n1.toInt = T) ∨ (plo = 0 ∧ ∃ n : Int64, ts = [hi] ∧ ns = [n] ∧ n.toInt = T)
def own_Y (d : Int64) (lo hi : Int64) (qlo qhi : Int) (ts ns : List Int64) : Prop := (lo < hi ∧ ∃ n0 n1 : Int64, ts = [lo, hi] ∧ ns = [n0, n1] ∧ n0.toInt = d.toInt + qlo ∧ n1.toInt = d.toInt + qlo + qhi) ∨ (qlo = 0 ∧ ∃ n : Int64, ts = [hi] ∧ ns = [n] ∧ n.toInt = d.toInt + qhi) ∨ (qlo = 0 ∧ qhi = 0 ∧ ts = [] ∧ ns = [])
theorem own_H3 {a b pa pb : Int64} (h1 : ¬ a < b) (h2 : ¬ b < a) : own_H a b pa pb a a 0 (pa + pb) := by
  rcases own_tri a b with h | h | h
  · exact absurd h h1
  · exact Or.inr (Or.inr ⟨h, rfl, rfl, rfl, rfl⟩)
  · exact absurd h h2
theorem own_gt2 {t1 t2 n d p : Int64} (h : t2 < t1) : own_ti [t1] t2 = [t2, t1] ∧ own_bump (own_ni d [t1] [n] t2) (own_pos [t1] t2) p = [d + p, n + p] := by
  rcases own_two t1 t2 n d p with ⟨o, -⟩ | ⟨o, -⟩ | ⟨-, o⟩
  · rw [own_ltt] at o h; omega
  · rw [own_ltt] at h; rw [o] at h; omega
  · exact o
theorem own_eq2 {t1 n d p : Int64} : own_ti [t1] t1 = [t1] ∧ own_bump (own_ni d [t1] [n] t1) (own_pos [t1] t1) p = [n + p] := by
  rcases own_two t1 t1 n d p with ⟨o, -⟩ | ⟨-, o⟩ | ⟨o, -⟩
  · exact absurd o (own_irr _)
  · exact o
  · exact absurd o (own_irr _)
section
variable {a b pa pb lo hi plo phi : Int64}
theorem own_208 (ha : 0 ≤ pa.toInt ∧ pa.toInt ≤ 7) (hb : 0 ≤ pb.toInt ∧ pb.toInt ≤ 7) (hH : own_H a b pa pb lo hi plo phi) : ∃ ts ns : List Int64, own_ti [a] b = ts ∧ own_bump (own_ni (0 : Int64) [a] [((0 : Int64) + pa)] b) (own_pos [a] b) pb = ns ∧ own_Z lo hi plo.toInt (pa + pb).toInt ts ns := by
  have s := own_ladd pa pb (by omega) (by omega)
  have s' := own_ladd pb pa (by omega) (by omega)
  refine ⟨_, _, rfl, rfl, ?_⟩
  rcases hH with ⟨h, e1, e2, e3, e4⟩ | ⟨h, e1, e2, e3, e4⟩ | ⟨h, e1, e2, e3, e4⟩ <;> rw [e1, e2, e3]
  · obtain ⟨x1, x2⟩ := own_lt2 (n := 0 + pa) (d := 0) (p := pb) h
    rw [x1, x2]
    exact Or.inl ⟨h, _, _, rfl, rfl, by rw [own_z0], by rw [own_z0]⟩
  · obtain ⟨x1, x2⟩ := own_gt2 (n := 0 + pa) (d := 0) (p := pb) h
    rw [x1, x2]
    exact Or.inl ⟨h, _, _, rfl, rfl, by rw [own_z0], by rw [own_z0]⟩
  · rw [← h]
    obtain ⟨x1, x2⟩ := own_eq2 (t1 := a) (n := 0 + pa) (d := 0) (p := pb)
    rw [x1, x2]
    exact Or.inr ⟨own_el0, _, rfl, rfl, by rw [own_z0]⟩
theorem own_Hb (ha : 0 ≤ pa.toInt ∧ pa.toInt ≤ 7) (hb : 0 ≤ pb.toInt ∧ pb.toInt ≤ 7) (hH : own_H a b pa pb lo hi plo phi) : 0 ≤ plo.toInt ∧ 0 ≤ phi.toInt ∧ plo.toInt + phi.toInt = (pa + pb).toInt ∧ (pa + pb).toInt ≤ 14 := by
  have s := own_ladd pa pb (by omega) (by omega)
  have e := own_el0
  rcases hH with ⟨h, e1, e2, e3, e4⟩ | ⟨h, e1, e2, e3, e4⟩ | ⟨h, e1, e2, e3, e4⟩ <;> rw [e3, e4] <;> omega
end
section
variable {lo hi d d3 : Int64} {plo T qlo qhi : Int} {ts ns ts3 ns3 : List Int64} {m dr e : Int64}
theorem own_M2 {n b : Int64} (hn : 0 ≤ n.toInt ∧ n.toInt ≤ 1099511627776) (hb : n.toInt ≤ b.toInt ∧ b.toInt ≤ 1099511627776) : own_M (0 : Int64) [n, b] := by
  have e := own_el0
  refine ⟨?_, ?_⟩
  · simp only [List.pairwise_cons, List.mem_cons, List.not_mem_nil, or_false, forall_eq_or_imp, forall_eq, e]
    refine ⟨⟨by omega, by omega⟩, by omega, by simp, List.Pairwise.nil⟩
  · intro x hx
    simp only [List.mem_cons, List.not_mem_nil, or_false] at hx
    rcases hx with rfl | rfl | rfl <;> omega
theorem own_M1 {n : Int64} (hn : 0 ≤ n.toInt ∧ n.toInt ≤ 1099511627776) : own_M (0 : Int64) [n] := by
  have e := own_el0
  refine ⟨?_, ?_⟩
  · simp only [List.pairwise_cons, List.mem_cons, List.not_mem_nil, or_false, forall_eq, e]
    exact ⟨by omega, by simp, List.Pairwise.nil⟩
  · intro x hx
    simp only [List.mem_cons, List.not_mem_nil, or_false] at hx
    rcases hx with rfl | rfl <;> omega
theorem own_Zm (hZ : own_Z lo hi plo T ts ns) (h0 : 0 ≤ plo ∧ plo ≤ T ∧ T ≤ 14) : own_M (0 : Int64) ns ∧ ns.length = ts.length ∧ (own_tt (0 : Int64) ns).toInt = T := by
  have e := own_el0
  rcases hZ with ⟨-, n0, n1, rfl, rfl, e0, e1⟩ | ⟨-, n, rfl, rfl, e1⟩
  · refine ⟨own_M2 (by omega) (by omega), rfl, ?_⟩
    show (n1 - 0).toInt = T
    rw [own_lsub _ _ (by omega) (by omega)]; omega
  · refine ⟨own_M1 (by omega), rfl, ?_⟩
    show (n - 0).toInt = T
    rw [own_lsub _ _ (by omega) (by omega)]; omega
/-- what keepNewest leaves -/
theorem own_Yk (hZ : own_Z lo hi plo T ts ns) (h0 : 0 ≤ plo ∧ plo ≤ T ∧ T ≤ 14) (he : e.toInt ≤ T) (hr : (d3, ts3, ns3) = own_kp (0 : Int64) ts ns e) (D : Int) (hD : D = if 0 < e.toInt then e.toInt else 0) : d3.toInt = D ∧ own_Y d3 lo hi (if D < plo then plo - D else 0) (T - plo - (if plo < D then D - plo else 0)) ts3 ns3 := by
  have z := own_el0
  by_cases c : 0 < e.toInt
  case neg =>
    rw [if_neg c] at hD
    rw [own_kk0 (by omega)] at hr
    simp only [Prod.mk.injEq] at hr
    obtain ⟨rfl, rfl, rfl⟩ := hr
    refine ⟨by omega, ?_⟩
    rcases hZ with ⟨o, n0, n1, rfl, rfl, e0, e1⟩ | ⟨o, n, rfl, rfl, e1⟩
    · exact Or.inl ⟨o, _, _, rfl, rfl, by split <;> omega, by split <;> split <;> omega⟩
    · exact Or.inr (Or.inl ⟨by split <;> omega, _, rfl, rfl, by split <;> omega⟩)
  rw [if_pos c] at hD
  have one : ∀ (d n e : Int64) (ts3 ns3 : List Int64), 0 ≤ d.toInt → d.toInt ≤ 14 → n.toInt = T → e.toInt ≤ n.toInt - d.toInt → plo ≤ d.toInt → 0 ≤ e.toInt → d.toInt + e.toInt = D → (d3, ts3, ns3) = own_kp d [hi] [n] e → d3.toInt = D ∧ own_Y d3 lo hi (if D < plo then plo - D else 0) (T - plo - (if plo < D then D - plo else 0)) ts3 ns3 := by
    intro d n e ts3 ns3 a0 a1 a2 a3 a4 a5 a6 hr
    have s := own_lsub n d (by omega) a0
    by_cases c1 : 0 < e.toInt
    · by_cases c2 : e.toInt < (n - d).toInt
      · rw [own_kk1 c1 c2] at hr
        simp only [Prod.mk.injEq] at hr
        obtain ⟨rfl, rfl, rfl⟩ := hr
        have s2 := own_ladd d e (by omega) (by omega)
        exact ⟨by omega, Or.inr (Or.inl ⟨by split <;> omega, _, rfl, rfl, by split <;> omega⟩)⟩
      · rw [own_kk2 c1 c2] at hr
        have hr' : (d3, ts3, ns3) = (n, [], []) := hr
        simp only [Prod.mk.injEq] at hr'
        obtain ⟨rfl, rfl, rfl⟩ := hr'
        exact ⟨by omega, Or.inr (Or.inr ⟨by split <;> omega, by split <;> omega, rfl, rfl⟩)⟩
    · rw [own_kk0 (by omega)] at hr
      simp only [Prod.mk.injEq] at hr
      obtain ⟨rfl, rfl, rfl⟩ := hr
      exact ⟨by omega, Or.inr (Or.inl ⟨by split <;> omega, _, rfl, rfl, by split <;> omega⟩)⟩
  rcases hZ with ⟨o, n0, n1, rfl, rfl, e0, e1⟩ | ⟨o, n, rfl, rfl, e1⟩
  · have s := own_lsub n0 0 (by omega) (by omega)
    by_cases c2 : e.toInt < (n0 - 0).toInt
    · rw [own_kk1 c c2] at hr
      simp only [Prod.mk.injEq] at hr
      obtain ⟨rfl, rfl, rfl⟩ := hr
      have s2 := own_ladd 0 e (by omega) (by omega)
      exact ⟨by omega, Or.inl ⟨o, _, _, rfl, rfl, by split <;> omega, by split <;> split <;> omega⟩⟩
    · rw [own_kk2 c c2] at hr
      have s2 := own_lsub e (n0 - 0) (by omega) (by omega)
      exact one n0 n1 (e - (n0 - 0)) ts3 ns3 (by omega) (by omega) e1 (by omega) (by omega) (by omega) (by omega) hr
  · exact one 0 n e ts3 ns3 (by omega) (by omega) e1 (by omega) (by omega) (by omega) (by omega) hr
end
section
variable {t0 t1 n0 n1 n c d p : Int64}
theorem own_a3 (o : t0 < t1) : (c < t0 ∧ own_ti [t0, t1] c = [c, t0, t1] ∧ own_bump (own_ni d [t0, t1] [n0, n1] c) (own_pos [t0, t1] c) p = [d + p, n0 + p, n1 + p]) ∨ (c = t0 ∧ own_ti [t0, t1] c = [t0, t1] ∧ own_bump (own_ni d [t0, t1] [n0, n1] c) (own_pos [t0, t1] c) p = [n0 + p, n1 + p]) ∨ (t0 < c ∧ c < t1 ∧ own_ti [t0, t1] c = [t0, c, t1] ∧ own_bump (own_ni d [t0, t1] [n0, n1] c) (own_pos [t0, t1] c) p = [n0, n0 + p, n1 + p]) ∨ (c = t1 ∧ own_ti [t0, t1] c = [t0, t1] ∧ own_bump (own_ni d [t0, t1] [n0, n1] c) (own_pos [t0, t1] c) p = [n0, n1 + p]) ∨ (t1 < c ∧ own_ti [t0, t1] c = [t0, t1, c] ∧ own_bump (own_ni d [t0, t1] [n0, n1] c) (own_pos [t0, t1] c) p = [n0, n1, n1 + p]) := by
  rcases own_tri c t0 with h | h | h
  · have q : ¬ t0 < c := by rw [own_ltt] at *; omega
    have ne : ¬ t0 = c := fun z => by rw [z] at h; exact own_irr _ h
    have e : own_pos [t0, t1] c = 0 := by simp [own_pos, q]
    refine Or.inl ⟨h, ?_, ?_⟩
    · unfold own_ti; rw [e]; simp [own_at, ne]
    · unfold own_ni; rw [e]; simp [own_at, own_bump, own_nbv, ne]
  · subst h
    have e : own_pos [c, t1] c = 0 := by simp [own_pos, own_irr]
    refine Or.inr (Or.inl ⟨rfl, ?_, ?_⟩)
    · unfold own_ti; rw [e]; simp
    · unfold own_ni; rw [e]; simp [own_bump]
  · rcases own_tri c t1 with h2 | h2 | h2
    · have q : ¬ t1 < c := by rw [own_ltt] at *; omega
      have ne : ¬ t1 = c := fun z => by rw [z] at h2; exact own_irr _ h2
      have e : own_pos [t0, t1] c = 1 := by simp [own_pos, h, q]
      refine Or.inr (Or.inr (Or.inl ⟨h, h2, ?_, ?_⟩))
      · unfold own_ti; rw [e]; simp [own_at, ne]
      · unfold own_ni; rw [e]; simp [own_at, own_bump, own_nbv, ne]
    · subst h2
      have e : own_pos [t0, c] c = 1 := by simp [own_pos, h, own_irr]
      refine Or.inr (Or.inr (Or.inr (Or.inl ⟨rfl, ?_, ?_⟩)))
      · unfold own_ti; rw [e]; simp
      · unfold own_ni; rw [e]; simp [own_bump]
    · obtain ⟨x1, x2⟩ := own_lt3 (n := n0) (m := n1) (d := d) (p := p) h h2
      exact Or.inr (Or.inr (Or.inr (Or.inr ⟨h2, x1, x2⟩)))
end
section
variable {lo hi c d p : Int64} {qlo qhi : Int} {ts ns : List Int64}
theorem own_Yl (hY : own_Y d lo hi qlo qhi ts ns) : ts.length < 4 ∧ own_S ts ∧ ns.length = ts.length := by
  rcases hY with ⟨o, n0, n1, rfl, rfl, -, -⟩ | ⟨-, n, rfl, rfl, -⟩ | ⟨-, -, rfl, rfl⟩
  · exact ⟨by simp, by unfold own_S; simp [o], rfl⟩
  · exact ⟨by simp, by unfold own_S; simp, rfl⟩
  · exact ⟨by simp, List.Pairwise.nil, rfl⟩
theorem own_224 (hY : own_Y d lo hi qlo qhi ts ns) (hd : 0 ≤ d.toInt ∧ d.toInt ≤ 14) (h1 : 0 ≤ qlo ∧ qlo ≤ 14) (h2 : 0 ≤ qhi ∧ qhi ≤ 14) (hp : 0 ≤ p.toInt ∧ p.toInt ≤ 7) : ∃ ts4 ns4 : List Int64, own_ti ts c = ts4 ∧ own_bump (own_ni d ts ns c) (own_pos ts c) p = ns4 ∧ own_P (own_GI lo.toInt qlo hi.toInt qhi c.toInt p.toInt) (own_HI lo.toInt qlo hi.toInt qhi c.toInt p.toInt) (d.toInt + qlo + qhi + p.toInt) d.toInt ts4 ns4 := by
  refine ⟨_, _, rfl, rfl, ?_⟩
  have sd := own_ladd d p (by omega) (by omega)
  rcases hY with ⟨o, n0, n1, rfl, rfl, e0, e1⟩ | ⟨z0, n, rfl, rfl, e1⟩ | ⟨z0, z1, rfl, rfl⟩
  · have s0 := own_ladd n0 p (by omega) (by omega)
    have s1 := own_ladd n1 p (by omega) (by omega)
    have o' := (own_ltt _ _).mp o
    rcases own_a3 (c := c) (n0 := n0) (n1 := n1) (d := d) (p := p) o with ⟨u, x1, x2⟩ | ⟨u, x1, x2⟩ | ⟨u, u2, x1, x2⟩ | ⟨u, x1, x2⟩ | ⟨u, x1, x2⟩ <;> rw [x1, x2] <;> simp only [own_P, own_GI, own_HI] <;> (try simp only [own_ltt] at u)
    · refine ⟨by omega, ?_, ?_, by omega, ?_, ?_, by omega, ?_, ?_, by omega⟩ <;> split <;> (try split) <;> (try split) <;> omega
    · subst u
      refine ⟨by omega, ?_, ?_, by omega, ?_, ?_, by omega⟩ <;> split <;> (try split) <;> (try split) <;> omega
    · rw [own_ltt] at u2
      refine ⟨by omega, ?_, ?_, by omega, ?_, ?_, by omega, ?_, ?_, by omega⟩ <;> split <;> (try split) <;> (try split) <;> omega
    · subst u
      refine ⟨by omega, ?_, ?_, by omega, ?_, ?_, by omega⟩ <;> split <;> (try split) <;> (try split) <;> omega
    · refine ⟨by omega, ?_, ?_, by omega, ?_, ?_, by omega, ?_, ?_, by omega⟩ <;> split <;> (try split) <;> (try split) <;> omega
  · have s1 := own_ladd n p (by omega) (by omega)
    rcases own_tri hi c with u | u | u
    · obtain ⟨x1, x2⟩ := own_lt2 (n := n) (d := d) (p := p) u
      rw [x1, x2]; simp only [own_P, own_GI, own_HI]; rw [own_ltt] at u
      refine ⟨by omega, ?_, ?_, by omega, ?_, ?_, by omega⟩ <;> split <;> (try split) <;> (try split) <;> omega
    · subst u
      obtain ⟨x1, x2⟩ := own_eq2 (t1 := hi) (n := n) (d := d) (p := p)
      rw [x1, x2]; simp only [own_P, own_GI, own_HI]
      refine ⟨by omega, ?_, ?_, by omega⟩ <;> split <;> (try split) <;> (try split) <;> omega
    · obtain ⟨x1, x2⟩ := own_gt2 (n := n) (d := d) (p := p) u
      rw [x1, x2]; simp only [own_P, own_GI, own_HI]; rw [own_ltt] at u
      refine ⟨by omega, ?_, ?_, by omega, ?_, ?_, by omega⟩ <;> split <;> (try split) <;> (try split) <;> omega
  · rw [own_ti0, own_ni0]; simp only [own_P, own_GI, own_HI]
    refine ⟨by omega, ?_, ?_, by omega⟩ <;> split <;> (try split) <;> (try split) <;> omega
end
theorem own_mk7 (x : Int32) {v : Int64} (h : (x &&& (7 : Int32)).toInt64 = v) : 0 ≤ v.toInt ∧ v.toInt ≤ 7 := by
  have a := c_mask x 7 3 (by omega) (by decide)
  rw [← h, c_i2l]
  omega
theorem own_mk15 (x : Int32) {v : Int64} (h : (x &&& (15 : Int32)).toInt64 = v) : 0 ≤ v.toInt ∧ v.toInt ≤ 15 := by
  have a := c_mask x 15 4 (by omega) (by decide)
  rw [← h, c_i2l]
  omega
section
variable {lo hi plo phi s tot m dr qlo qhi d3 h k pc : Int64} {ts2 ns2 ts3 ns3 ts4 ns4 : List Int64}
theorem own_dm (ha : -100 ≤ plo.toInt ∧ plo.toInt ≤ 100) (hb : -100 ≤ phi.toInt ∧ phi.toInt ≤ 100) : (plo - phi).toInt = plo.toInt - phi.toInt := by
  have h := c_lsub plo phi
  have r := rng64 (plo - phi)
  omega
theorem own_215 (hZ : own_Z lo hi plo.toInt s.toInt ts2 ns2) (hB : 0 ≤ plo.toInt ∧ 0 ≤ phi.toInt ∧ plo.toInt + phi.toInt = s.toInt ∧ s.toInt ≤ 14) (hm : 0 ≤ m.toInt ∧ m.toInt ≤ 15) (ht : s = tot) (hdr : (m < tot ∧ dr = tot - m) ∨ (¬ m < tot ∧ dr = 0)) (h1 : own_max (0 : Int64) (plo - dr) = qlo) (h2 : (phi - (own_max (0 : Int64) (dr - plo))) = qhi) (hr : (d3, ts3, ns3) = own_kp (0 : Int64) ts2 ns2 ((own_tt (0 : Int64) ns2) - m)) : own_Y d3 lo hi qlo.toInt qhi.toInt ts3 ns3 ∧ (0 ≤ d3.toInt ∧ d3.toInt ≤ 14) ∧ (0 ≤ qlo.toInt ∧ qlo.toInt ≤ 14) ∧ (0 ≤ qhi.toInt ∧ qhi.toInt ≤ 14) := by
  subst ht
  have e := own_el0
  have hT := (own_Zm hZ (by omega)).2.2
  have s1 := own_lsub (own_tt (0 : Int64) ns2) m (by omega) hm.1
  have hD : dr.toInt = if 0 < ((own_tt (0 : Int64) ns2) - m).toInt then ((own_tt (0 : Int64) ns2) - m).toInt else 0 := by
    rw [s1, hT]
    rcases hdr with ⟨c, rfl⟩ | ⟨c, rfl⟩
    · rw [own_ltt] at c
      rw [own_lsub _ _ (by omega) hm.1, if_pos (by omega)]
    · rw [own_ltt] at c
      rw [own_el0, if_neg (by omega)]
  obtain ⟨y1, y2⟩ := own_Yk hZ (by omega) (by omega) hr dr.toInt hD
  have hDb : 0 ≤ dr.toInt ∧ dr.toInt ≤ s.toInt := by split at hD <;> omega
  have a1 := own_dm (plo := plo) (phi := dr) (by omega) (by omega)
  have a2 := own_dm (plo := dr) (phi := plo) (by omega) (by omega)
  have b1 := own_max_s _ _ h1
  have b2 := own_max_s (0 : Int64) (dr - plo) rfl
  have b3 := own_dm (plo := phi) (phi := own_max (0 : Int64) (dr - plo)) (by omega) (by omega)
  rw [h2] at b3
  have f1 : (if dr.toInt < plo.toInt then plo.toInt - dr.toInt else 0) = qlo.toInt := by split <;> omega
  have f2 : (s.toInt - plo.toInt - (if plo.toInt < dr.toInt then dr.toInt - plo.toInt else 0)) = qhi.toInt := by split <;> omega
  rw [f1, f2] at y2
  refine ⟨y2, by omega, by omega, ?_⟩
  rw [← f2]; split <;> omega
theorem own_hhv (hq : 0 ≤ qlo.toInt ∧ qlo.toInt ≤ 14) (hq2 : 0 ≤ qhi.toInt ∧ qhi.toInt ≤ 14) (hp : 0 ≤ pc.toInt ∧ pc.toInt ≤ 7) (hh : ((qlo + qhi) + pc) = h) : h.toInt = qlo.toInt + qhi.toInt + pc.toInt := by
  have a := own_ladd qlo qhi (by omega) (by omega)
  have b := own_ladd (qlo + qhi) pc (by omega) (by omega)
  rw [← hh, b, a]
theorem own_K {p : Int32} (h0 : 0 ≤ h.toInt ∧ h.toInt ≤ 100) (hc : ¬ h = 0) (hk : ((1 : Int64) + ((p &&& (2147483647 : Int32)).toInt64 % h)) = k) : 1 ≤ k.toInt ∧ k.toInt ≤ h.toInt := by
  have a := c_mask p 2147483647 31 (by omega) (by decide)
  have a2 := c_i2l (p &&& 2147483647)
  have hp : 0 < h.toInt := by
    have : h.toInt ≠ 0 := fun q => hc (Int64.toInt_inj.mp (by rw [own_el0]; exact q))
    omega
  have m1 := Int.tmod_nonneg h.toInt (a := (p &&& 2147483647).toInt64.toInt) (by omega)
  have m2 := Int.tmod_lt_of_pos (p &&& 2147483647).toInt64.toInt hp
  rw [← Int64.toInt_mod] at m1 m2
  have b := own_ladd 1 ((p &&& 2147483647).toInt64 % h) (by rw [own_el1]; omega) (by omega)
  rw [own_el1] at b
  rw [← hk, b]
  omega
theorem own_sn {s : Int32} (h : s.toInt = (ts4.length : Int)) (hl : ns4.length = ts4.length) : s.toInt = (ns4.length : Int) := by omega
theorem own_231 {f sz : Int32} {N : Nat → Int64} {G H : Int → Int} {L b : Int} (hP : own_P G H L b ts4 ns4) (hN : own_Q f N ns4) (hsz : sz.toInt = (ns4.length : Int)) (hb : 0 ≤ b ∧ L ≤ 100) (hk : 1 ≤ k.toInt ∧ k.toInt ≤ L - b) : ∃ t, ts4[own_pos ns4 (((N ((f + (sz - (1 : Int32))) &&& (3 : Int32)).toNatClampNeg) - k) + (1 : Int64))]? = some t ∧ own_pos ns4 (((N ((f + (sz - (1 : Int32))) &&& (3 : Int32)).toNatClampNeg) - k) + (1 : Int64)) < ns4.length ∧ k.toInt ≤ G t.toInt ∧ H t.toInt < k.toInt := by
  have h0 : 0 < ns4.length := by
    cases ns4 with
    | nil =>
      cases ts4 with
      | nil => simp only [own_P] at hP; omega
      | cons _ _ => simp only [own_P] at hP
    | cons _ _ => simp
  obtain ⟨x, hx⟩ := own_idx (ts := ns4) (i := ns4.length - 1) (by omega)
  rw [own_get hN (own_sm1 hsz h0 hN.2.2.1) hx]
  have hL := own_Plast hP x hx
  have s1 := own_lsub x k (by omega) (by omega)
  have s2 := own_ladd (x - k) 1 (by omega) (by rw [own_el1]; omega)
  rw [own_el1] at s2
  obtain ⟨t, e1, e2, e3, e4⟩ := own_Pfin (w := (x - k) + 1) hP (by omega) (by omega)
  exact ⟨t, e1, e2, by omega, by omega⟩
theorem own_o8 {f : Int32} {N : Nat → Int64} {w : Int64} (hN : own_Q f N ns4) (h : own_pos ns4 w < ns4.length) : (Int32.ofNat (own_pos ns4 w)).toInt = (own_pos ns4 w : Int) := own_ofn _ (by have := hN.2.2.1; omega)
theorem own_c279 {t c g : Int64} (hx : 0 ≤ qlo.toInt ∧ qlo.toInt ≤ 14) (hy : 0 ≤ qhi.toInt ∧ qhi.toInt ≤ 14) (hz : 0 ≤ pc.toInt ∧ pc.toInt ≤ 7) (hg : own_gt t lo qlo hi qhi c pc = g) (h : own_HI lo.toInt qlo.toInt hi.toInt qhi.toInt c.toInt pc.toInt t.toInt < k.toInt) : g < k := by
  rw [own_ltt, ← hg, own_gtI (by omega) (by omega) (by omega)]; exact h
theorem own_c287 {t c g : Int64} (hx : 0 ≤ qlo.toInt ∧ qlo.toInt ≤ 14) (hy : 0 ≤ qhi.toInt ∧ qhi.toInt ≤ 14) (hz : 0 ≤ pc.toInt ∧ pc.toInt ≤ 7) (hg : own_ge t lo qlo hi qhi c pc = g) (h : k.toInt ≤ own_GI lo.toInt qlo.toInt hi.toInt qhi.toInt c.toInt pc.toInt t.toInt) : ¬ g < k := by
  rw [own_ltt, ← hg, own_geI (by omega) (by omega) (by omega)]; omega
end

theorem ef_rmI (m : MethodId) (a0 : Addr) (q1 : Int64) : entryFrame m #[(.ref a0), (.long q1)] 3 = mkF m 0 #[.val (.ref a0), .val (.long q1), .second] [] := by first | (simp [entryFrame, mkF, argsToLocals, Value.category]; done) | rfl
def Q_rmI (Z : State) (a0 : Addr) (q1 : Int64) (h0 : Heap) (n0 : Nat) (v : Option Value) (h : Heap) : Prop := ∃ (gI : Addr) (gN : Addr), v = none ∧ h0.size ≤ gI ∧ h0.size ≤ gN ∧ gI ≠ gN ∧ Keep h0 h [a0] ∧ Exa Z h a0 "com/example/bucket_brigade/bucketbrigade/PermitLog" ∧ Fld Z h a0 "com/example/bucket_brigade/bucketbrigade/PermitLog" "instants" "[J" (.ref gI) ∧ Fld Z h a0 "com/example/bucket_brigade/bucketbrigade/PermitLog" "lastNumbers" "[J" (.ref gN) ∧ Fld Z h a0 "com/example/bucket_brigade/bucketbrigade/PermitLog" "first" "I" (.int (0 : Int32)) ∧ Fld Z h a0 "com/example/bucket_brigade/bucketbrigade/PermitLog" "size" "I" (.int (0 : Int32)) ∧ Fld Z h a0 "com/example/bucket_brigade/bucketbrigade/PermitLog" "dropped" "J" (.long (0 : Int64)) ∧ Ary Z h gI .long 4 (fun i => (.long ((fun _ => 0) i))) ∧ Ary Z h gN .long 4 (fun i => (.long ((fun _ => 0) i)))
set_option maxRecDepth 65536 in
set_option maxHeartbeats 40000000 in
theorem rmI (l : Launch) (Z : State) (aw : Array Value) (hw : ∀ d ∈ tables_1, d.before aw Z = true) (a0 : Addr) (q1 : Int64) (h0 : Heap) (n0 : Nat) (E_a0 : Exa Z h0 a0 "com/example/bucket_brigade/bucketbrigade/PermitLog") (F_a0_instants : Fld Z h0 a0 "com/example/bucket_brigade/bucketbrigade/PermitLog" "instants" "[J" .null) (F_a0_lastNumbers : Fld Z h0 a0 "com/example/bucket_brigade/bucketbrigade/PermitLog" "lastNumbers" "[J" .null) (F_a0_first : Fld Z h0 a0 "com/example/bucket_brigade/bucketbrigade/PermitLog" "first" "I" (.int (0 : Int32))) (F_a0_size : Fld Z h0 a0 "com/example/bucket_brigade/bucketbrigade/PermitLog" "size" "I" (.int (0 : Int32))) (F_a0_dropped : Fld Z h0 a0 "com/example/bucket_brigade/bucketbrigade/PermitLog" "dropped" "J" (.long (0 : Int64))) (F_a0_completeFrom : Fld Z h0 a0 "com/example/bucket_brigade/bucketbrigade/PermitLog" "completeFrom" "J" (.long (0 : Int64))) (g_a0 : n0 ≤ a0) :
    Con l Z (⟨"com/example/bucket_brigade/bucketbrigade/PermitLog", "<init>", "(J)V"⟩ : MethodName) prog_25_method_1_code 3 none ({ frames := 1, cells := 2, slots := 8, locals := 12 } : Room) #[(.ref a0), (.long q1)] h0 n0 (Q_rmI Z a0 q1 h0 n0) := by
  refine Con.body (plainFor_of_name pn_0) ?_
  intro pr_ en_ st_ me_ below meth co_ T B S
  refine Goes.cast (ef_rmI me_ a0 q1) ?_
  have K : Keep h0 h0 [a0] := Keep.refl _ _
  refine Goes.go (fun _ => XS.aloadN S.here B.x rfl (B.d d_prog_25_method_1_0) rfl rfl) ?_
  show Goes _ _ _ _ T (mkF me_ 1 #[.val (.ref a0), .val (.long q1), .second] [(.ref a0)])
  refine Goes.initO (W := 0) S B (w11 hw) (w12 hw) (w13 hw) d_prog_25_method_1_1 rfl (by decide) (Nat.le_of_eq rfl) (by decide) ?_
  intro T S
  show Goes _ _ _ _ T (mkF me_ 4 #[.val (.ref a0), .val (.long q1), .second] [])
  refine Goes.go (fun _ => XS.aloadN S.here B.x rfl (B.d d_prog_25_method_1_4) rfl rfl) ?_
  show Goes _ _ _ _ T (mkF me_ 5 #[.val (.ref a0), .val (.long q1), .second] [(.ref a0)])
  refine Goes.go (fun _ => XS.iconst S.here B.x rfl (B.d d_prog_25_method_1_5)) ?_
  show Goes _ _ _ _ T (mkF me_ 6 #[.val (.ref a0), .val (.long q1), .second] [(.int (4 : Int32)), (.ref a0)])
  refine Goes.newP (aty := .long) (cap := 4) S B (w14 hw) d_prog_25_method_1_6 (by decide) (by decide) (by decide) (by decide) (by decide) ?_
  intro T h b1 S X zb g_b1 A_b1
  have ne_a0__b1 : a0 ≠ b1 := Nat.ne_of_lt (Nat.lt_of_lt_of_le E_a0.lt (Nat.le_of_eq zb.symm))
  have z_b1 : h0.size ≤ b1 := Nat.le_trans K.1 (Nat.le_of_eq zb.symm)
  replace K := K.ext X
  replace E_a0 := E_a0.ext X
  replace F_a0_instants := F_a0_instants.ext X
  replace F_a0_lastNumbers := F_a0_lastNumbers.ext X
  replace F_a0_first := F_a0_first.ext X
  replace F_a0_size := F_a0_size.ext X
  replace F_a0_dropped := F_a0_dropped.ext X
  replace F_a0_completeFrom := F_a0_completeFrom.ext X
  replace A_b1 : Ary Z h b1 .long 4 (fun i => (.long ((fun _ => 0) i))) := A_b1
  show Goes _ _ _ _ T (mkF me_ 8 #[.val (.ref a0), .val (.long q1), .second] [(.ref b1), (.ref a0)])
  refine Goes.putF (v' := (.ref b1)) S B (w15 hw) F_a0_instants E_a0 (Or.inl (w16 hw)) (w6 hw) (ty := (.array .long)) (by decide) rfl rfl g_a0 d_prog_25_method_1_8 ?_
  intro T h S W
  replace K := K.wr W (Or.inl (by simp))
  replace E_a0 := E_a0.wr W
  replace F_a0_instants := F_a0_instants.same W
  replace F_a0_lastNumbers := F_a0_lastNumbers.other W (Or.inr (slot_ne (Or.inl (w18 hw)) (Or.inl (w16 hw)) (by decide) (t := (.array .long)) (t' := (.array .long)) (by decide) (by decide)))
  replace F_a0_first := F_a0_first.other W (Or.inr (slot_ne (Or.inl (w47 hw)) (Or.inl (w16 hw)) (by decide) (t := .int) (t' := (.array .long)) (by decide) (by decide)))
  replace F_a0_size := F_a0_size.other W (Or.inr (slot_ne (Or.inl (w31 hw)) (Or.inl (w16 hw)) (by decide) (t := .int) (t' := (.array .long)) (by decide) (by decide)))
  replace F_a0_dropped := F_a0_dropped.other W (Or.inr (slot_ne (Or.inl (w37 hw)) (Or.inl (w16 hw)) (by decide) (t := .long) (t' := (.array .long)) (by decide) (by decide)))
  replace F_a0_completeFrom := F_a0_completeFrom.other W (Or.inr (slot_ne (Or.inr (w20 hw)) (Or.inl (w16 hw)) (by decide) (t := .long) (t' := (.array .long)) (by decide) (by decide)))
  replace A_b1 := A_b1.other W ne_a0__b1.symm
  show Goes _ _ _ _ T (mkF me_ 11 #[.val (.ref a0), .val (.long q1), .second] [])
  refine Goes.go (fun _ => XS.aloadN S.here B.x rfl (B.d d_prog_25_method_1_11) rfl rfl) ?_
  show Goes _ _ _ _ T (mkF me_ 12 #[.val (.ref a0), .val (.long q1), .second] [(.ref a0)])
  refine Goes.go (fun _ => XS.iconst S.here B.x rfl (B.d d_prog_25_method_1_12)) ?_
  show Goes _ _ _ _ T (mkF me_ 13 #[.val (.ref a0), .val (.long q1), .second] [(.int (4 : Int32)), (.ref a0)])
  refine Goes.newP (aty := .long) (cap := 4) S B (w14 hw) d_prog_25_method_1_13 (by decide) (by decide) (by decide) (by decide) (by decide) ?_
  intro T h b2 S X zb g_b2 A_b2
  have ne_a0__b2 : a0 ≠ b2 := Nat.ne_of_lt (Nat.lt_of_lt_of_le E_a0.lt (Nat.le_of_eq zb.symm))
  have ne_b1__b2 : b1 ≠ b2 := Nat.ne_of_lt (Nat.lt_of_lt_of_le A_b1.lt (Nat.le_of_eq zb.symm))
  have z_b2 : h0.size ≤ b2 := Nat.le_trans K.1 (Nat.le_of_eq zb.symm)
  replace K := K.ext X
  replace E_a0 := E_a0.ext X
  replace F_a0_instants := F_a0_instants.ext X
  replace F_a0_lastNumbers := F_a0_lastNumbers.ext X
  replace F_a0_first := F_a0_first.ext X
  replace F_a0_size := F_a0_size.ext X
  replace F_a0_dropped := F_a0_dropped.ext X
  replace F_a0_completeFrom := F_a0_completeFrom.ext X
  replace A_b1 := A_b1.ext X
  replace A_b2 : Ary Z h b2 .long 4 (fun i => (.long ((fun _ => 0) i))) := A_b2
  show Goes _ _ _ _ T (mkF me_ 15 #[.val (.ref a0), .val (.long q1), .second] [(.ref b2), (.ref a0)])
  refine Goes.putF (v' := (.ref b2)) S B (w17 hw) F_a0_lastNumbers E_a0 (Or.inl (w18 hw)) (w6 hw) (ty := (.array .long)) (by decide) rfl rfl g_a0 d_prog_25_method_1_15 ?_
  intro T h S W
  replace K := K.wr W (Or.inl (by simp))
  replace E_a0 := E_a0.wr W
  replace F_a0_instants := F_a0_instants.other W (Or.inr (slot_ne (Or.inl (w16 hw)) (Or.inl (w18 hw)) (by decide) (t := (.array .long)) (t' := (.array .long)) (by decide) (by decide)))
  replace F_a0_lastNumbers := F_a0_lastNumbers.same W
  replace F_a0_first := F_a0_first.other W (Or.inr (slot_ne (Or.inl (w47 hw)) (Or.inl (w18 hw)) (by decide) (t := .int) (t' := (.array .long)) (by decide) (by decide)))
  replace F_a0_size := F_a0_size.other W (Or.inr (slot_ne (Or.inl (w31 hw)) (Or.inl (w18 hw)) (by decide) (t := .int) (t' := (.array .long)) (by decide) (by decide)))
  replace F_a0_dropped := F_a0_dropped.other W (Or.inr (slot_ne (Or.inl (w37 hw)) (Or.inl (w18 hw)) (by decide) (t := .long) (t' := (.array .long)) (by decide) (by decide)))
  replace F_a0_completeFrom := F_a0_completeFrom.other W (Or.inr (slot_ne (Or.inr (w20 hw)) (Or.inl (w18 hw)) (by decide) (t := .long) (t' := (.array .long)) (by decide) (by decide)))
  replace A_b1 := A_b1.other W ne_a0__b1.symm
  replace A_b2 := A_b2.other W ne_a0__b2.symm
  show Goes _ _ _ _ T (mkF me_ 18 #[.val (.ref a0), .val (.long q1), .second] [])
  refine Goes.go (fun _ => XS.aloadN S.here B.x rfl (B.d d_prog_25_method_1_18) rfl rfl) ?_
  show Goes _ _ _ _ T (mkF me_ 19 #[.val (.ref a0), .val (.long q1), .second] [(.ref a0)])
  refine Goes.go (fun _ => XS.lloadN S.here B.x rfl (B.d d_prog_25_method_1_19) rfl) ?_
  show Goes _ _ _ _ T (mkF me_ 20 #[.val (.ref a0), .val (.long q1), .second] [(.long q1), (.ref a0)])
  refine Goes.putF (v' := (.long q1)) S B (w19 hw) F_a0_completeFrom E_a0 (Or.inr ⟨(w20 hw), rfl, rfl⟩) (w6 hw) (ty := .long) (by decide) rfl rfl g_a0 d_prog_25_method_1_20 ?_
  intro T h S W
  replace K := K.wr W (Or.inl (by simp))
  replace E_a0 := E_a0.wr W
  replace F_a0_instants := F_a0_instants.other W (Or.inr (slot_ne (Or.inl (w16 hw)) (Or.inr (w20 hw)) (by decide) (t := (.array .long)) (t' := .long) (by decide) (by decide)))
  replace F_a0_lastNumbers := F_a0_lastNumbers.other W (Or.inr (slot_ne (Or.inl (w18 hw)) (Or.inr (w20 hw)) (by decide) (t := (.array .long)) (t' := .long) (by decide) (by decide)))
  replace F_a0_first := F_a0_first.other W (Or.inr (slot_ne (Or.inl (w47 hw)) (Or.inr (w20 hw)) (by decide) (t := .int) (t' := .long) (by decide) (by decide)))
  replace F_a0_size := F_a0_size.other W (Or.inr (slot_ne (Or.inl (w31 hw)) (Or.inr (w20 hw)) (by decide) (t := .int) (t' := .long) (by decide) (by decide)))
  replace F_a0_dropped := F_a0_dropped.other W (Or.inr (slot_ne (Or.inl (w37 hw)) (Or.inr (w20 hw)) (by decide) (t := .long) (t' := .long) (by decide) (by decide)))
  replace F_a0_completeFrom := F_a0_completeFrom.same W
  replace A_b1 := A_b1.other W ne_a0__b1.symm
  replace A_b2 := A_b2.other W ne_a0__b2.symm
  show Goes _ _ _ _ T (mkF me_ 23 #[.val (.ref a0), .val (.long q1), .second] [])
  refine Goes.retV S B d_prog_25_method_1_23 (by decide) (by decide) ?_
  exact ⟨b1, b2, rfl, z_b1, z_b2, ne_b1__b2, K, E_a0, F_a0_instants, F_a0_lastNumbers, F_a0_first, F_a0_size, F_a0_dropped, A_b1, A_b2⟩
theorem ef_rm_slot (m : MethodId) (a0 : Addr) (p1 : Int32) : entryFrame m #[(.ref a0), (.int p1)] 2 = mkF m 0 #[.val (.ref a0), .val (.int p1)] [] := by first | (simp [entryFrame, mkF, argsToLocals, Value.category]; done) | rfl
def Q_rm_slot (Z : State) (a0 : Addr) (p1 : Int32) (gI : Addr) (fn : Nat → Value) (f : Int32) (h0 : Heap) (n0 : Nat) (v : Option Value) (h : Heap) : Prop := v = some (.int ((f + p1) &&& (3 : Int32))) ∧ h = h0
set_option maxRecDepth 65536 in
set_option maxHeartbeats 40000000 in
theorem rm_slot (l : Launch) (Z : State) (aw : Array Value) (hw : ∀ d ∈ tables_1, d.before aw Z = true) (a0 : Addr) (p1 : Int32) (gI : Addr) (fn : Nat → Value) (f : Int32) (h0 : Heap) (n0 : Nat) (F_a0_first : Fld Z h0 a0 "com/example/bucket_brigade/bucketbrigade/PermitLog" "first" "I" (.int f)) (F_a0_instants : Fld Z h0 a0 "com/example/bucket_brigade/bucketbrigade/PermitLog" "instants" "[J" (.ref gI)) (A_gI : Ary Z h0 gI .long 4 fn) :
    Con l Z (⟨"com/example/bucket_brigade/bucketbrigade/PermitLog", "slot", "(I)I"⟩ : MethodName) prog_25_method_20_code 2 (some .int) ({ frames := 0, cells := 0, slots := 0, locals := 0 } : Room) #[(.ref a0), (.int p1)] h0 n0 (Q_rm_slot Z a0 p1 gI fn f h0 n0) := by
  refine Con.body (plainFor_of_name pn_0) ?_
  intro pr_ en_ st_ me_ below meth co_ T B S
  refine Goes.cast (ef_rm_slot me_ a0 p1) ?_
  refine Goes.go (fun _ => XS.aloadN S.here B.x rfl (B.d d_prog_25_method_20_0) rfl rfl) ?_
  show Goes _ _ _ _ T (mkF me_ 1 #[.val (.ref a0), .val (.int p1)] [(.ref a0)])
  refine Goes.getF S B (w46 hw) F_a0_first d_prog_25_method_20_1 ?_
  intro T S
  show Goes _ _ _ _ T (mkF me_ 4 #[.val (.ref a0), .val (.int p1)] [(.int f)])
  refine Goes.go (fun _ => XS.iloadN S.here B.x rfl (B.d d_prog_25_method_20_4) rfl) ?_
  show Goes _ _ _ _ T (mkF me_ 5 #[.val (.ref a0), .val (.int p1)] [(.int p1), (.int f)])
  refine Goes.go (fun _ => XS.iadd S.here B.x rfl (B.d d_prog_25_method_20_5) rfl) ?_
  show Goes _ _ _ _ T (mkF me_ 6 #[.val (.ref a0), .val (.int p1)] [(.int (f + p1))])
  refine Goes.go (fun _ => XS.aloadN S.here B.x rfl (B.d d_prog_25_method_20_6) rfl rfl) ?_
  show Goes _ _ _ _ T (mkF me_ 7 #[.val (.ref a0), .val (.int p1)] [(.ref a0), (.int (f + p1))])
  refine Goes.getF S B (w15 hw) F_a0_instants d_prog_25_method_20_7 ?_
  intro T S
  show Goes _ _ _ _ T (mkF me_ 10 #[.val (.ref a0), .val (.int p1)] [(.ref gI), (.int (f + p1))])
  refine Goes.alen S B A_gI (z := (4 : Int32)) rfl d_prog_25_method_20_10 ?_
  show Goes _ _ _ _ T (mkF me_ 11 #[.val (.ref a0), .val (.int p1)] [(.int (4 : Int32)), (.int (f + p1))])
  refine Goes.go (fun _ => XS.iconst S.here B.x rfl (B.d d_prog_25_method_20_11)) ?_
  show Goes _ _ _ _ T (mkF me_ 12 #[.val (.ref a0), .val (.int p1)] [(.int (1 : Int32)), (.int (4 : Int32)), (.int (f + p1))])
  refine Goes.go (fun _ => XS.isub S.here B.x rfl (B.d d_prog_25_method_20_12) rfl) ?_
  show Goes _ _ _ _ T (mkF me_ 13 #[.val (.ref a0), .val (.int p1)] [(.int (3 : Int32)), (.int (f + p1))])
  refine Goes.go (fun _ => XS.iand S.here B.x rfl (B.d d_prog_25_method_20_13) rfl) ?_
  show Goes _ _ _ _ T (mkF me_ 14 #[.val (.ref a0), .val (.int p1)] [(.int ((f + p1) &&& (3 : Int32)))])
  refine Goes.retI S B d_prog_25_method_20_14 (by decide) (by decide) ?_
  exact ⟨(by first | rfl | (rw [bi_pos (by assumption)]; rfl) | (rw [bi_neg (by assumption)]; rfl) | (rw [nar_bi]; exact congrArg (fun z => some (Value.int z)) (bi_congr (by simp_all))) | (simp_all [bi, nar]; done)), rfl⟩
theorem ef_rm_instant (m : MethodId) (a0 : Addr) (p1 : Int32) : entryFrame m #[(.ref a0), (.int p1)] 2 = mkF m 0 #[.val (.ref a0), .val (.int p1)] [] := by first | (simp [entryFrame, mkF, argsToLocals, Value.category]; done) | rfl
def Q_rm_instant (Z : State) (a0 : Addr) (p1 : Int32) (gI : Addr) (I : Nat → Int64) (f : Int32) (h0 : Heap) (n0 : Nat) (v : Option Value) (h : Heap) : Prop := v = some (.long (I ((f + p1) &&& (3 : Int32)).toNatClampNeg)) ∧ h = h0
set_option maxRecDepth 65536 in
set_option maxHeartbeats 40000000 in
theorem rm_instant (l : Launch) (Z : State) (aw : Array Value) (hw : ∀ d ∈ tables_1, d.before aw Z = true) (a0 : Addr) (p1 : Int32) (gI : Addr) (I : Nat → Int64) (f : Int32) (h0 : Heap) (n0 : Nat) (E_a0 : Exa Z h0 a0 "com/example/bucket_brigade/bucketbrigade/PermitLog") (F_a0_first : Fld Z h0 a0 "com/example/bucket_brigade/bucketbrigade/PermitLog" "first" "I" (.int f)) (F_a0_instants : Fld Z h0 a0 "com/example/bucket_brigade/bucketbrigade/PermitLog" "instants" "[J" (.ref gI)) (A_gI : Ary Z h0 gI .long 4 (fun i => (.long (I i)))) :
    Con l Z (⟨"com/example/bucket_brigade/bucketbrigade/PermitLog", "instant", "(I)J"⟩ : MethodName) prog_25_method_18_code 2 (some .long) ({ frames := 1, cells := 0, slots := 0, locals := 14 } : Room) #[(.ref a0), (.int p1)] h0 n0 (Q_rm_instant Z a0 p1 gI I f h0 n0) := by
  refine Con.body (plainFor_of_name pn_0) ?_
  intro pr_ en_ st_ me_ below meth co_ T B S
  refine Goes.cast (ef_rm_instant me_ a0 p1) ?_
  refine Goes.go (fun _ => XS.aloadN S.here B.x rfl (B.d d_prog_25_method_18_0) rfl rfl) ?_
  show Goes _ _ _ _ T (mkF me_ 1 #[.val (.ref a0), .val (.int p1)] [(.ref a0)])
  refine Goes.getF S B (w15 hw) F_a0_instants d_prog_25_method_18_1 ?_
  intro T S
  show Goes _ _ _ _ T (mkF me_ 4 #[.val (.ref a0), .val (.int p1)] [(.ref gI)])
  refine Goes.go (fun _ => XS.aloadN S.here B.x rfl (B.d d_prog_25_method_18_4) rfl rfl) ?_
  show Goes _ _ _ _ T (mkF me_ 5 #[.val (.ref a0), .val (.int p1)] [(.ref a0), (.ref gI)])
  refine Goes.go (fun _ => XS.iloadN S.here B.x rfl (B.d d_prog_25_method_18_5) rfl) ?_
  show Goes _ _ _ _ T (mkF me_ 6 #[.val (.ref a0), .val (.int p1)] [(.int p1), (.ref a0), (.ref gI)])
  refine Goes.callP (argsL := [(.int p1)]) (rest := [(.ref gI)]) (W := 1) S B (rm_slot l Z aw hw a0 p1 gI (fun i => (.long (I i))) f _ n0 F_a0_first F_a0_instants A_gI) E_a0 (w42 hw) (w44 hw) (w6 hw) (w43 hw) (w7 hw) (w45 hw) (by decide) (by decide) (by decide) (by decide) (by decide) rfl (lenOf pd_0 rfl) rfl (Nat.le_of_eq rfl) d_prog_25_method_18_6 ?_
  intro v T h S hQ
  obtain ⟨rfl, hh⟩ := hQ
  replace hh := hh.symm
  subst hh
  show Goes _ _ _ _ T (mkF me_ 9 #[.val (.ref a0), .val (.int p1)] [(.int ((f + p1) &&& (3 : Int32))), (.ref gI)])
  refine Goes.laload S B A_gI (own_m3 _).1 (own_m3 _).2 d_prog_25_method_18_9 (v := (.long (I ((f + p1) &&& (3 : Int32)).toNatClampNeg))) rfl ?_
  show Goes _ _ _ _ T (mkF me_ 10 #[.val (.ref a0), .val (.int p1)] [(.long (I ((f + p1) &&& (3 : Int32)).toNatClampNeg))])
  refine Goes.retL S B d_prog_25_method_18_10 (by decide) (by decide) ?_
  exact ⟨(by first | rfl | (rw [bi_pos (by assumption)]; rfl) | (rw [bi_neg (by assumption)]; rfl) | (rw [nar_bi]; exact congrArg (fun z => some (Value.int z)) (bi_congr (by simp_all))) | (simp_all [bi, nar]; done)), rfl⟩
theorem ef_rm_last (m : MethodId) (a0 : Addr) (p1 : Int32) : entryFrame m #[(.ref a0), (.int p1)] 2 = mkF m 0 #[.val (.ref a0), .val (.int p1)] [] := by first | (simp [entryFrame, mkF, argsToLocals, Value.category]; done) | rfl
def Q_rm_last (Z : State) (a0 : Addr) (p1 : Int32) (gI : Addr) (gN : Addr) (fn : Nat → Value) (N : Nat → Int64) (f : Int32) (h0 : Heap) (n0 : Nat) (v : Option Value) (h : Heap) : Prop := v = some (.long (N ((f + p1) &&& (3 : Int32)).toNatClampNeg)) ∧ h = h0
set_option maxRecDepth 65536 in
set_option maxHeartbeats 40000000 in
theorem rm_last (l : Launch) (Z : State) (aw : Array Value) (hw : ∀ d ∈ tables_1, d.before aw Z = true) (a0 : Addr) (p1 : Int32) (gI : Addr) (gN : Addr) (fn : Nat → Value) (N : Nat → Int64) (f : Int32) (h0 : Heap) (n0 : Nat) (E_a0 : Exa Z h0 a0 "com/example/bucket_brigade/bucketbrigade/PermitLog") (F_a0_first : Fld Z h0 a0 "com/example/bucket_brigade/bucketbrigade/PermitLog" "first" "I" (.int f)) (F_a0_instants : Fld Z h0 a0 "com/example/bucket_brigade/bucketbrigade/PermitLog" "instants" "[J" (.ref gI)) (F_a0_lastNumbers : Fld Z h0 a0 "com/example/bucket_brigade/bucketbrigade/PermitLog" "lastNumbers" "[J" (.ref gN)) (A_gI : Ary Z h0 gI .long 4 fn) (A_gN : Ary Z h0 gN .long 4 (fun i => (.long (N i)))) :
    Con l Z (⟨"com/example/bucket_brigade/bucketbrigade/PermitLog", "lastNumber", "(I)J"⟩ : MethodName) prog_25_method_19_code 2 (some .long) ({ frames := 1, cells := 0, slots := 0, locals := 14 } : Room) #[(.ref a0), (.int p1)] h0 n0 (Q_rm_last Z a0 p1 gI gN fn N f h0 n0) := by
  refine Con.body (plainFor_of_name pn_0) ?_
  intro pr_ en_ st_ me_ below meth co_ T B S
  refine Goes.cast (ef_rm_last me_ a0 p1) ?_
  refine Goes.go (fun _ => XS.aloadN S.here B.x rfl (B.d d_prog_25_method_19_0) rfl rfl) ?_
  show Goes _ _ _ _ T (mkF me_ 1 #[.val (.ref a0), .val (.int p1)] [(.ref a0)])
  refine Goes.getF S B (w17 hw) F_a0_lastNumbers d_prog_25_method_19_1 ?_
  intro T S
  show Goes _ _ _ _ T (mkF me_ 4 #[.val (.ref a0), .val (.int p1)] [(.ref gN)])
  refine Goes.go (fun _ => XS.aloadN S.here B.x rfl (B.d d_prog_25_method_19_4) rfl rfl) ?_
  show Goes _ _ _ _ T (mkF me_ 5 #[.val (.ref a0), .val (.int p1)] [(.ref a0), (.ref gN)])
  refine Goes.go (fun _ => XS.iloadN S.here B.x rfl (B.d d_prog_25_method_19_5) rfl) ?_
  show Goes _ _ _ _ T (mkF me_ 6 #[.val (.ref a0), .val (.int p1)] [(.int p1), (.ref a0), (.ref gN)])
  refine Goes.callP (argsL := [(.int p1)]) (rest := [(.ref gN)]) (W := 1) S B (rm_slot l Z aw hw a0 p1 gI fn f _ n0 F_a0_first F_a0_instants A_gI) E_a0 (w42 hw) (w44 hw) (w6 hw) (w43 hw) (w7 hw) (w45 hw) (by decide) (by decide) (by decide) (by decide) (by decide) rfl (lenOf pd_0 rfl) rfl (Nat.le_of_eq rfl) d_prog_25_method_19_6 ?_
  intro v T h S hQ
  obtain ⟨rfl, hh⟩ := hQ
  replace hh := hh.symm
  subst hh
  show Goes _ _ _ _ T (mkF me_ 9 #[.val (.ref a0), .val (.int p1)] [(.int ((f + p1) &&& (3 : Int32))), (.ref gN)])
  refine Goes.laload S B A_gN (own_m3 _).1 (own_m3 _).2 d_prog_25_method_19_9 (v := (.long (N ((f + p1) &&& (3 : Int32)).toNatClampNeg))) rfl ?_
  show Goes _ _ _ _ T (mkF me_ 10 #[.val (.ref a0), .val (.int p1)] [(.long (N ((f + p1) &&& (3 : Int32)).toNatClampNeg))])
  refine Goes.retL S B d_prog_25_method_19_10 (by decide) (by decide) ?_
  exact ⟨(by first | rfl | (rw [bi_pos (by assumption)]; rfl) | (rw [bi_neg (by assumption)]; rfl) | (rw [nar_bi]; exact congrArg (fun z => some (Value.int z)) (bi_congr (by simp_all))) | (simp_all [bi, nar]; done)), rfl⟩
theorem ef_rm_permits (m : MethodId) (a0 : Addr) : entryFrame m #[(.ref a0)] 1 = mkF m 0 #[.val (.ref a0)] [] := by first | (simp [entryFrame, mkF, argsToLocals, Value.category]; done) | rfl
def Q_rm_permits (Z : State) (a0 : Addr) (gI : Addr) (gN : Addr) (fn : Nat → Value) (N : Nat → Int64) (f : Int32) (sz : Int32) (d : Int64) (h0 : Heap) (n0 : Nat) (v : Option Value) (h : Heap) : Prop := v = some (.long (own_perm sz d (N ((f + (sz - (1 : Int32))) &&& (3 : Int32)).toNatClampNeg))) ∧ h = h0
set_option maxRecDepth 65536 in
set_option maxHeartbeats 40000000 in
theorem rm_permits (l : Launch) (Z : State) (aw : Array Value) (hw : ∀ d ∈ tables_1, d.before aw Z = true) (a0 : Addr) (gI : Addr) (gN : Addr) (fn : Nat → Value) (N : Nat → Int64) (f : Int32) (sz : Int32) (d : Int64) (h0 : Heap) (n0 : Nat) (E_a0 : Exa Z h0 a0 "com/example/bucket_brigade/bucketbrigade/PermitLog") (F_a0_instants : Fld Z h0 a0 "com/example/bucket_brigade/bucketbrigade/PermitLog" "instants" "[J" (.ref gI)) (F_a0_lastNumbers : Fld Z h0 a0 "com/example/bucket_brigade/bucketbrigade/PermitLog" "lastNumbers" "[J" (.ref gN)) (F_a0_first : Fld Z h0 a0 "com/example/bucket_brigade/bucketbrigade/PermitLog" "first" "I" (.int f)) (F_a0_size : Fld Z h0 a0 "com/example/bucket_brigade/bucketbrigade/PermitLog" "size" "I" (.int sz)) (F_a0_dropped : Fld Z h0 a0 "com/example/bucket_brigade/bucketbrigade/PermitLog" "dropped" "J" (.long d)) (A_gI : Ary Z h0 gI .long 4 fn) (A_gN : Ary Z h0 gN .long 4 (fun i => (.long (N i)))) :
    Con l Z (⟨"com/example/bucket_brigade/bucketbrigade/PermitLog", "permits", "()J"⟩ : MethodName) prog_25_method_4_code 1 (some .long) ({ frames := 2, cells := 0, slots := 0, locals := 27 } : Room) #[(.ref a0)] h0 n0 (Q_rm_permits Z a0 gI gN fn N f sz d h0 n0) := by
  refine Con.body (plainFor_of_name pn_0) ?_
  intro pr_ en_ st_ me_ below meth co_ T B S
  refine Goes.cast (ef_rm_permits me_ a0) ?_
  refine Goes.go (fun _ => XS.aloadN S.here B.x rfl (B.d d_prog_25_method_4_0) rfl rfl) ?_
  show Goes _ _ _ _ T (mkF me_ 1 #[.val (.ref a0)] [(.ref a0)])
  refine Goes.getF S B (w30 hw) F_a0_size d_prog_25_method_4_1 ?_
  intro T S
  show Goes _ _ _ _ T (mkF me_ 4 #[.val (.ref a0)] [(.int sz)])
  by_cases hc4 : sz = (0 : Int32)
  · skip
    refine Goes.go (fun _ => XS.ifNo S.here B.x rfl (B.d d_prog_25_method_4_4) rfl ((if0 _ _).trans (teq hc4).2)) ?_
    show Goes _ _ _ _ T (mkF me_ 7 #[.val (.ref a0)] [])
    refine Goes.go (fun _ => XS.lconst S.here B.x rfl (B.d d_prog_25_method_4_7)) ?_
    show Goes _ _ _ _ T (mkF me_ 8 #[.val (.ref a0)] [(.long (0 : Int64))])
    refine Goes.go (fun _ => XS.goto S.here B.x rfl (pc0 := 8) (pc' := 26) rfl (B.d d_prog_25_method_4_8) (by decide) (by decide)) ?_
    show Goes _ _ _ _ T (mkF me_ 26 #[.val (.ref a0)] [(.long (0 : Int64))])
    refine Goes.retL S B d_prog_25_method_4_26 (by decide) (by decide) ?_
    exact ⟨(by simp [own_perm, *]), rfl⟩
  · skip
    refine Goes.go (fun _ => XS.ifYes S.here B.x rfl (pc0 := 4) (pc' := 11) rfl (B.d d_prog_25_method_4_4) rfl ((if0 _ _).trans (feq hc4).2) (by decide) (by decide)) ?_
    show Goes _ _ _ _ T (mkF me_ 11 #[.val (.ref a0)] [])
    refine Goes.go (fun _ => XS.aloadN S.here B.x rfl (B.d d_prog_25_method_4_11) rfl rfl) ?_
    show Goes _ _ _ _ T (mkF me_ 12 #[.val (.ref a0)] [(.ref a0)])
    refine Goes.go (fun _ => XS.aloadN S.here B.x rfl (B.d d_prog_25_method_4_12) rfl rfl) ?_
    show Goes _ _ _ _ T (mkF me_ 13 #[.val (.ref a0)] [(.ref a0), (.ref a0)])
    refine Goes.getF S B (w30 hw) F_a0_size d_prog_25_method_4_13 ?_
    intro T S
    show Goes _ _ _ _ T (mkF me_ 16 #[.val (.ref a0)] [(.int sz), (.ref a0)])
    refine Goes.go (fun _ => XS.iconst S.here B.x rfl (B.d d_prog_25_method_4_16)) ?_
    show Goes _ _ _ _ T (mkF me_ 17 #[.val (.ref a0)] [(.int (1 : Int32)), (.int sz), (.ref a0)])
    refine Goes.go (fun _ => XS.isub S.here B.x rfl (B.d d_prog_25_method_4_17) rfl) ?_
    show Goes _ _ _ _ T (mkF me_ 18 #[.val (.ref a0)] [(.int (sz - (1 : Int32))), (.ref a0)])
    refine Goes.callP (argsL := [(.int (sz - (1 : Int32)))]) (rest := []) (W := 0) S B (rm_last l Z aw hw a0 (sz - (1 : Int32)) gI gN fn N f _ n0 E_a0 F_a0_first F_a0_instants F_a0_lastNumbers A_gI A_gN) E_a0 (w62 hw) (w64 hw) (w6 hw) (w63 hw) (w7 hw) (w65 hw) (by decide) (by decide) (by decide) (by decide) (by decide) rfl (lenOf pd_1 rfl) rfl (Nat.le_of_eq rfl) d_prog_25_method_4_18 ?_
    intro v T h S hQ
    obtain ⟨rfl, hh⟩ := hQ
    replace hh := hh.symm
    subst hh
    show Goes _ _ _ _ T (mkF me_ 21 #[.val (.ref a0)] [(.long (N ((f + (sz - (1 : Int32))) &&& (3 : Int32)).toNatClampNeg))])
    refine Goes.go (fun _ => XS.aloadN S.here B.x rfl (B.d d_prog_25_method_4_21) rfl rfl) ?_
    show Goes _ _ _ _ T (mkF me_ 22 #[.val (.ref a0)] [(.ref a0), (.long (N ((f + (sz - (1 : Int32))) &&& (3 : Int32)).toNatClampNeg))])
    refine Goes.getF S B (w36 hw) F_a0_dropped d_prog_25_method_4_22 ?_
    intro T S
    show Goes _ _ _ _ T (mkF me_ 25 #[.val (.ref a0)] [(.long d), (.long (N ((f + (sz - (1 : Int32))) &&& (3 : Int32)).toNatClampNeg))])
    refine Goes.go (fun _ => XS.lsub S.here B.x rfl (B.d d_prog_25_method_4_25) rfl) ?_
    show Goes _ _ _ _ T (mkF me_ 26 #[.val (.ref a0)] [(.long ((N ((f + (sz - (1 : Int32))) &&& (3 : Int32)).toNatClampNeg) - d))])
    refine Goes.retL S B d_prog_25_method_4_26 (by decide) (by decide) ?_
    exact ⟨(by simp [own_perm, *]), rfl⟩
theorem ef_rm_nb (m : MethodId) (a0 : Addr) (p1 : Int32) : entryFrame m #[(.ref a0), (.int p1)] 2 = mkF m 0 #[.val (.ref a0), .val (.int p1)] [] := by first | (simp [entryFrame, mkF, argsToLocals, Value.category]; done) | rfl
def Q_rm_nb (Z : State) (a0 : Addr) (p1 : Int32) (gI : Addr) (gN : Addr) (fn : Nat → Value) (N : Nat → Int64) (f : Int32) (d : Int64) (h0 : Heap) (n0 : Nat) (v : Option Value) (h : Heap) : Prop := v = some (.long (own_nbf p1 d (N ((f + (p1 - (1 : Int32))) &&& (3 : Int32)).toNatClampNeg))) ∧ h = h0
set_option maxRecDepth 65536 in
set_option maxHeartbeats 40000000 in
theorem rm_nb (l : Launch) (Z : State) (aw : Array Value) (hw : ∀ d ∈ tables_1, d.before aw Z = true) (a0 : Addr) (p1 : Int32) (gI : Addr) (gN : Addr) (fn : Nat → Value) (N : Nat → Int64) (f : Int32) (d : Int64) (h0 : Heap) (n0 : Nat) (E_a0 : Exa Z h0 a0 "com/example/bucket_brigade/bucketbrigade/PermitLog") (F_a0_instants : Fld Z h0 a0 "com/example/bucket_brigade/bucketbrigade/PermitLog" "instants" "[J" (.ref gI)) (F_a0_lastNumbers : Fld Z h0 a0 "com/example/bucket_brigade/bucketbrigade/PermitLog" "lastNumbers" "[J" (.ref gN)) (F_a0_first : Fld Z h0 a0 "com/example/bucket_brigade/bucketbrigade/PermitLog" "first" "I" (.int f)) (F_a0_dropped : Fld Z h0 a0 "com/example/bucket_brigade/bucketbrigade/PermitLog" "dropped" "J" (.long d)) (A_gI : Ary Z h0 gI .long 4 fn) (A_gN : Ary Z h0 gN .long 4 (fun i => (.long (N i)))) :
    Con l Z (⟨"com/example/bucket_brigade/bucketbrigade/PermitLog", "numberBefore", "(I)J"⟩ : MethodName) prog_25_method_17_code 2 (some .long) ({ frames := 2, cells := 0, slots := 0, locals := 27 } : Room) #[(.ref a0), (.int p1)] h0 n0 (Q_rm_nb Z a0 p1 gI gN fn N f d h0 n0) := by
  refine Con.body (plainFor_of_name pn_0) ?_
  intro pr_ en_ st_ me_ below meth co_ T B S
  refine Goes.cast (ef_rm_nb me_ a0 p1) ?_
  refine Goes.go (fun _ => XS.iloadN S.here B.x rfl (B.d d_prog_25_method_17_0) rfl) ?_
  show Goes _ _ _ _ T (mkF me_ 1 #[.val (.ref a0), .val (.int p1)] [(.int p1)])
  by_cases hc1 : p1 = (0 : Int32)
  · skip
    refine Goes.go (fun _ => XS.ifNo S.here B.x rfl (B.d d_prog_25_method_17_1) rfl ((if0 _ _).trans (teq hc1).2)) ?_
    show Goes _ _ _ _ T (mkF me_ 4 #[.val (.ref a0), .val (.int p1)] [])
    refine Goes.go (fun _ => XS.aloadN S.here B.x rfl (B.d d_prog_25_method_17_4) rfl rfl) ?_
    show Goes _ _ _ _ T (mkF me_ 5 #[.val (.ref a0), .val (.int p1)] [(.ref a0)])
    refine Goes.getF S B (w36 hw) F_a0_dropped d_prog_25_method_17_5 ?_
    intro T S
    show Goes _ _ _ _ T (mkF me_ 8 #[.val (.ref a0), .val (.int p1)] [(.long d)])
    refine Goes.go (fun _ => XS.goto S.here B.x rfl (pc0 := 8) (pc' := 18) rfl (B.d d_prog_25_method_17_8) (by decide) (by decide)) ?_
    show Goes _ _ _ _ T (mkF me_ 18 #[.val (.ref a0), .val (.int p1)] [(.long d)])
    refine Goes.retL S B d_prog_25_method_17_18 (by decide) (by decide) ?_
    exact ⟨(by simp [own_nbf, *]), rfl⟩
  · skip
    refine Goes.go (fun _ => XS.ifYes S.here B.x rfl (pc0 := 1) (pc' := 11) rfl (B.d d_prog_25_method_17_1) rfl ((if0 _ _).trans (feq hc1).2) (by decide) (by decide)) ?_
    show Goes _ _ _ _ T (mkF me_ 11 #[.val (.ref a0), .val (.int p1)] [])
    refine Goes.go (fun _ => XS.aloadN S.here B.x rfl (B.d d_prog_25_method_17_11) rfl rfl) ?_
    show Goes _ _ _ _ T (mkF me_ 12 #[.val (.ref a0), .val (.int p1)] [(.ref a0)])
    refine Goes.go (fun _ => XS.iloadN S.here B.x rfl (B.d d_prog_25_method_17_12) rfl) ?_
    show Goes _ _ _ _ T (mkF me_ 13 #[.val (.ref a0), .val (.int p1)] [(.int p1), (.ref a0)])
    refine Goes.go (fun _ => XS.iconst S.here B.x rfl (B.d d_prog_25_method_17_13)) ?_
    show Goes _ _ _ _ T (mkF me_ 14 #[.val (.ref a0), .val (.int p1)] [(.int (1 : Int32)), (.int p1), (.ref a0)])
    refine Goes.go (fun _ => XS.isub S.here B.x rfl (B.d d_prog_25_method_17_14) rfl) ?_
    show Goes _ _ _ _ T (mkF me_ 15 #[.val (.ref a0), .val (.int p1)] [(.int (p1 - (1 : Int32))), (.ref a0)])
    refine Goes.callP (argsL := [(.int (p1 - (1 : Int32)))]) (rest := []) (W := 0) S B (rm_last l Z aw hw a0 (p1 - (1 : Int32)) gI gN fn N f _ n0 E_a0 F_a0_first F_a0_instants F_a0_lastNumbers A_gI A_gN) E_a0 (w62 hw) (w64 hw) (w6 hw) (w63 hw) (w7 hw) (w65 hw) (by decide) (by decide) (by decide) (by decide) (by decide) rfl (lenOf pd_1 rfl) rfl (Nat.le_of_eq rfl) d_prog_25_method_17_15 ?_
    intro v T h S hQ
    obtain ⟨rfl, hh⟩ := hQ
    replace hh := hh.symm
    subst hh
    show Goes _ _ _ _ T (mkF me_ 18 #[.val (.ref a0), .val (.int p1)] [(.long (N ((f + (p1 - (1 : Int32))) &&& (3 : Int32)).toNatClampNeg))])
    refine Goes.retL S B d_prog_25_method_17_18 (by decide) (by decide) ?_
    exact ⟨(by simp [own_nbf, *]), rfl⟩
theorem ef_rm_drop (m : MethodId) (a0 : Addr) : entryFrame m #[(.ref a0)] 1 = mkF m 0 #[.val (.ref a0)] [] := by first | (simp [entryFrame, mkF, argsToLocals, Value.category]; done) | rfl
def Q_rm_drop (Z : State) (a0 : Addr) (gI : Addr) (gN : Addr) (fn : Nat → Value) (N : Nat → Int64) (f : Int32) (sz : Int32) (d : Int64) (h0 : Heap) (n0 : Nat) (v : Option Value) (h : Heap) : Prop := v = none ∧ Keep h0 h [a0] ∧ Exa Z h a0 "com/example/bucket_brigade/bucketbrigade/PermitLog" ∧ Fld Z h a0 "com/example/bucket_brigade/bucketbrigade/PermitLog" "instants" "[J" (.ref gI) ∧ Fld Z h a0 "com/example/bucket_brigade/bucketbrigade/PermitLog" "lastNumbers" "[J" (.ref gN) ∧ Fld Z h a0 "com/example/bucket_brigade/bucketbrigade/PermitLog" "first" "I" (.int ((f + (1 : Int32)) &&& (3 : Int32))) ∧ Fld Z h a0 "com/example/bucket_brigade/bucketbrigade/PermitLog" "size" "I" (.int (sz - (1 : Int32))) ∧ Fld Z h a0 "com/example/bucket_brigade/bucketbrigade/PermitLog" "dropped" "J" (.long (N ((f + (0 : Int32)) &&& (3 : Int32)).toNatClampNeg))
set_option maxRecDepth 65536 in
set_option maxHeartbeats 40000000 in
theorem rm_drop (l : Launch) (Z : State) (aw : Array Value) (hw : ∀ d ∈ tables_1, d.before aw Z = true) (a0 : Addr) (gI : Addr) (gN : Addr) (fn : Nat → Value) (N : Nat → Int64) (f : Int32) (sz : Int32) (d : Int64) (h0 : Heap) (n0 : Nat) (E_a0 : Exa Z h0 a0 "com/example/bucket_brigade/bucketbrigade/PermitLog") (F_a0_instants : Fld Z h0 a0 "com/example/bucket_brigade/bucketbrigade/PermitLog" "instants" "[J" (.ref gI)) (F_a0_lastNumbers : Fld Z h0 a0 "com/example/bucket_brigade/bucketbrigade/PermitLog" "lastNumbers" "[J" (.ref gN)) (F_a0_first : Fld Z h0 a0 "com/example/bucket_brigade/bucketbrigade/PermitLog" "first" "I" (.int f)) (F_a0_size : Fld Z h0 a0 "com/example/bucket_brigade/bucketbrigade/PermitLog" "size" "I" (.int sz)) (F_a0_dropped : Fld Z h0 a0 "com/example/bucket_brigade/bucketbrigade/PermitLog" "dropped" "J" (.long d)) (A_gI : Ary Z h0 gI .long 4 fn) (A_gN : Ary Z h0 gN .long 4 (fun i => (.long (N i)))) (g_a0 : n0 ≤ a0) (ne_a0__gI : a0 ≠ gI) (ne_a0__gN : a0 ≠ gN) :
    Con l Z (⟨"com/example/bucket_brigade/bucketbrigade/PermitLog", "dropOldest", "()V"⟩ : MethodName) prog_25_method_12_code 1 none ({ frames := 2, cells := 0, slots := 0, locals := 28 } : Room) #[(.ref a0)] h0 n0 (Q_rm_drop Z a0 gI gN fn N f sz d h0 n0) := by
  refine Con.body (plainFor_of_name pn_0) ?_
  intro pr_ en_ st_ me_ below meth co_ T B S
  refine Goes.cast (ef_rm_drop me_ a0) ?_
  have K : Keep h0 h0 [a0] := Keep.refl _ _
  refine Goes.go (fun _ => XS.aloadN S.here B.x rfl (B.d d_prog_25_method_12_0) rfl rfl) ?_
  show Goes _ _ _ _ T (mkF me_ 1 #[.val (.ref a0)] [(.ref a0)])
  refine Goes.go (fun _ => XS.aloadN S.here B.x rfl (B.d d_prog_25_method_12_1) rfl rfl) ?_
  show Goes _ _ _ _ T (mkF me_ 2 #[.val (.ref a0)] [(.ref a0), (.ref a0)])
  refine Goes.go (fun _ => XS.iconst S.here B.x rfl (B.d d_prog_25_method_12_2)) ?_
  show Goes _ _ _ _ T (mkF me_ 3 #[.val (.ref a0)] [(.int (0 : Int32)), (.ref a0), (.ref a0)])
  refine Goes.callP (argsL := [(.int (0 : Int32))]) (rest := [(.ref a0)]) (W := 1) S B (rm_last l Z aw hw a0 (0 : Int32) gI gN fn N f _ n0 E_a0 F_a0_first F_a0_instants F_a0_lastNumbers A_gI A_gN) E_a0 (w62 hw) (w64 hw) (w6 hw) (w63 hw) (w7 hw) (w65 hw) (by decide) (by decide) (by decide) (by decide) (by decide) rfl (lenOf pd_1 rfl) rfl (Nat.le_of_eq rfl) d_prog_25_method_12_3 ?_
  intro v T h S hQ
  obtain ⟨rfl, hh⟩ := hQ
  replace hh := hh.symm
  subst hh
  show Goes _ _ _ _ T (mkF me_ 6 #[.val (.ref a0)] [(.long (N ((f + (0 : Int32)) &&& (3 : Int32)).toNatClampNeg)), (.ref a0)])
  refine Goes.putF (v' := (.long (N ((f + (0 : Int32)) &&& (3 : Int32)).toNatClampNeg))) S B (w36 hw) F_a0_dropped E_a0 (Or.inl (w37 hw)) (w6 hw) (ty := .long) (by decide) rfl rfl g_a0 d_prog_25_method_12_6 ?_
  intro T h S W
  replace K := K.wr W (Or.inl (by simp))
  replace E_a0 := E_a0.wr W
  replace F_a0_instants := F_a0_instants.other W (Or.inr (slot_ne (Or.inl (w16 hw)) (Or.inl (w37 hw)) (by decide) (t := (.array .long)) (t' := .long) (by decide) (by decide)))
  replace F_a0_lastNumbers := F_a0_lastNumbers.other W (Or.inr (slot_ne (Or.inl (w18 hw)) (Or.inl (w37 hw)) (by decide) (t := (.array .long)) (t' := .long) (by decide) (by decide)))
  replace F_a0_first := F_a0_first.other W (Or.inr (slot_ne (Or.inl (w47 hw)) (Or.inl (w37 hw)) (by decide) (t := .int) (t' := .long) (by decide) (by decide)))
  replace F_a0_size := F_a0_size.other W (Or.inr (slot_ne (Or.inl (w31 hw)) (Or.inl (w37 hw)) (by decide) (t := .int) (t' := .long) (by decide) (by decide)))
  replace F_a0_dropped := F_a0_dropped.same W
  replace A_gI := A_gI.other W ne_a0__gI.symm
  replace A_gN := A_gN.other W ne_a0__gN.symm
  show Goes _ _ _ _ T (mkF me_ 9 #[.val (.ref a0)] [])
  refine Goes.go (fun _ => XS.aloadN S.here B.x rfl (B.d d_prog_25_method_12_9) rfl rfl) ?_
  show Goes _ _ _ _ T (mkF me_ 10 #[.val (.ref a0)] [(.ref a0)])
  refine Goes.go (fun _ => XS.aloadN S.here B.x rfl (B.d d_prog_25_method_12_10) rfl rfl) ?_
  show Goes _ _ _ _ T (mkF me_ 11 #[.val (.ref a0)] [(.ref a0), (.ref a0)])
  refine Goes.go (fun _ => XS.iconst S.here B.x rfl (B.d d_prog_25_method_12_11)) ?_
  show Goes _ _ _ _ T (mkF me_ 12 #[.val (.ref a0)] [(.int (1 : Int32)), (.ref a0), (.ref a0)])
  refine Goes.callP (argsL := [(.int (1 : Int32))]) (rest := [(.ref a0)]) (W := 1) S B (rm_slot l Z aw hw a0 (1 : Int32) gI fn f _ n0 F_a0_first F_a0_instants A_gI) E_a0 (w42 hw) (w44 hw) (w6 hw) (w43 hw) (w7 hw) (w45 hw) (by decide) (by decide) (by decide) (by decide) (by decide) rfl (lenOf pd_0 rfl) rfl (Nat.le_of_eq rfl) d_prog_25_method_12_12 ?_
  intro v T h S hQ
  obtain ⟨rfl, hh⟩ := hQ
  replace hh := hh.symm
  subst hh
  show Goes _ _ _ _ T (mkF me_ 15 #[.val (.ref a0)] [(.int ((f + (1 : Int32)) &&& (3 : Int32))), (.ref a0)])
  refine Goes.putF (v' := (.int ((f + (1 : Int32)) &&& (3 : Int32)))) S B (w46 hw) F_a0_first E_a0 (Or.inl (w47 hw)) (w6 hw) (ty := .int) (by decide) rfl rfl g_a0 d_prog_25_method_12_15 ?_
  intro T h S W
  replace K := K.wr W (Or.inl (by simp))
  replace E_a0 := E_a0.wr W
  replace F_a0_instants := F_a0_instants.other W (Or.inr (slot_ne (Or.inl (w16 hw)) (Or.inl (w47 hw)) (by decide) (t := (.array .long)) (t' := .int) (by decide) (by decide)))
  replace F_a0_lastNumbers := F_a0_lastNumbers.other W (Or.inr (slot_ne (Or.inl (w18 hw)) (Or.inl (w47 hw)) (by decide) (t := (.array .long)) (t' := .int) (by decide) (by decide)))
  replace F_a0_first := F_a0_first.same W
  replace F_a0_size := F_a0_size.other W (Or.inr (slot_ne (Or.inl (w31 hw)) (Or.inl (w47 hw)) (by decide) (t := .int) (t' := .int) (by decide) (by decide)))
  replace F_a0_dropped := F_a0_dropped.other W (Or.inr (slot_ne (Or.inl (w37 hw)) (Or.inl (w47 hw)) (by decide) (t := .long) (t' := .int) (by decide) (by decide)))
  replace A_gI := A_gI.other W ne_a0__gI.symm
  replace A_gN := A_gN.other W ne_a0__gN.symm
  show Goes _ _ _ _ T (mkF me_ 18 #[.val (.ref a0)] [])
  refine Goes.go (fun _ => XS.aloadN S.here B.x rfl (B.d d_prog_25_method_12_18) rfl rfl) ?_
  show Goes _ _ _ _ T (mkF me_ 19 #[.val (.ref a0)] [(.ref a0)])
  refine Goes.go (fun _ => XS.dup S.here B.x rfl (B.d d_prog_25_method_12_19) rfl rfl) ?_
  show Goes _ _ _ _ T (mkF me_ 20 #[.val (.ref a0)] [(.ref a0), (.ref a0)])
  refine Goes.getF S B (w30 hw) F_a0_size d_prog_25_method_12_20 ?_
  intro T S
  show Goes _ _ _ _ T (mkF me_ 23 #[.val (.ref a0)] [(.int sz), (.ref a0)])
  refine Goes.go (fun _ => XS.iconst S.here B.x rfl (B.d d_prog_25_method_12_23)) ?_
  show Goes _ _ _ _ T (mkF me_ 24 #[.val (.ref a0)] [(.int (1 : Int32)), (.int sz), (.ref a0)])
  refine Goes.go (fun _ => XS.isub S.here B.x rfl (B.d d_prog_25_method_12_24) rfl) ?_
  show Goes _ _ _ _ T (mkF me_ 25 #[.val (.ref a0)] [(.int (sz - (1 : Int32))), (.ref a0)])
  refine Goes.putF (v' := (.int (sz - (1 : Int32)))) S B (w30 hw) F_a0_size E_a0 (Or.inl (w31 hw)) (w6 hw) (ty := .int) (by decide) rfl rfl g_a0 d_prog_25_method_12_25 ?_
  intro T h S W
  replace K := K.wr W (Or.inl (by simp))
  replace E_a0 := E_a0.wr W
  replace F_a0_instants := F_a0_instants.other W (Or.inr (slot_ne (Or.inl (w16 hw)) (Or.inl (w31 hw)) (by decide) (t := (.array .long)) (t' := .int) (by decide) (by decide)))
  replace F_a0_lastNumbers := F_a0_lastNumbers.other W (Or.inr (slot_ne (Or.inl (w18 hw)) (Or.inl (w31 hw)) (by decide) (t := (.array .long)) (t' := .int) (by decide) (by decide)))
  replace F_a0_first := F_a0_first.other W (Or.inr (slot_ne (Or.inl (w47 hw)) (Or.inl (w31 hw)) (by decide) (t := .int) (t' := .int) (by decide) (by decide)))
  replace F_a0_size := F_a0_size.same W
  replace F_a0_dropped := F_a0_dropped.other W (Or.inr (slot_ne (Or.inl (w37 hw)) (Or.inl (w31 hw)) (by decide) (t := .long) (t' := .int) (by decide) (by decide)))
  replace A_gI := A_gI.other W ne_a0__gI.symm
  replace A_gN := A_gN.other W ne_a0__gN.symm
  show Goes _ _ _ _ T (mkF me_ 28 #[.val (.ref a0)] [])
  refine Goes.retV S B d_prog_25_method_12_28 (by decide) (by decide) ?_
  exact ⟨(by first | rfl | (rw [bi_pos (by assumption)]; rfl) | (rw [bi_neg (by assumption)]; rfl) | (rw [nar_bi]; exact congrArg (fun z => some (Value.int z)) (bi_congr (by simp_all))) | (simp_all [bi, nar]; done)), K, (by first | exact E_a0 | (simpa using E_a0)), (by first | exact F_a0_instants | (simpa using F_a0_instants)), (by first | exact F_a0_lastNumbers | (simpa using F_a0_lastNumbers)), (by first | exact F_a0_first | (simpa using F_a0_first)), (by first | exact F_a0_size | (simpa using F_a0_size)), (by first | exact F_a0_dropped | (simpa using F_a0_dropped))⟩
theorem ef_rm_fao (m : MethodId) (a0 : Addr) (q1 : Int64) : entryFrame m #[(.ref a0), (.long q1)] 6 = mkF m 0 #[.val (.ref a0), .val (.long q1), .second, .unset, .unset, .unset] [] := by first | (simp [entryFrame, mkF, argsToLocals, Value.category]; done) | rfl
def Q_rm_fao (Z : State) (a0 : Addr) (q1 : Int64) (gI : Addr) (I : Nat → Int64) (f : Int32) (sz : Int32) (ts : List Int64) (h0 : Heap) (n0 : Nat) (v : Option Value) (h : Heap) : Prop := v = some (.int (Int32.ofNat (own_pos ts q1))) ∧ h = h0
set_option maxRecDepth 65536 in
set_option maxHeartbeats 40000000 in
theorem rm_fao (l : Launch) (Z : State) (aw : Array Value) (hw : ∀ d ∈ tables_1, d.before aw Z = true) (a0 : Addr) (q1 : Int64) (gI : Addr) (I : Nat → Int64) (f : Int32) (sz : Int32) (ts : List Int64) (h0 : Heap) (n0 : Nat) (E_a0 : Exa Z h0 a0 "com/example/bucket_brigade/bucketbrigade/PermitLog") (F_a0_instants : Fld Z h0 a0 "com/example/bucket_brigade/bucketbrigade/PermitLog" "instants" "[J" (.ref gI)) (F_a0_first : Fld Z h0 a0 "com/example/bucket_brigade/bucketbrigade/PermitLog" "first" "I" (.int f)) (F_a0_size : Fld Z h0 a0 "com/example/bucket_brigade/bucketbrigade/PermitLog" "size" "I" (.int sz)) (A_gI : Ary Z h0 gI .long 4 (fun i => (.long (I i)))) (hQ : own_Q f I ts) (hsz : sz.toInt = (ts.length : Int)) (hS : own_S ts) :
    Con l Z (⟨"com/example/bucket_brigade/bucketbrigade/PermitLog", "firstAtOrAfter", "(J)I"⟩ : MethodName) prog_25_method_16_code 6 (some .int) ({ frames := 2, cells := 0, slots := 0, locals := 27 } : Room) #[(.ref a0), (.long q1)] h0 n0 (Q_rm_fao Z a0 q1 gI I f sz ts h0 n0) := by
  refine Con.body (plainFor_of_name pn_0) ?_
  intro pr_ en_ st_ me_ below meth co_ T B S
  refine Goes.cast (ef_rm_fao me_ a0 q1) ?_
  refine Goes.go (fun _ => XS.iconst S.here B.x rfl (B.d d_prog_25_method_16_0)) ?_
  show Goes _ _ _ _ T (mkF me_ 1 #[.val (.ref a0), .val (.long q1), .second, .unset, .unset, .unset] [(.int (0 : Int32))])
  refine Goes.go (fun _ => XS.istoreN S.here B.x rfl (B.d d_prog_25_method_16_1) rfl (l' := #[.val (.ref a0), .val (.long q1), .second, .val (.int (0 : Int32)), .unset, .unset]) rfl) ?_
  show Goes _ _ _ _ T (mkF me_ 2 #[.val (.ref a0), .val (.long q1), .second, .val (.int (0 : Int32)), .unset, .unset] [])
  refine Goes.go (fun _ => XS.aloadN S.here B.x rfl (B.d d_prog_25_method_16_2) rfl rfl) ?_
  show Goes _ _ _ _ T (mkF me_ 3 #[.val (.ref a0), .val (.long q1), .second, .val (.int (0 : Int32)), .unset, .unset] [(.ref a0)])
  refine Goes.getF S B (w30 hw) F_a0_size d_prog_25_method_16_3 ?_
  intro T S
  show Goes _ _ _ _ T (mkF me_ 6 #[.val (.ref a0), .val (.long q1), .second, .val (.int (0 : Int32)), .unset, .unset] [(.int sz)])
  refine Goes.go (fun _ => XS.istore S.here B.x rfl (B.d d_prog_25_method_16_6) rfl (l' := #[.val (.ref a0), .val (.long q1), .second, .val (.int (0 : Int32)), .val (.int sz), .unset]) rfl) ?_
  show Goes _ _ _ _ T (mkF me_ 8 #[.val (.ref a0), .val (.long q1), .second, .val (.int (0 : Int32)), .val (.int sz), .unset] [])
  have J1 : ∀ (T : State) (lo : Int32) (hi : Int32), Sd pr_ l en_ ({ frames := 2, cells := 0, slots := 0, locals := 27 } : Room) st_ me_ #[(.ref a0), (.long q1)] below meth co_ T h0 n0 0 0 → 0 ≤ lo.toInt ∧ lo.toInt ≤ ((own_pos ts q1) : Int) ∧ ((own_pos ts q1) : Int) ≤ hi.toInt ∧ hi.toInt ≤ (ts.length : Int) → Goes pr_.tables en_ below (Fine st_ n0 (Q_rm_fao Z a0 q1 gI I f sz ts h0 n0) ({ frames := 2, cells := 0, slots := 0, locals := 27 } : Room).cells ({ frames := 2, cells := 0, slots := 0, locals := 27 } : Room).slots) T (mkF me_ 79 #[.val (.ref a0), .val (.long q1), .second, .val (.int lo), .val (.int hi), .unset] []) := by
    intro T lo hi S hB
    have LP2 : ∀ (k : Nat) (T : State) (lo : Int32) (hi : Int32) (s5 : Slot), Sd pr_ l en_ ({ frames := 2, cells := 0, slots := 0, locals := 27 } : Room) st_ me_ #[(.ref a0), (.long q1)] below meth co_ T h0 n0 0 0 → One s5 → 0 ≤ lo.toInt ∧ lo.toInt ≤ ((own_pos ts q1) : Int) ∧ ((own_pos ts q1) : Int) ≤ hi.toInt ∧ hi.toInt ≤ (ts.length : Int) → hi.toInt - lo.toInt ≤ (k : Int) → Goes pr_.tables en_ below (Fine st_ n0 (Q_rm_fao Z a0 q1 gI I f sz ts h0 n0) ({ frames := 2, cells := 0, slots := 0, locals := 27 } : Room).cells ({ frames := 2, cells := 0, slots := 0, locals := 27 } : Room).slots) T (mkF me_ 79 #[.val (.ref a0), .val (.long q1), .second, .val (.int lo), .val (.int hi), s5] []) := by
      intro k
      induction k with
      | zero =>
        intro T lo hi s5 S hs5 hB hk
        refine Goes.go (fun _ => XS.iloadN S.here B.x rfl (B.d d_prog_25_method_16_79) rfl) ?_
        show Goes _ _ _ _ T (mkF me_ 80 #[.val (.ref a0), .val (.long q1), .second, .val (.int lo), .val (.int hi), s5] [(.int lo)])
        refine Goes.go (fun _ => XS.iload S.here B.x rfl (B.d d_prog_25_method_16_80) rfl) ?_
        show Goes _ _ _ _ T (mkF me_ 82 #[.val (.ref a0), .val (.long q1), .second, .val (.int lo), .val (.int hi), s5] [(.int hi), (.int lo)])
        refine Goes.go (fun _ => XS.icmpYes S.here B.x rfl (pc0 := 82) (pc' := 119) rfl (B.d d_prog_25_method_16_82) rfl (flt (show ¬ (lo < hi) from own_z hB hk)).2.1 (by decide) (by decide)) ?_
        show Goes _ _ _ _ T (mkF me_ 119 #[.val (.ref a0), .val (.long q1), .second, .val (.int lo), .val (.int hi), s5] [])
        refine Goes.go (fun _ => XS.iloadN S.here B.x rfl (B.d d_prog_25_method_16_119) rfl) ?_
        show Goes _ _ _ _ T (mkF me_ 120 #[.val (.ref a0), .val (.long q1), .second, .val (.int lo), .val (.int hi), s5] [(.int lo)])
        refine Goes.retI S B d_prog_25_method_16_120 (by decide) (by decide) ?_
        exact ⟨(by first | exact congrArg (fun z => some (Value.int z)) (own_done hQ hB (by first | exact own_z hB hk | assumption))), rfl⟩
      | succ k ih =>
        intro T lo hi s5 S hs5 hB hk
        refine Goes.go (fun _ => XS.iloadN S.here B.x rfl (B.d d_prog_25_method_16_79) rfl) ?_
        show Goes _ _ _ _ T (mkF me_ 80 #[.val (.ref a0), .val (.long q1), .second, .val (.int lo), .val (.int hi), s5] [(.int lo)])
        refine Goes.go (fun _ => XS.iload S.here B.x rfl (B.d d_prog_25_method_16_80) rfl) ?_
        show Goes _ _ _ _ T (mkF me_ 82 #[.val (.ref a0), .val (.long q1), .second, .val (.int lo), .val (.int hi), s5] [(.int hi), (.int lo)])
        by_cases hc82 : lo < hi
        · skip
          refine Goes.go (fun _ => XS.icmpNo S.here B.x rfl (B.d d_prog_25_method_16_82) rfl (tlt hc82).2.1) ?_
          show Goes _ _ _ _ T (mkF me_ 85 #[.val (.ref a0), .val (.long q1), .second, .val (.int lo), .val (.int hi), s5] [])
          refine Goes.go (fun _ => XS.iloadN S.here B.x rfl (B.d d_prog_25_method_16_85) rfl) ?_
          show Goes _ _ _ _ T (mkF me_ 86 #[.val (.ref a0), .val (.long q1), .second, .val (.int lo), .val (.int hi), s5] [(.int lo)])
          refine Goes.go (fun _ => XS.iload S.here B.x rfl (B.d d_prog_25_method_16_86) rfl) ?_
          show Goes _ _ _ _ T (mkF me_ 88 #[.val (.ref a0), .val (.long q1), .second, .val (.int lo), .val (.int hi), s5] [(.int hi), (.int lo)])
          refine Goes.go (fun _ => XS.iadd S.here B.x rfl (B.d d_prog_25_method_16_88) rfl) ?_
          show Goes _ _ _ _ T (mkF me_ 89 #[.val (.ref a0), .val (.long q1), .second, .val (.int lo), .val (.int hi), s5] [(.int (lo + hi))])
          refine Goes.go (fun _ => XS.iconst S.here B.x rfl (B.d d_prog_25_method_16_89)) ?_
          show Goes _ _ _ _ T (mkF me_ 90 #[.val (.ref a0), .val (.long q1), .second, .val (.int lo), .val (.int hi), s5] [(.int (1 : Int32)), (.int (lo + hi))])
          refine Goes.go (fun _ => XS.iushr S.here B.x rfl (B.d d_prog_25_method_16_90) rfl) ?_
          show Goes _ _ _ _ T (mkF me_ 91 #[.val (.ref a0), .val (.long q1), .second, .val (.int lo), .val (.int hi), s5] [(.int (((lo + hi).toUInt32 >>> ((1 : Int32) &&& 31).toUInt32).toInt32))])
          refine Goes.go (fun _ => XS.istore S.here B.x rfl (B.d d_prog_25_method_16_91) rfl (l' := #[.val (.ref a0), .val (.long q1), .second, .val (.int lo), .val (.int hi), .val (.int (((lo + hi).toUInt32 >>> ((1 : Int32) &&& 31).toUInt32).toInt32))]) (XS.store1 rfl hs5 rfl)) ?_
          show Goes _ _ _ _ T (mkF me_ 93 #[.val (.ref a0), .val (.long q1), .second, .val (.int lo), .val (.int hi), .val (.int (((lo + hi).toUInt32 >>> ((1 : Int32) &&& 31).toUInt32).toInt32))] [])
          refine Goes.go (fun _ => XS.aloadN S.here B.x rfl (B.d d_prog_25_method_16_93) rfl rfl) ?_
          show Goes _ _ _ _ T (mkF me_ 94 #[.val (.ref a0), .val (.long q1), .second, .val (.int lo), .val (.int hi), .val (.int (((lo + hi).toUInt32 >>> ((1 : Int32) &&& 31).toUInt32).toInt32))] [(.ref a0)])
          refine Goes.go (fun _ => XS.iload S.here B.x rfl (B.d d_prog_25_method_16_94) rfl) ?_
          show Goes _ _ _ _ T (mkF me_ 96 #[.val (.ref a0), .val (.long q1), .second, .val (.int lo), .val (.int hi), .val (.int (((lo + hi).toUInt32 >>> ((1 : Int32) &&& 31).toUInt32).toInt32))] [(.int (((lo + hi).toUInt32 >>> ((1 : Int32) &&& 31).toUInt32).toInt32)), (.ref a0)])
          refine Goes.callP (argsL := [(.int (((lo + hi).toUInt32 >>> ((1 : Int32) &&& 31).toUInt32).toInt32))]) (rest := []) (W := 0) S B (rm_instant l Z aw hw a0 (((lo + hi).toUInt32 >>> ((1 : Int32) &&& 31).toUInt32).toInt32) gI I f _ n0 E_a0 F_a0_first F_a0_instants A_gI) E_a0 (w48 hw) (w50 hw) (w6 hw) (w49 hw) (w7 hw) (w51 hw) (by decide) (by decide) (by decide) (by decide) (by decide) rfl (lenOf pd_1 rfl) rfl (Nat.le_of_eq rfl) d_prog_25_method_16_96 ?_
          intro v T h S hQ
          obtain ⟨rfl, hh⟩ := hQ
          replace hh := hh.symm
          subst hh
          show Goes _ _ _ _ T (mkF me_ 99 #[.val (.ref a0), .val (.long q1), .second, .val (.int lo), .val (.int hi), .val (.int (((lo + hi).toUInt32 >>> ((1 : Int32) &&& 31).toUInt32).toInt32))] [(.long (I ((f + (((lo + hi).toUInt32 >>> ((1 : Int32) &&& 31).toUInt32).toInt32)) &&& (3 : Int32)).toNatClampNeg))])
          refine Goes.go (fun _ => XS.lloadN S.here B.x rfl (B.d d_prog_25_method_16_99) rfl) ?_
          show Goes _ _ _ _ T (mkF me_ 100 #[.val (.ref a0), .val (.long q1), .second, .val (.int lo), .val (.int hi), .val (.int (((lo + hi).toUInt32 >>> ((1 : Int32) &&& 31).toUInt32).toInt32))] [(.long q1), (.long (I ((f + (((lo + hi).toUInt32 >>> ((1 : Int32) &&& 31).toUInt32).toInt32)) &&& (3 : Int32)).toNatClampNeg))])
          refine Goes.go (fun _ => XS.lcmp S.here B.x rfl (B.d d_prog_25_method_16_100) rfl) ?_
          show Goes _ _ _ _ T (mkF me_ 101 #[.val (.ref a0), .val (.long q1), .second, .val (.int lo), .val (.int hi), .val (.int (((lo + hi).toUInt32 >>> ((1 : Int32) &&& 31).toUInt32).toInt32))] [(.int (lcmpW (I ((f + (((lo + hi).toUInt32 >>> ((1 : Int32) &&& 31).toUInt32).toInt32)) &&& (3 : Int32)).toNatClampNeg) q1))])
          by_cases hc101 : (I ((f + (((lo + hi).toUInt32 >>> ((1 : Int32) &&& 31).toUInt32).toInt32)) &&& (3 : Int32)).toNatClampNeg) < q1
          · skip
            refine Goes.go (fun _ => XS.ifYes S.here B.x rfl (pc0 := 101) (pc' := 111) rfl (B.d d_prog_25_method_16_101) rfl ((if0 _ _).trans (tlt ((lw_lt (I ((f + (((lo + hi).toUInt32 >>> ((1 : Int32) &&& 31).toUInt32).toInt32)) &&& (3 : Int32)).toNatClampNeg) q1).mpr hc101)).1) (by decide) (by decide)) ?_
            show Goes _ _ _ _ T (mkF me_ 111 #[.val (.ref a0), .val (.long q1), .second, .val (.int lo), .val (.int hi), .val (.int (((lo + hi).toUInt32 >>> ((1 : Int32) &&& 31).toUInt32).toInt32))] [])
            refine Goes.go (fun _ => XS.iload S.here B.x rfl (B.d d_prog_25_method_16_111) rfl) ?_
            show Goes _ _ _ _ T (mkF me_ 113 #[.val (.ref a0), .val (.long q1), .second, .val (.int lo), .val (.int hi), .val (.int (((lo + hi).toUInt32 >>> ((1 : Int32) &&& 31).toUInt32).toInt32))] [(.int (((lo + hi).toUInt32 >>> ((1 : Int32) &&& 31).toUInt32).toInt32))])
            refine Goes.go (fun _ => XS.iconst S.here B.x rfl (B.d d_prog_25_method_16_113)) ?_
            show Goes _ _ _ _ T (mkF me_ 114 #[.val (.ref a0), .val (.long q1), .second, .val (.int lo), .val (.int hi), .val (.int (((lo + hi).toUInt32 >>> ((1 : Int32) &&& 31).toUInt32).toInt32))] [(.int (1 : Int32)), (.int (((lo + hi).toUInt32 >>> ((1 : Int32) &&& 31).toUInt32).toInt32))])
            refine Goes.go (fun _ => XS.iadd S.here B.x rfl (B.d d_prog_25_method_16_114) rfl) ?_
            show Goes _ _ _ _ T (mkF me_ 115 #[.val (.ref a0), .val (.long q1), .second, .val (.int lo), .val (.int hi), .val (.int (((lo + hi).toUInt32 >>> ((1 : Int32) &&& 31).toUInt32).toInt32))] [(.int ((((lo + hi).toUInt32 >>> ((1 : Int32) &&& 31).toUInt32).toInt32) + (1 : Int32)))])
            refine Goes.go (fun _ => XS.istoreN S.here B.x rfl (B.d d_prog_25_method_16_115) rfl (l' := #[.val (.ref a0), .val (.long q1), .second, .val (.int ((((lo + hi).toUInt32 >>> ((1 : Int32) &&& 31).toUInt32).toInt32) + (1 : Int32))), .val (.int hi), .val (.int (((lo + hi).toUInt32 >>> ((1 : Int32) &&& 31).toUInt32).toInt32))]) rfl) ?_
            show Goes _ _ _ _ T (mkF me_ 116 #[.val (.ref a0), .val (.long q1), .second, .val (.int ((((lo + hi).toUInt32 >>> ((1 : Int32) &&& 31).toUInt32).toInt32) + (1 : Int32))), .val (.int hi), .val (.int (((lo + hi).toUInt32 >>> ((1 : Int32) &&& 31).toUInt32).toInt32))] [])
            refine Goes.go (fun _ => XS.goto S.here B.x rfl (pc0 := 116) (pc' := 79) rfl (B.d d_prog_25_method_16_116) (by decide) (by decide)) ?_
            show Goes _ _ _ _ T (mkF me_ 79 #[.val (.ref a0), .val (.long q1), .second, .val (.int ((((lo + hi).toUInt32 >>> ((1 : Int32) &&& 31).toUInt32).toInt32) + (1 : Int32))), .val (.int hi), .val (.int (((lo + hi).toUInt32 >>> ((1 : Int32) &&& 31).toUInt32).toInt32))] [])
            exact ih T ((((lo + hi).toUInt32 >>> ((1 : Int32) &&& 31).toUInt32).toInt32) + (1 : Int32)) hi (.val (.int (((lo + hi).toUInt32 >>> ((1 : Int32) &&& 31).toUInt32).toInt32))) S (One.val rfl) (own_lo hQ hsz hS hB hc82 hc101) (own_kl1 hQ hB hk hc82)
          · skip
            refine Goes.go (fun _ => XS.ifNo S.here B.x rfl (B.d d_prog_25_method_16_101) rfl ((if0 _ _).trans (flt (mt (lw_lt (I ((f + (((lo + hi).toUInt32 >>> ((1 : Int32) &&& 31).toUInt32).toInt32)) &&& (3 : Int32)).toNatClampNeg) q1).mp hc101)).1)) ?_
            show Goes _ _ _ _ T (mkF me_ 104 #[.val (.ref a0), .val (.long q1), .second, .val (.int lo), .val (.int hi), .val (.int (((lo + hi).toUInt32 >>> ((1 : Int32) &&& 31).toUInt32).toInt32))] [])
            refine Goes.go (fun _ => XS.iload S.here B.x rfl (B.d d_prog_25_method_16_104) rfl) ?_
            show Goes _ _ _ _ T (mkF me_ 106 #[.val (.ref a0), .val (.long q1), .second, .val (.int lo), .val (.int hi), .val (.int (((lo + hi).toUInt32 >>> ((1 : Int32) &&& 31).toUInt32).toInt32))] [(.int (((lo + hi).toUInt32 >>> ((1 : Int32) &&& 31).toUInt32).toInt32))])
            refine Goes.go (fun _ => XS.istore S.here B.x rfl (B.d d_prog_25_method_16_106) rfl (l' := #[.val (.ref a0), .val (.long q1), .second, .val (.int lo), .val (.int (((lo + hi).toUInt32 >>> ((1 : Int32) &&& 31).toUInt32).toInt32)), .val (.int (((lo + hi).toUInt32 >>> ((1 : Int32) &&& 31).toUInt32).toInt32))]) rfl) ?_
            show Goes _ _ _ _ T (mkF me_ 108 #[.val (.ref a0), .val (.long q1), .second, .val (.int lo), .val (.int (((lo + hi).toUInt32 >>> ((1 : Int32) &&& 31).toUInt32).toInt32)), .val (.int (((lo + hi).toUInt32 >>> ((1 : Int32) &&& 31).toUInt32).toInt32))] [])
            refine Goes.go (fun _ => XS.goto S.here B.x rfl (pc0 := 108) (pc' := 116) rfl (B.d d_prog_25_method_16_108) (by decide) (by decide)) ?_
            show Goes _ _ _ _ T (mkF me_ 116 #[.val (.ref a0), .val (.long q1), .second, .val (.int lo), .val (.int (((lo + hi).toUInt32 >>> ((1 : Int32) &&& 31).toUInt32).toInt32)), .val (.int (((lo + hi).toUInt32 >>> ((1 : Int32) &&& 31).toUInt32).toInt32))] [])
            refine Goes.go (fun _ => XS.goto S.here B.x rfl (pc0 := 116) (pc' := 79) rfl (B.d d_prog_25_method_16_116) (by decide) (by decide)) ?_
            show Goes _ _ _ _ T (mkF me_ 79 #[.val (.ref a0), .val (.long q1), .second, .val (.int lo), .val (.int (((lo + hi).toUInt32 >>> ((1 : Int32) &&& 31).toUInt32).toInt32)), .val (.int (((lo + hi).toUInt32 >>> ((1 : Int32) &&& 31).toUInt32).toInt32))] [])
            exact ih T lo (((lo + hi).toUInt32 >>> ((1 : Int32) &&& 31).toUInt32).toInt32) (.val (.int (((lo + hi).toUInt32 >>> ((1 : Int32) &&& 31).toUInt32).toInt32))) S (One.val rfl) (own_hi hQ hsz hS hB hc82 hc101) (own_kl2 hQ hB hk hc82)
        · skip
          refine Goes.go (fun _ => XS.icmpYes S.here B.x rfl (pc0 := 82) (pc' := 119) rfl (B.d d_prog_25_method_16_82) rfl (flt hc82).2.1 (by decide) (by decide)) ?_
          show Goes _ _ _ _ T (mkF me_ 119 #[.val (.ref a0), .val (.long q1), .second, .val (.int lo), .val (.int hi), s5] [])
          refine Goes.go (fun _ => XS.iloadN S.here B.x rfl (B.d d_prog_25_method_16_119) rfl) ?_
          show Goes _ _ _ _ T (mkF me_ 120 #[.val (.ref a0), .val (.long q1), .second, .val (.int lo), .val (.int hi), s5] [(.int lo)])
          refine Goes.retI S B d_prog_25_method_16_120 (by decide) (by decide) ?_
          exact ⟨(by first | exact congrArg (fun z => some (Value.int z)) (own_done hQ hB (by first | exact own_z hB hk | assumption))), rfl⟩
    exact LP2 4 T lo hi (.unset) S One.u hB (own_k0 hQ hB)
  refine Goes.go (fun _ => XS.aloadN S.here B.x rfl (B.d d_prog_25_method_16_8) rfl rfl) ?_
  show Goes _ _ _ _ T (mkF me_ 9 #[.val (.ref a0), .val (.long q1), .second, .val (.int (0 : Int32)), .val (.int sz), .unset] [(.ref a0)])
  refine Goes.getF S B (w30 hw) F_a0_size d_prog_25_method_16_9 ?_
  intro T S
  show Goes _ _ _ _ T (mkF me_ 12 #[.val (.ref a0), .val (.long q1), .second, .val (.int (0 : Int32)), .val (.int sz), .unset] [(.int sz)])
  by_cases hc12 : sz = (0 : Int32)
  · skip
    refine Goes.go (fun _ => XS.ifYes S.here B.x rfl (pc0 := 12) (pc' := 30) rfl (B.d d_prog_25_method_16_12) rfl ((if0 _ _).trans (teq hc12).1) (by decide) (by decide)) ?_
    show Goes _ _ _ _ T (mkF me_ 30 #[.val (.ref a0), .val (.long q1), .second, .val (.int (0 : Int32)), .val (.int sz), .unset] [])
    refine Goes.go (fun _ => XS.aloadN S.here B.x rfl (B.d d_prog_25_method_16_30) rfl rfl) ?_
    show Goes _ _ _ _ T (mkF me_ 31 #[.val (.ref a0), .val (.long q1), .second, .val (.int (0 : Int32)), .val (.int sz), .unset] [(.ref a0)])
    refine Goes.getF S B (w30 hw) F_a0_size d_prog_25_method_16_31 ?_
    intro T S
    show Goes _ _ _ _ T (mkF me_ 34 #[.val (.ref a0), .val (.long q1), .second, .val (.int (0 : Int32)), .val (.int sz), .unset] [(.int sz)])
    refine Goes.go (fun _ => XS.istoreN S.here B.x rfl (B.d d_prog_25_method_16_34) rfl (l' := #[.val (.ref a0), .val (.long q1), .second, .val (.int sz), .val (.int sz), .unset]) rfl) ?_
    show Goes _ _ _ _ T (mkF me_ 35 #[.val (.ref a0), .val (.long q1), .second, .val (.int sz), .val (.int sz), .unset] [])
    refine Goes.go (fun _ => XS.goto S.here B.x rfl (pc0 := 35) (pc' := 79) rfl (B.d d_prog_25_method_16_35) (by decide) (by decide)) ?_
    show Goes _ _ _ _ T (mkF me_ 79 #[.val (.ref a0), .val (.long q1), .second, .val (.int sz), .val (.int sz), .unset] [])
    exact J1 T sz sz S (own_b0 hsz hc12)
  · skip
    refine Goes.go (fun _ => XS.ifNo S.here B.x rfl (B.d d_prog_25_method_16_12) rfl ((if0 _ _).trans (feq hc12).1)) ?_
    show Goes _ _ _ _ T (mkF me_ 15 #[.val (.ref a0), .val (.long q1), .second, .val (.int (0 : Int32)), .val (.int sz), .unset] [])
    refine Goes.go (fun _ => XS.aloadN S.here B.x rfl (B.d d_prog_25_method_16_15) rfl rfl) ?_
    show Goes _ _ _ _ T (mkF me_ 16 #[.val (.ref a0), .val (.long q1), .second, .val (.int (0 : Int32)), .val (.int sz), .unset] [(.ref a0)])
    refine Goes.go (fun _ => XS.aloadN S.here B.x rfl (B.d d_prog_25_method_16_16) rfl rfl) ?_
    show Goes _ _ _ _ T (mkF me_ 17 #[.val (.ref a0), .val (.long q1), .second, .val (.int (0 : Int32)), .val (.int sz), .unset] [(.ref a0), (.ref a0)])
    refine Goes.getF S B (w30 hw) F_a0_size d_prog_25_method_16_17 ?_
    intro T S
    show Goes _ _ _ _ T (mkF me_ 20 #[.val (.ref a0), .val (.long q1), .second, .val (.int (0 : Int32)), .val (.int sz), .unset] [(.int sz), (.ref a0)])
    refine Goes.go (fun _ => XS.iconst S.here B.x rfl (B.d d_prog_25_method_16_20)) ?_
    show Goes _ _ _ _ T (mkF me_ 21 #[.val (.ref a0), .val (.long q1), .second, .val (.int (0 : Int32)), .val (.int sz), .unset] [(.int (1 : Int32)), (.int sz), (.ref a0)])
    refine Goes.go (fun _ => XS.isub S.here B.x rfl (B.d d_prog_25_method_16_21) rfl) ?_
    show Goes _ _ _ _ T (mkF me_ 22 #[.val (.ref a0), .val (.long q1), .second, .val (.int (0 : Int32)), .val (.int sz), .unset] [(.int (sz - (1 : Int32))), (.ref a0)])
    refine Goes.callP (argsL := [(.int (sz - (1 : Int32)))]) (rest := []) (W := 0) S B (rm_instant l Z aw hw a0 (sz - (1 : Int32)) gI I f _ n0 E_a0 F_a0_first F_a0_instants A_gI) E_a0 (w48 hw) (w50 hw) (w6 hw) (w49 hw) (w7 hw) (w51 hw) (by decide) (by decide) (by decide) (by decide) (by decide) rfl (lenOf pd_1 rfl) rfl (Nat.le_of_eq rfl) d_prog_25_method_16_22 ?_
    intro v T h S hQ
    obtain ⟨rfl, hh⟩ := hQ
    replace hh := hh.symm
    subst hh
    show Goes _ _ _ _ T (mkF me_ 25 #[.val (.ref a0), .val (.long q1), .second, .val (.int (0 : Int32)), .val (.int sz), .unset] [(.long (I ((f + (sz - (1 : Int32))) &&& (3 : Int32)).toNatClampNeg))])
    refine Goes.go (fun _ => XS.lloadN S.here B.x rfl (B.d d_prog_25_method_16_25) rfl) ?_
    show Goes _ _ _ _ T (mkF me_ 26 #[.val (.ref a0), .val (.long q1), .second, .val (.int (0 : Int32)), .val (.int sz), .unset] [(.long q1), (.long (I ((f + (sz - (1 : Int32))) &&& (3 : Int32)).toNatClampNeg))])
    refine Goes.go (fun _ => XS.lcmp S.here B.x rfl (B.d d_prog_25_method_16_26) rfl) ?_
    show Goes _ _ _ _ T (mkF me_ 27 #[.val (.ref a0), .val (.long q1), .second, .val (.int (0 : Int32)), .val (.int sz), .unset] [(.int (lcmpW (I ((f + (sz - (1 : Int32))) &&& (3 : Int32)).toNatClampNeg) q1))])
    by_cases hc27 : (I ((f + (sz - (1 : Int32))) &&& (3 : Int32)).toNatClampNeg) < q1
    · skip
      refine Goes.go (fun _ => XS.ifNo S.here B.x rfl (B.d d_prog_25_method_16_27) rfl ((if0 _ _).trans (tlt ((lw_lt (I ((f + (sz - (1 : Int32))) &&& (3 : Int32)).toNatClampNeg) q1).mpr hc27)).2.1)) ?_
      show Goes _ _ _ _ T (mkF me_ 30 #[.val (.ref a0), .val (.long q1), .second, .val (.int (0 : Int32)), .val (.int sz), .unset] [])
      refine Goes.go (fun _ => XS.aloadN S.here B.x rfl (B.d d_prog_25_method_16_30) rfl rfl) ?_
      show Goes _ _ _ _ T (mkF me_ 31 #[.val (.ref a0), .val (.long q1), .second, .val (.int (0 : Int32)), .val (.int sz), .unset] [(.ref a0)])
      refine Goes.getF S B (w30 hw) F_a0_size d_prog_25_method_16_31 ?_
      intro T S
      show Goes _ _ _ _ T (mkF me_ 34 #[.val (.ref a0), .val (.long q1), .second, .val (.int (0 : Int32)), .val (.int sz), .unset] [(.int sz)])
      refine Goes.go (fun _ => XS.istoreN S.here B.x rfl (B.d d_prog_25_method_16_34) rfl (l' := #[.val (.ref a0), .val (.long q1), .second, .val (.int sz), .val (.int sz), .unset]) rfl) ?_
      show Goes _ _ _ _ T (mkF me_ 35 #[.val (.ref a0), .val (.long q1), .second, .val (.int sz), .val (.int sz), .unset] [])
      refine Goes.go (fun _ => XS.goto S.here B.x rfl (pc0 := 35) (pc' := 79) rfl (B.d d_prog_25_method_16_35) (by decide) (by decide)) ?_
      show Goes _ _ _ _ T (mkF me_ 79 #[.val (.ref a0), .val (.long q1), .second, .val (.int sz), .val (.int sz), .unset] [])
      exact J1 T sz sz S (own_b1 hQ hsz hS hc12 hc27)
    · skip
      refine Goes.go (fun _ => XS.ifYes S.here B.x rfl (pc0 := 27) (pc' := 38) rfl (B.d d_prog_25_method_16_27) rfl ((if0 _ _).trans (flt (mt (lw_lt (I ((f + (sz - (1 : Int32))) &&& (3 : Int32)).toNatClampNeg) q1).mp hc27)).2.1) (by decide) (by decide)) ?_
      show Goes _ _ _ _ T (mkF me_ 38 #[.val (.ref a0), .val (.long q1), .second, .val (.int (0 : Int32)), .val (.int sz), .unset] [])
      refine Goes.go (fun _ => XS.aloadN S.here B.x rfl (B.d d_prog_25_method_16_38) rfl rfl) ?_
      show Goes _ _ _ _ T (mkF me_ 39 #[.val (.ref a0), .val (.long q1), .second, .val (.int (0 : Int32)), .val (.int sz), .unset] [(.ref a0)])
      refine Goes.go (fun _ => XS.iconst S.here B.x rfl (B.d d_prog_25_method_16_39)) ?_
      show Goes _ _ _ _ T (mkF me_ 40 #[.val (.ref a0), .val (.long q1), .second, .val (.int (0 : Int32)), .val (.int sz), .unset] [(.int (0 : Int32)), (.ref a0)])
      refine Goes.callP (argsL := [(.int (0 : Int32))]) (rest := []) (W := 0) S B (rm_instant l Z aw hw a0 (0 : Int32) gI I f _ n0 E_a0 F_a0_first F_a0_instants A_gI) E_a0 (w48 hw) (w50 hw) (w6 hw) (w49 hw) (w7 hw) (w51 hw) (by decide) (by decide) (by decide) (by decide) (by decide) rfl (lenOf pd_1 rfl) rfl (Nat.le_of_eq rfl) d_prog_25_method_16_40 ?_
      intro v T h S hQ
      obtain ⟨rfl, hh⟩ := hQ
      replace hh := hh.symm
      subst hh
      show Goes _ _ _ _ T (mkF me_ 43 #[.val (.ref a0), .val (.long q1), .second, .val (.int (0 : Int32)), .val (.int sz), .unset] [(.long (I ((f + (0 : Int32)) &&& (3 : Int32)).toNatClampNeg))])
      refine Goes.go (fun _ => XS.lloadN S.here B.x rfl (B.d d_prog_25_method_16_43) rfl) ?_
      show Goes _ _ _ _ T (mkF me_ 44 #[.val (.ref a0), .val (.long q1), .second, .val (.int (0 : Int32)), .val (.int sz), .unset] [(.long q1), (.long (I ((f + (0 : Int32)) &&& (3 : Int32)).toNatClampNeg))])
      refine Goes.go (fun _ => XS.lcmp S.here B.x rfl (B.d d_prog_25_method_16_44) rfl) ?_
      show Goes _ _ _ _ T (mkF me_ 45 #[.val (.ref a0), .val (.long q1), .second, .val (.int (0 : Int32)), .val (.int sz), .unset] [(.int (lcmpW (I ((f + (0 : Int32)) &&& (3 : Int32)).toNatClampNeg) q1))])
      by_cases hc45 : (I ((f + (0 : Int32)) &&& (3 : Int32)).toNatClampNeg) < q1
      · skip
        refine Goes.go (fun _ => XS.ifYes S.here B.x rfl (pc0 := 45) (pc' := 54) rfl (B.d d_prog_25_method_16_45) rfl ((if0 _ _).trans (tlt ((lw_lt (I ((f + (0 : Int32)) &&& (3 : Int32)).toNatClampNeg) q1).mpr hc45)).1) (by decide) (by decide)) ?_
        show Goes _ _ _ _ T (mkF me_ 54 #[.val (.ref a0), .val (.long q1), .second, .val (.int (0 : Int32)), .val (.int sz), .unset] [])
        refine Goes.go (fun _ => XS.aloadN S.here B.x rfl (B.d d_prog_25_method_16_54) rfl rfl) ?_
        show Goes _ _ _ _ T (mkF me_ 55 #[.val (.ref a0), .val (.long q1), .second, .val (.int (0 : Int32)), .val (.int sz), .unset] [(.ref a0)])
        refine Goes.go (fun _ => XS.aloadN S.here B.x rfl (B.d d_prog_25_method_16_55) rfl rfl) ?_
        show Goes _ _ _ _ T (mkF me_ 56 #[.val (.ref a0), .val (.long q1), .second, .val (.int (0 : Int32)), .val (.int sz), .unset] [(.ref a0), (.ref a0)])
        refine Goes.getF S B (w30 hw) F_a0_size d_prog_25_method_16_56 ?_
        intro T S
        show Goes _ _ _ _ T (mkF me_ 59 #[.val (.ref a0), .val (.long q1), .second, .val (.int (0 : Int32)), .val (.int sz), .unset] [(.int sz), (.ref a0)])
        refine Goes.go (fun _ => XS.iconst S.here B.x rfl (B.d d_prog_25_method_16_59)) ?_
        show Goes _ _ _ _ T (mkF me_ 60 #[.val (.ref a0), .val (.long q1), .second, .val (.int (0 : Int32)), .val (.int sz), .unset] [(.int (1 : Int32)), (.int sz), (.ref a0)])
        refine Goes.go (fun _ => XS.isub S.here B.x rfl (B.d d_prog_25_method_16_60) rfl) ?_
        show Goes _ _ _ _ T (mkF me_ 61 #[.val (.ref a0), .val (.long q1), .second, .val (.int (0 : Int32)), .val (.int sz), .unset] [(.int (sz - (1 : Int32))), (.ref a0)])
        refine Goes.callP (argsL := [(.int (sz - (1 : Int32)))]) (rest := []) (W := 0) S B (rm_instant l Z aw hw a0 (sz - (1 : Int32)) gI I f _ n0 E_a0 F_a0_first F_a0_instants A_gI) E_a0 (w48 hw) (w50 hw) (w6 hw) (w49 hw) (w7 hw) (w51 hw) (by decide) (by decide) (by decide) (by decide) (by decide) rfl (lenOf pd_1 rfl) rfl (Nat.le_of_eq rfl) d_prog_25_method_16_61 ?_
        intro v T h S hQ
        obtain ⟨rfl, hh⟩ := hQ
        replace hh := hh.symm
        subst hh
        show Goes _ _ _ _ T (mkF me_ 64 #[.val (.ref a0), .val (.long q1), .second, .val (.int (0 : Int32)), .val (.int sz), .unset] [(.long (I ((f + (sz - (1 : Int32))) &&& (3 : Int32)).toNatClampNeg))])
        refine Goes.go (fun _ => XS.lloadN S.here B.x rfl (B.d d_prog_25_method_16_64) rfl) ?_
        show Goes _ _ _ _ T (mkF me_ 65 #[.val (.ref a0), .val (.long q1), .second, .val (.int (0 : Int32)), .val (.int sz), .unset] [(.long q1), (.long (I ((f + (sz - (1 : Int32))) &&& (3 : Int32)).toNatClampNeg))])
        refine Goes.go (fun _ => XS.lcmp S.here B.x rfl (B.d d_prog_25_method_16_65) rfl) ?_
        show Goes _ _ _ _ T (mkF me_ 66 #[.val (.ref a0), .val (.long q1), .second, .val (.int (0 : Int32)), .val (.int sz), .unset] [(.int (lcmpW (I ((f + (sz - (1 : Int32))) &&& (3 : Int32)).toNatClampNeg) q1))])
        by_cases hc66 : (I ((f + (sz - (1 : Int32))) &&& (3 : Int32)).toNatClampNeg) = q1
        · skip
          refine Goes.go (fun _ => XS.ifNo S.here B.x rfl (B.d d_prog_25_method_16_66) rfl ((if0 _ _).trans (teq ((lw_eq (I ((f + (sz - (1 : Int32))) &&& (3 : Int32)).toNatClampNeg) q1).mpr hc66)).2)) ?_
          show Goes _ _ _ _ T (mkF me_ 69 #[.val (.ref a0), .val (.long q1), .second, .val (.int (0 : Int32)), .val (.int sz), .unset] [])
          refine Goes.go (fun _ => XS.aloadN S.here B.x rfl (B.d d_prog_25_method_16_69) rfl rfl) ?_
          show Goes _ _ _ _ T (mkF me_ 70 #[.val (.ref a0), .val (.long q1), .second, .val (.int (0 : Int32)), .val (.int sz), .unset] [(.ref a0)])
          refine Goes.getF S B (w30 hw) F_a0_size d_prog_25_method_16_70 ?_
          intro T S
          show Goes _ _ _ _ T (mkF me_ 73 #[.val (.ref a0), .val (.long q1), .second, .val (.int (0 : Int32)), .val (.int sz), .unset] [(.int sz)])
          refine Goes.go (fun _ => XS.iconst S.here B.x rfl (B.d d_prog_25_method_16_73)) ?_
          show Goes _ _ _ _ T (mkF me_ 74 #[.val (.ref a0), .val (.long q1), .second, .val (.int (0 : Int32)), .val (.int sz), .unset] [(.int (1 : Int32)), (.int sz)])
          refine Goes.go (fun _ => XS.isub S.here B.x rfl (B.d d_prog_25_method_16_74) rfl) ?_
          show Goes _ _ _ _ T (mkF me_ 75 #[.val (.ref a0), .val (.long q1), .second, .val (.int (0 : Int32)), .val (.int sz), .unset] [(.int (sz - (1 : Int32)))])
          refine Goes.go (fun _ => XS.istoreN S.here B.x rfl (B.d d_prog_25_method_16_75) rfl (l' := #[.val (.ref a0), .val (.long q1), .second, .val (.int (sz - (1 : Int32))), .val (.int sz), .unset]) rfl) ?_
          show Goes _ _ _ _ T (mkF me_ 76 #[.val (.ref a0), .val (.long q1), .second, .val (.int (sz - (1 : Int32))), .val (.int sz), .unset] [])
          refine Goes.go (fun _ => XS.iloadN S.here B.x rfl (B.d d_prog_25_method_16_76) rfl) ?_
          show Goes _ _ _ _ T (mkF me_ 77 #[.val (.ref a0), .val (.long q1), .second, .val (.int (sz - (1 : Int32))), .val (.int sz), .unset] [(.int (sz - (1 : Int32)))])
          refine Goes.go (fun _ => XS.istore S.here B.x rfl (B.d d_prog_25_method_16_77) rfl (l' := #[.val (.ref a0), .val (.long q1), .second, .val (.int (sz - (1 : Int32))), .val (.int (sz - (1 : Int32))), .unset]) rfl) ?_
          show Goes _ _ _ _ T (mkF me_ 79 #[.val (.ref a0), .val (.long q1), .second, .val (.int (sz - (1 : Int32))), .val (.int (sz - (1 : Int32))), .unset] [])
          exact J1 T (sz - (1 : Int32)) (sz - (1 : Int32)) S (own_b3 hQ hsz hS hc12 hc66)
        · skip
          refine Goes.go (fun _ => XS.ifYes S.here B.x rfl (pc0 := 66) (pc' := 79) rfl (B.d d_prog_25_method_16_66) rfl ((if0 _ _).trans (feq (mt (lw_eq (I ((f + (sz - (1 : Int32))) &&& (3 : Int32)).toNatClampNeg) q1).mp hc66)).2) (by decide) (by decide)) ?_
          show Goes _ _ _ _ T (mkF me_ 79 #[.val (.ref a0), .val (.long q1), .second, .val (.int (0 : Int32)), .val (.int sz), .unset] [])
          exact J1 T (0 : Int32) sz S (own_b4 hsz)
      · skip
        refine Goes.go (fun _ => XS.ifNo S.here B.x rfl (B.d d_prog_25_method_16_45) rfl ((if0 _ _).trans (flt (mt (lw_lt (I ((f + (0 : Int32)) &&& (3 : Int32)).toNatClampNeg) q1).mp hc45)).1)) ?_
        show Goes _ _ _ _ T (mkF me_ 48 #[.val (.ref a0), .val (.long q1), .second, .val (.int (0 : Int32)), .val (.int sz), .unset] [])
        refine Goes.go (fun _ => XS.iconst S.here B.x rfl (B.d d_prog_25_method_16_48)) ?_
        show Goes _ _ _ _ T (mkF me_ 49 #[.val (.ref a0), .val (.long q1), .second, .val (.int (0 : Int32)), .val (.int sz), .unset] [(.int (0 : Int32))])
        refine Goes.go (fun _ => XS.istore S.here B.x rfl (B.d d_prog_25_method_16_49) rfl (l' := #[.val (.ref a0), .val (.long q1), .second, .val (.int (0 : Int32)), .val (.int (0 : Int32)), .unset]) rfl) ?_
        show Goes _ _ _ _ T (mkF me_ 51 #[.val (.ref a0), .val (.long q1), .second, .val (.int (0 : Int32)), .val (.int (0 : Int32)), .unset] [])
        refine Goes.go (fun _ => XS.goto S.here B.x rfl (pc0 := 51) (pc' := 79) rfl (B.d d_prog_25_method_16_51) (by decide) (by decide)) ?_
        show Goes _ _ _ _ T (mkF me_ 79 #[.val (.ref a0), .val (.long q1), .second, .val (.int (0 : Int32)), .val (.int (0 : Int32)), .unset] [])
        exact J1 T (0 : Int32) (0 : Int32) S (own_b2 hQ hsz hS hc12 hc45)
theorem ef_rm_insert (m : MethodId) (a0 : Addr) (p1 : Int32) (q2 : Int64) (q3 : Int64) : entryFrame m #[(.ref a0), (.int p1), (.long q2), (.long q3)] 7 = mkF m 0 #[.val (.ref a0), .val (.int p1), .val (.long q2), .second, .val (.long q3), .second, .unset] [] := by first | (simp [entryFrame, mkF, argsToLocals, Value.category]; done) | rfl
def Q_rm_insert (Z : State) (a0 : Addr) (p1 : Int32) (q2 : Int64) (q3 : Int64) (gI : Addr) (gN : Addr) (I : Nat → Int64) (N : Nat → Int64) (f : Int32) (sz : Int32) (d : Int64) (ts : List Int64) (ns : List Int64) (kk : Nat) (h0 : Heap) (n0 : Nat) (v : Option Value) (h : Heap) : Prop := ∃ (I3 : Nat → Int64) (N3 : Nat → Int64), v = none ∧ Keep h0 h [a0, gI, gN] ∧ Exa Z h a0 "com/example/bucket_brigade/bucketbrigade/PermitLog" ∧ Fld Z h a0 "com/example/bucket_brigade/bucketbrigade/PermitLog" "instants" "[J" (.ref gI) ∧ Fld Z h a0 "com/example/bucket_brigade/bucketbrigade/PermitLog" "lastNumbers" "[J" (.ref gN) ∧ Fld Z h a0 "com/example/bucket_brigade/bucketbrigade/PermitLog" "first" "I" (.int f) ∧ Fld Z h a0 "com/example/bucket_brigade/bucketbrigade/PermitLog" "size" "I" (.int (sz + (1 : Int32))) ∧ Fld Z h a0 "com/example/bucket_brigade/bucketbrigade/PermitLog" "dropped" "J" (.long d) ∧ Ary Z h gI .long 4 (fun i => (.long (I3 i))) ∧ Ary Z h gN .long 4 (fun i => (.long (N3 i))) ∧ (own_Q f I3 (own_at ts kk q2)) ∧ (own_Q f N3 (own_at ns kk q3))
set_option maxRecDepth 65536 in
set_option maxHeartbeats 40000000 in
theorem rm_insert (l : Launch) (Z : State) (aw : Array Value) (hw : ∀ d ∈ tables_1, d.before aw Z = true) (a0 : Addr) (p1 : Int32) (q2 : Int64) (q3 : Int64) (gI : Addr) (gN : Addr) (I : Nat → Int64) (N : Nat → Int64) (f : Int32) (sz : Int32) (d : Int64) (ts : List Int64) (ns : List Int64) (kk : Nat) (h0 : Heap) (n0 : Nat) (E_a0 : Exa Z h0 a0 "com/example/bucket_brigade/bucketbrigade/PermitLog") (F_a0_instants : Fld Z h0 a0 "com/example/bucket_brigade/bucketbrigade/PermitLog" "instants" "[J" (.ref gI)) (F_a0_lastNumbers : Fld Z h0 a0 "com/example/bucket_brigade/bucketbrigade/PermitLog" "lastNumbers" "[J" (.ref gN)) (F_a0_first : Fld Z h0 a0 "com/example/bucket_brigade/bucketbrigade/PermitLog" "first" "I" (.int f)) (F_a0_size : Fld Z h0 a0 "com/example/bucket_brigade/bucketbrigade/PermitLog" "size" "I" (.int sz)) (F_a0_dropped : Fld Z h0 a0 "com/example/bucket_brigade/bucketbrigade/PermitLog" "dropped" "J" (.long d)) (A_gI : Ary Z h0 gI .long 4 (fun i => (.long (I i)))) (A_gN : Ary Z h0 gN .long 4 (fun i => (.long (N i)))) (g_a0 : n0 ≤ a0) (g_gI : n0 ≤ gI) (g_gN : n0 ≤ gN) (ne_a0__gI : a0 ≠ gI) (ne_a0__gN : a0 ≠ gN) (ne_gI__gN : gI ≠ gN) (hQ : own_Q f I ts) (hN : own_Q f N ns) (hsz : sz.toInt = (ts.length : Int)) (hll : ns.length = ts.length) (hl : ts.length < 4) (hat : p1.toInt = (kk : Int)) (hk0 : kk ≤ ts.length) :
    Con l Z (⟨"com/example/bucket_brigade/bucketbrigade/PermitLog", "insert", "(IJJ)V"⟩ : MethodName) prog_25_method_13_code 7 none ({ frames := 1, cells := 0, slots := 0, locals := 16 } : Room) #[(.ref a0), (.int p1), (.long q2), (.long q3)] h0 n0 (Q_rm_insert Z a0 p1 q2 q3 gI gN I N f sz d ts ns kk h0 n0) := by
  refine Con.body (plainFor_of_name pn_0) ?_
  intro pr_ en_ st_ me_ below meth co_ T B S
  refine Goes.cast (ef_rm_insert me_ a0 p1 q2 q3) ?_
  have K : Keep h0 h0 [a0, gI, gN] := Keep.refl _ _
  refine Goes.go (fun _ => XS.aloadN S.here B.x rfl (B.d d_prog_25_method_13_0) rfl rfl) ?_
  show Goes _ _ _ _ T (mkF me_ 1 #[.val (.ref a0), .val (.int p1), .val (.long q2), .second, .val (.long q3), .second, .unset] [(.ref a0)])
  refine Goes.getF S B (w30 hw) F_a0_size d_prog_25_method_13_1 ?_
  intro T S
  show Goes _ _ _ _ T (mkF me_ 4 #[.val (.ref a0), .val (.int p1), .val (.long q2), .second, .val (.long q3), .second, .unset] [(.int sz)])
  refine Goes.go (fun _ => XS.aloadN S.here B.x rfl (B.d d_prog_25_method_13_4) rfl rfl) ?_
  show Goes _ _ _ _ T (mkF me_ 5 #[.val (.ref a0), .val (.int p1), .val (.long q2), .second, .val (.long q3), .second, .unset] [(.ref a0), (.int sz)])
  refine Goes.getF S B (w15 hw) F_a0_instants d_prog_25_method_13_5 ?_
  intro T S
  show Goes _ _ _ _ T (mkF me_ 8 #[.val (.ref a0), .val (.int p1), .val (.long q2), .second, .val (.long q3), .second, .unset] [(.ref gI), (.int sz)])
  refine Goes.alen S B A_gI (z := (4 : Int32)) rfl d_prog_25_method_13_8 ?_
  show Goes _ _ _ _ T (mkF me_ 9 #[.val (.ref a0), .val (.int p1), .val (.long q2), .second, .val (.long q3), .second, .unset] [(.int (4 : Int32)), (.int sz)])
  refine Goes.go (fun _ => XS.icmpYes S.here B.x rfl (pc0 := 9) (pc' := 16) rfl (B.d d_prog_25_method_13_9) rfl (feq (show ¬ (sz = (4 : Int32)) from own_n4 hsz hl)).2 (by decide) (by decide)) ?_
  show Goes _ _ _ _ T (mkF me_ 16 #[.val (.ref a0), .val (.int p1), .val (.long q2), .second, .val (.long q3), .second, .unset] [])
  refine Goes.go (fun _ => XS.aloadN S.here B.x rfl (B.d d_prog_25_method_13_16) rfl rfl) ?_
  show Goes _ _ _ _ T (mkF me_ 17 #[.val (.ref a0), .val (.int p1), .val (.long q2), .second, .val (.long q3), .second, .unset] [(.ref a0)])
  refine Goes.getF S B (w30 hw) F_a0_size d_prog_25_method_13_17 ?_
  intro T S
  show Goes _ _ _ _ T (mkF me_ 20 #[.val (.ref a0), .val (.int p1), .val (.long q2), .second, .val (.long q3), .second, .unset] [(.int sz)])
  refine Goes.go (fun _ => XS.istore S.here B.x rfl (B.d d_prog_25_method_13_20) rfl (l' := #[.val (.ref a0), .val (.int p1), .val (.long q2), .second, .val (.long q3), .second, .val (.int sz)]) rfl) ?_
  show Goes _ _ _ _ T (mkF me_ 22 #[.val (.ref a0), .val (.int p1), .val (.long q2), .second, .val (.long q3), .second, .val (.int sz)] [])
  have LP1 : ∀ (k : Nat) (T : State) (h : Heap) (i6 : Int32) (I2 : Nat → Int64) (N2 : Nat → Int64), Sd pr_ l en_ ({ frames := 1, cells := 0, slots := 0, locals := 16 } : Room) st_ me_ #[(.ref a0), (.int p1), (.long q2), (.long q3)] below meth co_ T h n0 0 0 → Keep h0 h [a0, gI, gN] → Exa Z h a0 "com/example/bucket_brigade/bucketbrigade/PermitLog" → Fld Z h a0 "com/example/bucket_brigade/bucketbrigade/PermitLog" "instants" "[J" (.ref gI) → Fld Z h a0 "com/example/bucket_brigade/bucketbrigade/PermitLog" "lastNumbers" "[J" (.ref gN) → Fld Z h a0 "com/example/bucket_brigade/bucketbrigade/PermitLog" "first" "I" (.int f) → Fld Z h a0 "com/example/bucket_brigade/bucketbrigade/PermitLog" "size" "I" (.int sz) → Fld Z h a0 "com/example/bucket_brigade/bucketbrigade/PermitLog" "dropped" "J" (.long d) → Ary Z h gI .long 4 (fun i => (.long (I2 i))) → Ary Z h gN .long 4 (fun i => (.long (N2 i))) → i6.toInt = ((kk + k : Nat) : Int) → kk + k ≤ ts.length → own_sh f I I2 (kk + k) ts.length → own_sh f N N2 (kk + k) ts.length → Goes pr_.tables en_ below (Fine st_ n0 (Q_rm_insert Z a0 p1 q2 q3 gI gN I N f sz d ts ns kk h0 n0) ({ frames := 1, cells := 0, slots := 0, locals := 16 } : Room).cells ({ frames := 1, cells := 0, slots := 0, locals := 16 } : Room).slots) T (mkF me_ 22 #[.val (.ref a0), .val (.int p1), .val (.long q2), .second, .val (.long q3), .second, .val (.int i6)] []) := by
    intro k
    induction k with
    | zero =>
      intro T h i6 I2 N2 S K E_a0 F_a0_instants F_a0_lastNumbers F_a0_first F_a0_size F_a0_dropped A_gI A_gN hi hkl hsI hsN
      refine Goes.go (fun _ => XS.iload S.here B.x rfl (B.d d_prog_25_method_13_22) rfl) ?_
      show Goes _ _ _ _ T (mkF me_ 24 #[.val (.ref a0), .val (.int p1), .val (.long q2), .second, .val (.long q3), .second, .val (.int i6)] [(.int i6)])
      refine Goes.go (fun _ => XS.iloadN S.here B.x rfl (B.d d_prog_25_method_13_24) rfl) ?_
      show Goes _ _ _ _ T (mkF me_ 25 #[.val (.ref a0), .val (.int p1), .val (.long q2), .second, .val (.long q3), .second, .val (.int i6)] [(.int p1), (.int i6)])
      refine Goes.go (fun _ => XS.icmpYes S.here B.x rfl (pc0 := 25) (pc' := 82) rfl (B.d d_prog_25_method_13_25) rfl (flt (show ¬ (p1 < i6) from own_i0 hat hi)).2.2.2 (by decide) (by decide)) ?_
      show Goes _ _ _ _ T (mkF me_ 82 #[.val (.ref a0), .val (.int p1), .val (.long q2), .second, .val (.long q3), .second, .val (.int i6)] [])
      refine Goes.go (fun _ => XS.aloadN S.here B.x rfl (B.d d_prog_25_method_13_82) rfl rfl) ?_
      show Goes _ _ _ _ T (mkF me_ 83 #[.val (.ref a0), .val (.int p1), .val (.long q2), .second, .val (.long q3), .second, .val (.int i6)] [(.ref a0)])
      refine Goes.getF S B (w15 hw) F_a0_instants d_prog_25_method_13_83 ?_
      intro T S
      show Goes _ _ _ _ T (mkF me_ 86 #[.val (.ref a0), .val (.int p1), .val (.long q2), .second, .val (.long q3), .second, .val (.int i6)] [(.ref gI)])
      refine Goes.go (fun _ => XS.aloadN S.here B.x rfl (B.d d_prog_25_method_13_86) rfl rfl) ?_
      show Goes _ _ _ _ T (mkF me_ 87 #[.val (.ref a0), .val (.int p1), .val (.long q2), .second, .val (.long q3), .second, .val (.int i6)] [(.ref a0), (.ref gI)])
      refine Goes.go (fun _ => XS.iloadN S.here B.x rfl (B.d d_prog_25_method_13_87) rfl) ?_
      show Goes _ _ _ _ T (mkF me_ 88 #[.val (.ref a0), .val (.int p1), .val (.long q2), .second, .val (.long q3), .second, .val (.int i6)] [(.int p1), (.ref a0), (.ref gI)])
      refine Goes.callP (argsL := [(.int p1)]) (rest := [(.ref gI)]) (W := 1) S B (rm_slot l Z aw hw a0 p1 gI (fun i => (.long (I2 i))) f _ n0 F_a0_first F_a0_instants A_gI) E_a0 (w42 hw) (w44 hw) (w6 hw) (w43 hw) (w7 hw) (w45 hw) (by decide) (by decide) (by decide) (by decide) (by decide) rfl (lenOf pd_0 rfl) rfl (Nat.le_of_eq rfl) d_prog_25_method_13_88 ?_
      intro v T h S hQ
      obtain ⟨rfl, hh⟩ := hQ
      replace hh := hh.symm
      subst hh
      show Goes _ _ _ _ T (mkF me_ 91 #[.val (.ref a0), .val (.int p1), .val (.long q2), .second, .val (.long q3), .second, .val (.int i6)] [(.int ((f + p1) &&& (3 : Int32))), (.ref gI)])
      refine Goes.go (fun _ => XS.lloadN S.here B.x rfl (B.d d_prog_25_method_13_91) rfl) ?_
      show Goes _ _ _ _ T (mkF me_ 92 #[.val (.ref a0), .val (.int p1), .val (.long q2), .second, .val (.long q3), .second, .val (.int i6)] [(.long q2), (.int ((f + p1) &&& (3 : Int32))), (.ref gI)])
      refine Goes.lastore S B A_gI (own_m3 _).1 (own_m3 _).2 g_gI d_prog_25_method_13_92 ?_
      intro T h S W A_gI
      replace K := K.wr W (Or.inl (by simp))
      replace E_a0 := E_a0.wr W
      replace F_a0_instants := F_a0_instants.other W (Or.inl ne_a0__gI)
      replace F_a0_lastNumbers := F_a0_lastNumbers.other W (Or.inl ne_a0__gI)
      replace F_a0_first := F_a0_first.other W (Or.inl ne_a0__gI)
      replace F_a0_size := F_a0_size.other W (Or.inl ne_a0__gI)
      replace F_a0_dropped := F_a0_dropped.other W (Or.inl ne_a0__gI)
      replace A_gN := A_gN.other W ne_gI__gN.symm
      replace A_gI : Ary Z h gI .long 4 (aup (fun i => (.long (I2 i))) ((f + p1) &&& (3 : Int32)).toNatClampNeg (.long q2)) := A_gI
      rw [aup_long] at A_gI
      show Goes _ _ _ _ T (mkF me_ 93 #[.val (.ref a0), .val (.int p1), .val (.long q2), .second, .val (.long q3), .second, .val (.int i6)] [])
      refine Goes.go (fun _ => XS.aloadN S.here B.x rfl (B.d d_prog_25_method_13_93) rfl rfl) ?_
      show Goes _ _ _ _ T (mkF me_ 94 #[.val (.ref a0), .val (.int p1), .val (.long q2), .second, .val (.long q3), .second, .val (.int i6)] [(.ref a0)])
      refine Goes.getF S B (w17 hw) F_a0_lastNumbers d_prog_25_method_13_94 ?_
      intro T S
      show Goes _ _ _ _ T (mkF me_ 97 #[.val (.ref a0), .val (.int p1), .val (.long q2), .second, .val (.long q3), .second, .val (.int i6)] [(.ref gN)])
      refine Goes.go (fun _ => XS.aloadN S.here B.x rfl (B.d d_prog_25_method_13_97) rfl rfl) ?_
      show Goes _ _ _ _ T (mkF me_ 98 #[.val (.ref a0), .val (.int p1), .val (.long q2), .second, .val (.long q3), .second, .val (.int i6)] [(.ref a0), (.ref gN)])
      refine Goes.go (fun _ => XS.iloadN S.here B.x rfl (B.d d_prog_25_method_13_98) rfl) ?_
      show Goes _ _ _ _ T (mkF me_ 99 #[.val (.ref a0), .val (.int p1), .val (.long q2), .second, .val (.long q3), .second, .val (.int i6)] [(.int p1), (.ref a0), (.ref gN)])
      refine Goes.callP (argsL := [(.int p1)]) (rest := [(.ref gN)]) (W := 1) S B (rm_slot l Z aw hw a0 p1 gI (fun i => (.long ((aup I2 ((f + p1) &&& (3 : Int32)).toNatClampNeg q2) i))) f _ n0 F_a0_first F_a0_instants A_gI) E_a0 (w42 hw) (w44 hw) (w6 hw) (w43 hw) (w7 hw) (w45 hw) (by decide) (by decide) (by decide) (by decide) (by decide) rfl (lenOf pd_0 rfl) rfl (Nat.le_of_eq rfl) d_prog_25_method_13_99 ?_
      intro v T h S hQ
      obtain ⟨rfl, hh⟩ := hQ
      replace hh := hh.symm
      subst hh
      show Goes _ _ _ _ T (mkF me_ 102 #[.val (.ref a0), .val (.int p1), .val (.long q2), .second, .val (.long q3), .second, .val (.int i6)] [(.int ((f + p1) &&& (3 : Int32))), (.ref gN)])
      refine Goes.go (fun _ => XS.lload S.here B.x rfl (B.d d_prog_25_method_13_102) rfl) ?_
      show Goes _ _ _ _ T (mkF me_ 104 #[.val (.ref a0), .val (.int p1), .val (.long q2), .second, .val (.long q3), .second, .val (.int i6)] [(.long q3), (.int ((f + p1) &&& (3 : Int32))), (.ref gN)])
      refine Goes.lastore S B A_gN (own_m3 _).1 (own_m3 _).2 g_gN d_prog_25_method_13_104 ?_
      intro T h S W A_gN
      replace K := K.wr W (Or.inl (by simp))
      replace E_a0 := E_a0.wr W
      replace F_a0_instants := F_a0_instants.other W (Or.inl ne_a0__gN)
      replace F_a0_lastNumbers := F_a0_lastNumbers.other W (Or.inl ne_a0__gN)
      replace F_a0_first := F_a0_first.other W (Or.inl ne_a0__gN)
      replace F_a0_size := F_a0_size.other W (Or.inl ne_a0__gN)
      replace F_a0_dropped := F_a0_dropped.other W (Or.inl ne_a0__gN)
      replace A_gI := A_gI.other W ne_gI__gN
      replace A_gN : Ary Z h gN .long 4 (aup (fun i => (.long (N2 i))) ((f + p1) &&& (3 : Int32)).toNatClampNeg (.long q3)) := A_gN
      rw [aup_long] at A_gN
      show Goes _ _ _ _ T (mkF me_ 105 #[.val (.ref a0), .val (.int p1), .val (.long q2), .second, .val (.long q3), .second, .val (.int i6)] [])
      refine Goes.go (fun _ => XS.aloadN S.here B.x rfl (B.d d_prog_25_method_13_105) rfl rfl) ?_
      show Goes _ _ _ _ T (mkF me_ 106 #[.val (.ref a0), .val (.int p1), .val (.long q2), .second, .val (.long q3), .second, .val (.int i6)] [(.ref a0)])
      refine Goes.go (fun _ => XS.dup S.here B.x rfl (B.d d_prog_25_method_13_106) rfl rfl) ?_
      show Goes _ _ _ _ T (mkF me_ 107 #[.val (.ref a0), .val (.int p1), .val (.long q2), .second, .val (.long q3), .second, .val (.int i6)] [(.ref a0), (.ref a0)])
      refine Goes.getF S B (w30 hw) F_a0_size d_prog_25_method_13_107 ?_
      intro T S
      show Goes _ _ _ _ T (mkF me_ 110 #[.val (.ref a0), .val (.int p1), .val (.long q2), .second, .val (.long q3), .second, .val (.int i6)] [(.int sz), (.ref a0)])
      refine Goes.go (fun _ => XS.iconst S.here B.x rfl (B.d d_prog_25_method_13_110)) ?_
      show Goes _ _ _ _ T (mkF me_ 111 #[.val (.ref a0), .val (.int p1), .val (.long q2), .second, .val (.long q3), .second, .val (.int i6)] [(.int (1 : Int32)), (.int sz), (.ref a0)])
      refine Goes.go (fun _ => XS.iadd S.here B.x rfl (B.d d_prog_25_method_13_111) rfl) ?_
      show Goes _ _ _ _ T (mkF me_ 112 #[.val (.ref a0), .val (.int p1), .val (.long q2), .second, .val (.long q3), .second, .val (.int i6)] [(.int (sz + (1 : Int32))), (.ref a0)])
      refine Goes.putF (v' := (.int (sz + (1 : Int32)))) S B (w30 hw) F_a0_size E_a0 (Or.inl (w31 hw)) (w6 hw) (ty := .int) (by decide) rfl rfl g_a0 d_prog_25_method_13_112 ?_
      intro T h S W
      replace K := K.wr W (Or.inl (by simp))
      replace E_a0 := E_a0.wr W
      replace F_a0_instants := F_a0_instants.other W (Or.inr (slot_ne (Or.inl (w16 hw)) (Or.inl (w31 hw)) (by decide) (t := (.array .long)) (t' := .int) (by decide) (by decide)))
      replace F_a0_lastNumbers := F_a0_lastNumbers.other W (Or.inr (slot_ne (Or.inl (w18 hw)) (Or.inl (w31 hw)) (by decide) (t := (.array .long)) (t' := .int) (by decide) (by decide)))
      replace F_a0_first := F_a0_first.other W (Or.inr (slot_ne (Or.inl (w47 hw)) (Or.inl (w31 hw)) (by decide) (t := .int) (t' := .int) (by decide) (by decide)))
      replace F_a0_size := F_a0_size.same W
      replace F_a0_dropped := F_a0_dropped.other W (Or.inr (slot_ne (Or.inl (w37 hw)) (Or.inl (w31 hw)) (by decide) (t := .long) (t' := .int) (by decide) (by decide)))
      replace A_gI := A_gI.other W ne_a0__gI.symm
      replace A_gN := A_gN.other W ne_a0__gN.symm
      show Goes _ _ _ _ T (mkF me_ 115 #[.val (.ref a0), .val (.int p1), .val (.long q2), .second, .val (.long q3), .second, .val (.int i6)] [])
      refine Goes.retV S B d_prog_25_method_13_115 (by decide) (by decide) ?_
      exact ⟨_, _, rfl, K, E_a0, F_a0_instants, F_a0_lastNumbers, F_a0_first, F_a0_size, F_a0_dropped, A_gI, A_gN, own_inq hQ hQ rfl hl hat hk0 hsI, own_inq hQ hN hll hl hat hk0 hsN⟩
    | succ k ih =>
      intro T h i6 I2 N2 S K E_a0 F_a0_instants F_a0_lastNumbers F_a0_first F_a0_size F_a0_dropped A_gI A_gN hi hkl hsI hsN
      refine Goes.go (fun _ => XS.iload S.here B.x rfl (B.d d_prog_25_method_13_22) rfl) ?_
      show Goes _ _ _ _ T (mkF me_ 24 #[.val (.ref a0), .val (.int p1), .val (.long q2), .second, .val (.long q3), .second, .val (.int i6)] [(.int i6)])
      refine Goes.go (fun _ => XS.iloadN S.here B.x rfl (B.d d_prog_25_method_13_24) rfl) ?_
      show Goes _ _ _ _ T (mkF me_ 25 #[.val (.ref a0), .val (.int p1), .val (.long q2), .second, .val (.long q3), .second, .val (.int i6)] [(.int p1), (.int i6)])
      refine Goes.go (fun _ => XS.icmpNo S.here B.x rfl (B.d d_prog_25_method_13_25) rfl (tlt (show p1 < i6 from own_i1 hat hi)).2.2.2) ?_
      show Goes _ _ _ _ T (mkF me_ 28 #[.val (.ref a0), .val (.int p1), .val (.long q2), .second, .val (.long q3), .second, .val (.int i6)] [])
      refine Goes.go (fun _ => XS.aloadN S.here B.x rfl (B.d d_prog_25_method_13_28) rfl rfl) ?_
      show Goes _ _ _ _ T (mkF me_ 29 #[.val (.ref a0), .val (.int p1), .val (.long q2), .second, .val (.long q3), .second, .val (.int i6)] [(.ref a0)])
      refine Goes.getF S B (w15 hw) F_a0_instants d_prog_25_method_13_29 ?_
      intro T S
      show Goes _ _ _ _ T (mkF me_ 32 #[.val (.ref a0), .val (.int p1), .val (.long q2), .second, .val (.long q3), .second, .val (.int i6)] [(.ref gI)])
      refine Goes.go (fun _ => XS.aloadN S.here B.x rfl (B.d d_prog_25_method_13_32) rfl rfl) ?_
      show Goes _ _ _ _ T (mkF me_ 33 #[.val (.ref a0), .val (.int p1), .val (.long q2), .second, .val (.long q3), .second, .val (.int i6)] [(.ref a0), (.ref gI)])
      refine Goes.go (fun _ => XS.iload S.here B.x rfl (B.d d_prog_25_method_13_33) rfl) ?_
      show Goes _ _ _ _ T (mkF me_ 35 #[.val (.ref a0), .val (.int p1), .val (.long q2), .second, .val (.long q3), .second, .val (.int i6)] [(.int i6), (.ref a0), (.ref gI)])
      refine Goes.callP (argsL := [(.int i6)]) (rest := [(.ref gI)]) (W := 1) S B (rm_slot l Z aw hw a0 i6 gI (fun i => (.long (I2 i))) f _ n0 F_a0_first F_a0_instants A_gI) E_a0 (w42 hw) (w44 hw) (w6 hw) (w43 hw) (w7 hw) (w45 hw) (by decide) (by decide) (by decide) (by decide) (by decide) rfl (lenOf pd_0 rfl) rfl (Nat.le_of_eq rfl) d_prog_25_method_13_35 ?_
      intro v T h S hQ
      obtain ⟨rfl, hh⟩ := hQ
      replace hh := hh.symm
      subst hh
      show Goes _ _ _ _ T (mkF me_ 38 #[.val (.ref a0), .val (.int p1), .val (.long q2), .second, .val (.long q3), .second, .val (.int i6)] [(.int ((f + i6) &&& (3 : Int32))), (.ref gI)])
      refine Goes.go (fun _ => XS.aloadN S.here B.x rfl (B.d d_prog_25_method_13_38) rfl rfl) ?_
      show Goes _ _ _ _ T (mkF me_ 39 #[.val (.ref a0), .val (.int p1), .val (.long q2), .second, .val (.long q3), .second, .val (.int i6)] [(.ref a0), (.int ((f + i6) &&& (3 : Int32))), (.ref gI)])
      refine Goes.getF S B (w15 hw) F_a0_instants d_prog_25_method_13_39 ?_
      intro T S
      show Goes _ _ _ _ T (mkF me_ 42 #[.val (.ref a0), .val (.int p1), .val (.long q2), .second, .val (.long q3), .second, .val (.int i6)] [(.ref gI), (.int ((f + i6) &&& (3 : Int32))), (.ref gI)])
      refine Goes.go (fun _ => XS.aloadN S.here B.x rfl (B.d d_prog_25_method_13_42) rfl rfl) ?_
      show Goes _ _ _ _ T (mkF me_ 43 #[.val (.ref a0), .val (.int p1), .val (.long q2), .second, .val (.long q3), .second, .val (.int i6)] [(.ref a0), (.ref gI), (.int ((f + i6) &&& (3 : Int32))), (.ref gI)])
      refine Goes.go (fun _ => XS.iload S.here B.x rfl (B.d d_prog_25_method_13_43) rfl) ?_
      show Goes _ _ _ _ T (mkF me_ 45 #[.val (.ref a0), .val (.int p1), .val (.long q2), .second, .val (.long q3), .second, .val (.int i6)] [(.int i6), (.ref a0), (.ref gI), (.int ((f + i6) &&& (3 : Int32))), (.ref gI)])
      refine Goes.go (fun _ => XS.iconst S.here B.x rfl (B.d d_prog_25_method_13_45)) ?_
      show Goes _ _ _ _ T (mkF me_ 46 #[.val (.ref a0), .val (.int p1), .val (.long q2), .second, .val (.long q3), .second, .val (.int i6)] [(.int (1 : Int32)), (.int i6), (.ref a0), (.ref gI), (.int ((f + i6) &&& (3 : Int32))), (.ref gI)])
      refine Goes.go (fun _ => XS.isub S.here B.x rfl (B.d d_prog_25_method_13_46) rfl) ?_
      show Goes _ _ _ _ T (mkF me_ 47 #[.val (.ref a0), .val (.int p1), .val (.long q2), .second, .val (.long q3), .second, .val (.int i6)] [(.int (i6 - (1 : Int32))), (.ref a0), (.ref gI), (.int ((f + i6) &&& (3 : Int32))), (.ref gI)])
      refine Goes.callP (argsL := [(.int (i6 - (1 : Int32)))]) (rest := [(.ref gI), (.int ((f + i6) &&& (3 : Int32))), (.ref gI)]) (W := 3) S B (rm_slot l Z aw hw a0 (i6 - (1 : Int32)) gI (fun i => (.long (I2 i))) f _ n0 F_a0_first F_a0_instants A_gI) E_a0 (w42 hw) (w44 hw) (w6 hw) (w43 hw) (w7 hw) (w45 hw) (by decide) (by decide) (by decide) (by decide) (by decide) rfl (lenOf pd_0 rfl) rfl (Nat.le_of_eq rfl) d_prog_25_method_13_47 ?_
      intro v T h S hQ
      obtain ⟨rfl, hh⟩ := hQ
      replace hh := hh.symm
      subst hh
      show Goes _ _ _ _ T (mkF me_ 50 #[.val (.ref a0), .val (.int p1), .val (.long q2), .second, .val (.long q3), .second, .val (.int i6)] [(.int ((f + (i6 - (1 : Int32))) &&& (3 : Int32))), (.ref gI), (.int ((f + i6) &&& (3 : Int32))), (.ref gI)])
      refine Goes.laload S B A_gI (own_m3 _).1 (own_m3 _).2 d_prog_25_method_13_50 (v := (.long (I2 ((f + (i6 - (1 : Int32))) &&& (3 : Int32)).toNatClampNeg))) rfl ?_
      show Goes _ _ _ _ T (mkF me_ 51 #[.val (.ref a0), .val (.int p1), .val (.long q2), .second, .val (.long q3), .second, .val (.int i6)] [(.long (I2 ((f + (i6 - (1 : Int32))) &&& (3 : Int32)).toNatClampNeg)), (.int ((f + i6) &&& (3 : Int32))), (.ref gI)])
      refine Goes.lastore S B A_gI (own_m3 _).1 (own_m3 _).2 g_gI d_prog_25_method_13_51 ?_
      intro T h S W A_gI
      replace K := K.wr W (Or.inl (by simp))
      replace E_a0 := E_a0.wr W
      replace F_a0_instants := F_a0_instants.other W (Or.inl ne_a0__gI)
      replace F_a0_lastNumbers := F_a0_lastNumbers.other W (Or.inl ne_a0__gI)
      replace F_a0_first := F_a0_first.other W (Or.inl ne_a0__gI)
      replace F_a0_size := F_a0_size.other W (Or.inl ne_a0__gI)
      replace F_a0_dropped := F_a0_dropped.other W (Or.inl ne_a0__gI)
      replace A_gN := A_gN.other W ne_gI__gN.symm
      replace A_gI : Ary Z h gI .long 4 (aup (fun i => (.long (I2 i))) ((f + i6) &&& (3 : Int32)).toNatClampNeg (.long (I2 ((f + (i6 - (1 : Int32))) &&& (3 : Int32)).toNatClampNeg))) := A_gI
      rw [aup_long] at A_gI
      show Goes _ _ _ _ T (mkF me_ 52 #[.val (.ref a0), .val (.int p1), .val (.long q2), .second, .val (.long q3), .second, .val (.int i6)] [])
      refine Goes.go (fun _ => XS.aloadN S.here B.x rfl (B.d d_prog_25_method_13_52) rfl rfl) ?_
      show Goes _ _ _ _ T (mkF me_ 53 #[.val (.ref a0), .val (.int p1), .val (.long q2), .second, .val (.long q3), .second, .val (.int i6)] [(.ref a0)])
      refine Goes.getF S B (w17 hw) F_a0_lastNumbers d_prog_25_method_13_53 ?_
      intro T S
      show Goes _ _ _ _ T (mkF me_ 56 #[.val (.ref a0), .val (.int p1), .val (.long q2), .second, .val (.long q3), .second, .val (.int i6)] [(.ref gN)])
      refine Goes.go (fun _ => XS.aloadN S.here B.x rfl (B.d d_prog_25_method_13_56) rfl rfl) ?_
      show Goes _ _ _ _ T (mkF me_ 57 #[.val (.ref a0), .val (.int p1), .val (.long q2), .second, .val (.long q3), .second, .val (.int i6)] [(.ref a0), (.ref gN)])
      refine Goes.go (fun _ => XS.iload S.here B.x rfl (B.d d_prog_25_method_13_57) rfl) ?_
      show Goes _ _ _ _ T (mkF me_ 59 #[.val (.ref a0), .val (.int p1), .val (.long q2), .second, .val (.long q3), .second, .val (.int i6)] [(.int i6), (.ref a0), (.ref gN)])
      refine Goes.callP (argsL := [(.int i6)]) (rest := [(.ref gN)]) (W := 1) S B (rm_slot l Z aw hw a0 i6 gI (fun i => (.long ((aup I2 ((f + i6) &&& (3 : Int32)).toNatClampNeg (I2 ((f + (i6 - (1 : Int32))) &&& (3 : Int32)).toNatClampNeg)) i))) f _ n0 F_a0_first F_a0_instants A_gI) E_a0 (w42 hw) (w44 hw) (w6 hw) (w43 hw) (w7 hw) (w45 hw) (by decide) (by decide) (by decide) (by decide) (by decide) rfl (lenOf pd_0 rfl) rfl (Nat.le_of_eq rfl) d_prog_25_method_13_59 ?_
      intro v T h S hQ
      obtain ⟨rfl, hh⟩ := hQ
      replace hh := hh.symm
      subst hh
      show Goes _ _ _ _ T (mkF me_ 62 #[.val (.ref a0), .val (.int p1), .val (.long q2), .second, .val (.long q3), .second, .val (.int i6)] [(.int ((f + i6) &&& (3 : Int32))), (.ref gN)])
      refine Goes.go (fun _ => XS.aloadN S.here B.x rfl (B.d d_prog_25_method_13_62) rfl rfl) ?_
      show Goes _ _ _ _ T (mkF me_ 63 #[.val (.ref a0), .val (.int p1), .val (.long q2), .second, .val (.long q3), .second, .val (.int i6)] [(.ref a0), (.int ((f + i6) &&& (3 : Int32))), (.ref gN)])
      refine Goes.getF S B (w17 hw) F_a0_lastNumbers d_prog_25_method_13_63 ?_
      intro T S
      show Goes _ _ _ _ T (mkF me_ 66 #[.val (.ref a0), .val (.int p1), .val (.long q2), .second, .val (.long q3), .second, .val (.int i6)] [(.ref gN), (.int ((f + i6) &&& (3 : Int32))), (.ref gN)])
      refine Goes.go (fun _ => XS.aloadN S.here B.x rfl (B.d d_prog_25_method_13_66) rfl rfl) ?_
      show Goes _ _ _ _ T (mkF me_ 67 #[.val (.ref a0), .val (.int p1), .val (.long q2), .second, .val (.long q3), .second, .val (.int i6)] [(.ref a0), (.ref gN), (.int ((f + i6) &&& (3 : Int32))), (.ref gN)])
      refine Goes.go (fun _ => XS.iload S.here B.x rfl (B.d d_prog_25_method_13_67) rfl) ?_
      show Goes _ _ _ _ T (mkF me_ 69 #[.val (.ref a0), .val (.int p1), .val (.long q2), .second, .val (.long q3), .second, .val (.int i6)] [(.int i6), (.ref a0), (.ref gN), (.int ((f + i6) &&& (3 : Int32))), (.ref gN)])
      refine Goes.go (fun _ => XS.iconst S.here B.x rfl (B.d d_prog_25_method_13_69)) ?_
      show Goes _ _ _ _ T (mkF me_ 70 #[.val (.ref a0), .val (.int p1), .val (.long q2), .second, .val (.long q3), .second, .val (.int i6)] [(.int (1 : Int32)), (.int i6), (.ref a0), (.ref gN), (.int ((f + i6) &&& (3 : Int32))), (.ref gN)])
      refine Goes.go (fun _ => XS.isub S.here B.x rfl (B.d d_prog_25_method_13_70) rfl) ?_
      show Goes _ _ _ _ T (mkF me_ 71 #[.val (.ref a0), .val (.int p1), .val (.long q2), .second, .val (.long q3), .second, .val (.int i6)] [(.int (i6 - (1 : Int32))), (.ref a0), (.ref gN), (.int ((f + i6) &&& (3 : Int32))), (.ref gN)])
      refine Goes.callP (argsL := [(.int (i6 - (1 : Int32)))]) (rest := [(.ref gN), (.int ((f + i6) &&& (3 : Int32))), (.ref gN)]) (W := 3) S B (rm_slot l Z aw hw a0 (i6 - (1 : Int32)) gI (fun i => (.long ((aup I2 ((f + i6) &&& (3 : Int32)).toNatClampNeg (I2 ((f + (i6 - (1 : Int32))) &&& (3 : Int32)).toNatClampNeg)) i))) f _ n0 F_a0_first F_a0_instants A_gI) E_a0 (w42 hw) (w44 hw) (w6 hw) (w43 hw) (w7 hw) (w45 hw) (by decide) (by decide) (by decide) (by decide) (by decide) rfl (lenOf pd_0 rfl) rfl (Nat.le_of_eq rfl) d_prog_25_method_13_71 ?_
      intro v T h S hQ
      obtain ⟨rfl, hh⟩ := hQ
      replace hh := hh.symm
      subst hh
      show Goes _ _ _ _ T (mkF me_ 74 #[.val (.ref a0), .val (.int p1), .val (.long q2), .second, .val (.long q3), .second, .val (.int i6)] [(.int ((f + (i6 - (1 : Int32))) &&& (3 : Int32))), (.ref gN), (.int ((f + i6) &&& (3 : Int32))), (.ref gN)])
      refine Goes.laload S B A_gN (own_m3 _).1 (own_m3 _).2 d_prog_25_method_13_74 (v := (.long (N2 ((f + (i6 - (1 : Int32))) &&& (3 : Int32)).toNatClampNeg))) rfl ?_
      show Goes _ _ _ _ T (mkF me_ 75 #[.val (.ref a0), .val (.int p1), .val (.long q2), .second, .val (.long q3), .second, .val (.int i6)] [(.long (N2 ((f + (i6 - (1 : Int32))) &&& (3 : Int32)).toNatClampNeg)), (.int ((f + i6) &&& (3 : Int32))), (.ref gN)])
      refine Goes.lastore S B A_gN (own_m3 _).1 (own_m3 _).2 g_gN d_prog_25_method_13_75 ?_
      intro T h S W A_gN
      replace K := K.wr W (Or.inl (by simp))
      replace E_a0 := E_a0.wr W
      replace F_a0_instants := F_a0_instants.other W (Or.inl ne_a0__gN)
      replace F_a0_lastNumbers := F_a0_lastNumbers.other W (Or.inl ne_a0__gN)
      replace F_a0_first := F_a0_first.other W (Or.inl ne_a0__gN)
      replace F_a0_size := F_a0_size.other W (Or.inl ne_a0__gN)
      replace F_a0_dropped := F_a0_dropped.other W (Or.inl ne_a0__gN)
      replace A_gI := A_gI.other W ne_gI__gN
      replace A_gN : Ary Z h gN .long 4 (aup (fun i => (.long (N2 i))) ((f + i6) &&& (3 : Int32)).toNatClampNeg (.long (N2 ((f + (i6 - (1 : Int32))) &&& (3 : Int32)).toNatClampNeg))) := A_gN
      rw [aup_long] at A_gN
      show Goes _ _ _ _ T (mkF me_ 76 #[.val (.ref a0), .val (.int p1), .val (.long q2), .second, .val (.long q3), .second, .val (.int i6)] [])
      refine Goes.go (fun _ => XS.iinc S.here B.x rfl (B.d d_prog_25_method_13_76) rfl (l' := #[.val (.ref a0), .val (.int p1), .val (.long q2), .second, .val (.long q3), .second, .val (.int (i6 + (-1 : Int32)))]) rfl) ?_
      show Goes _ _ _ _ T (mkF me_ 79 #[.val (.ref a0), .val (.int p1), .val (.long q2), .second, .val (.long q3), .second, .val (.int (i6 + (-1 : Int32)))] [])
      refine Goes.go (fun _ => XS.goto S.here B.x rfl (pc0 := 79) (pc' := 22) rfl (B.d d_prog_25_method_13_79) (by decide) (by decide)) ?_
      show Goes _ _ _ _ T (mkF me_ 22 #[.val (.ref a0), .val (.int p1), .val (.long q2), .second, .val (.long q3), .second, .val (.int (i6 + (-1 : Int32)))] [])
      exact ih T _ (i6 + (-1 : Int32)) (aup I2 ((f + i6) &&& (3 : Int32)).toNatClampNeg (I2 ((f + (i6 - (1 : Int32))) &&& (3 : Int32)).toNatClampNeg)) (aup N2 ((f + i6) &&& (3 : Int32)).toNatClampNeg (N2 ((f + (i6 - (1 : Int32))) &&& (3 : Int32)).toNatClampNeg)) S K E_a0 F_a0_instants F_a0_lastNumbers F_a0_first F_a0_size F_a0_dropped A_gI A_gN (own_dec hi (by omega)) (by omega) (own_shs hQ hl hi hkl hsI) (own_shs hQ hl hi hkl hsN)
  exact LP1 (ts.length - kk) T _ sz I N S K E_a0 F_a0_instants F_a0_lastNumbers F_a0_first F_a0_size F_a0_dropped A_gI A_gN (by omega) (by omega) (own_sh0 (by omega)) (own_sh0 (by omega))
theorem ef_rm_add (m : MethodId) (a0 : Addr) (q1 : Int64) (q2 : Int64) : entryFrame m #[(.ref a0), (.long q1), (.long q2)] 7 = mkF m 0 #[.val (.ref a0), .val (.long q1), .second, .val (.long q2), .second, .unset, .unset] [] := by first | (simp [entryFrame, mkF, argsToLocals, Value.category]; done) | rfl
def Q_rm_add (Z : State) (a0 : Addr) (q1 : Int64) (q2 : Int64) (gI : Addr) (gN : Addr) (I : Nat → Int64) (N : Nat → Int64) (f : Int32) (sz : Int32) (d : Int64) (ts : List Int64) (ns : List Int64) (h0 : Heap) (n0 : Nat) (v : Option Value) (h : Heap) : Prop := ∃ (I3 : Nat → Int64) (N3 : Nat → Int64) (s3 : Int32), v = none ∧ Keep h0 h [a0, gI, gN] ∧ Exa Z h a0 "com/example/bucket_brigade/bucketbrigade/PermitLog" ∧ Fld Z h a0 "com/example/bucket_brigade/bucketbrigade/PermitLog" "instants" "[J" (.ref gI) ∧ Fld Z h a0 "com/example/bucket_brigade/bucketbrigade/PermitLog" "lastNumbers" "[J" (.ref gN) ∧ Fld Z h a0 "com/example/bucket_brigade/bucketbrigade/PermitLog" "first" "I" (.int f) ∧ Fld Z h a0 "com/example/bucket_brigade/bucketbrigade/PermitLog" "size" "I" (.int s3) ∧ Fld Z h a0 "com/example/bucket_brigade/bucketbrigade/PermitLog" "dropped" "J" (.long d) ∧ Ary Z h gI .long 4 (fun i => (.long (I3 i))) ∧ Ary Z h gN .long 4 (fun i => (.long (N3 i))) ∧ (own_Q f I3 (own_ti ts q1)) ∧ (own_Q f N3 (own_bump (own_ni d ts ns q1) (own_pos ts q1) q2)) ∧ (s3.toInt = ((own_ti ts q1).length : Int))
set_option maxRecDepth 65536 in
set_option maxHeartbeats 40000000 in
theorem rm_add (l : Launch) (Z : State) (aw : Array Value) (hw : ∀ d ∈ tables_1, d.before aw Z = true) (a0 : Addr) (q1 : Int64) (q2 : Int64) (gI : Addr) (gN : Addr) (I : Nat → Int64) (N : Nat → Int64) (f : Int32) (sz : Int32) (d : Int64) (ts : List Int64) (ns : List Int64) (h0 : Heap) (n0 : Nat) (E_a0 : Exa Z h0 a0 "com/example/bucket_brigade/bucketbrigade/PermitLog") (F_a0_instants : Fld Z h0 a0 "com/example/bucket_brigade/bucketbrigade/PermitLog" "instants" "[J" (.ref gI)) (F_a0_lastNumbers : Fld Z h0 a0 "com/example/bucket_brigade/bucketbrigade/PermitLog" "lastNumbers" "[J" (.ref gN)) (F_a0_first : Fld Z h0 a0 "com/example/bucket_brigade/bucketbrigade/PermitLog" "first" "I" (.int f)) (F_a0_size : Fld Z h0 a0 "com/example/bucket_brigade/bucketbrigade/PermitLog" "size" "I" (.int sz)) (F_a0_dropped : Fld Z h0 a0 "com/example/bucket_brigade/bucketbrigade/PermitLog" "dropped" "J" (.long d)) (A_gI : Ary Z h0 gI .long 4 (fun i => (.long (I i)))) (A_gN : Ary Z h0 gN .long 4 (fun i => (.long (N i)))) (g_a0 : n0 ≤ a0) (g_gI : n0 ≤ gI) (g_gN : n0 ≤ gN) (ne_a0__gI : a0 ≠ gI) (ne_a0__gN : a0 ≠ gN) (ne_gI__gN : gI ≠ gN) (hQ : own_Q f I ts) (hN : own_Q f N ns) (hsz : sz.toInt = (ts.length : Int)) (hll : ns.length = ts.length) (hl : ts.length < 4) (hS : own_S ts) :
    Con l Z (⟨"com/example/bucket_brigade/bucketbrigade/PermitLog", "add", "(JJ)V"⟩ : MethodName) prog_25_method_9_code 7 none ({ frames := 3, cells := 0, slots := 0, locals := 44 } : Room) #[(.ref a0), (.long q1), (.long q2)] h0 n0 (Q_rm_add Z a0 q1 q2 gI gN I N f sz d ts ns h0 n0) := by
  refine Con.body (plainFor_of_name pn_0) ?_
  intro pr_ en_ st_ me_ below meth co_ T B S
  refine Goes.cast (ef_rm_add me_ a0 q1 q2) ?_
  have K : Keep h0 h0 [a0, gI, gN] := Keep.refl _ _
  refine Goes.go (fun _ => XS.aloadN S.here B.x rfl (B.d d_prog_25_method_9_0) rfl rfl) ?_
  show Goes _ _ _ _ T (mkF me_ 1 #[.val (.ref a0), .val (.long q1), .second, .val (.long q2), .second, .unset, .unset] [(.ref a0)])
  refine Goes.go (fun _ => XS.lloadN S.here B.x rfl (B.d d_prog_25_method_9_1) rfl) ?_
  show Goes _ _ _ _ T (mkF me_ 2 #[.val (.ref a0), .val (.long q1), .second, .val (.long q2), .second, .unset, .unset] [(.long q1), (.ref a0)])
  refine Goes.callP (argsL := [(.long q1)]) (rest := []) (W := 0) S B (rm_fao l Z aw hw a0 q1 gI I f sz ts _ n0 E_a0 F_a0_instants F_a0_first F_a0_size A_gI hQ hsz hS) E_a0 (w26 hw) (w28 hw) (w6 hw) (w27 hw) (w7 hw) (w29 hw) (by decide) (by decide) (by decide) (by decide) (by decide) rfl (lenOf pd_2 rfl) rfl (Nat.le_of_eq rfl) d_prog_25_method_9_2 ?_
  intro v T h S hQ
  obtain ⟨rfl, hh⟩ := hQ
  replace hh := hh.symm
  subst hh
  show Goes _ _ _ _ T (mkF me_ 5 #[.val (.ref a0), .val (.long q1), .second, .val (.long q2), .second, .unset, .unset] [(.int (Int32.ofNat (own_pos ts q1)))])
  refine Goes.go (fun _ => XS.istore S.here B.x rfl (B.d d_prog_25_method_9_5) rfl (l' := #[.val (.ref a0), .val (.long q1), .second, .val (.long q2), .second, .val (.int (Int32.ofNat (own_pos ts q1))), .unset]) rfl) ?_
  show Goes _ _ _ _ T (mkF me_ 7 #[.val (.ref a0), .val (.long q1), .second, .val (.long q2), .second, .val (.int (Int32.ofNat (own_pos ts q1))), .unset] [])
  have J1 : ∀ (T : State) (h : Heap) (I2 : Nat → Int64) (N2 : Nat → Int64) (s2 : Int32), Sd pr_ l en_ ({ frames := 3, cells := 0, slots := 0, locals := 44 } : Room) st_ me_ #[(.ref a0), (.long q1), (.long q2)] below meth co_ T h n0 0 0 → Keep h0 h [a0, gI, gN] → Exa Z h a0 "com/example/bucket_brigade/bucketbrigade/PermitLog" → Fld Z h a0 "com/example/bucket_brigade/bucketbrigade/PermitLog" "instants" "[J" (.ref gI) → Fld Z h a0 "com/example/bucket_brigade/bucketbrigade/PermitLog" "lastNumbers" "[J" (.ref gN) → Fld Z h a0 "com/example/bucket_brigade/bucketbrigade/PermitLog" "first" "I" (.int f) → Fld Z h a0 "com/example/bucket_brigade/bucketbrigade/PermitLog" "size" "I" (.int s2) → Fld Z h a0 "com/example/bucket_brigade/bucketbrigade/PermitLog" "dropped" "J" (.long d) → Ary Z h gI .long 4 (fun i => (.long (I2 i))) → Ary Z h gN .long 4 (fun i => (.long (N2 i))) → own_Q f I2 (own_ti ts q1) → own_Q f N2 (own_ni d ts ns q1) → s2.toInt = ((own_ti ts q1).length : Int) → Goes pr_.tables en_ below (Fine st_ n0 (Q_rm_add Z a0 q1 q2 gI gN I N f sz d ts ns h0 n0) ({ frames := 3, cells := 0, slots := 0, locals := 44 } : Room).cells ({ frames := 3, cells := 0, slots := 0, locals := 44 } : Room).slots) T (mkF me_ 40 #[.val (.ref a0), .val (.long q1), .second, .val (.long q2), .second, .val (.int (Int32.ofNat (own_pos ts q1))), .unset] []) := by
    intro T h I2 N2 s2 S K E_a0 F_a0_instants F_a0_lastNumbers F_a0_first F_a0_size F_a0_dropped A_gI A_gN hQ2 hN2 hs2
    refine Goes.go (fun _ => XS.iload S.here B.x rfl (B.d d_prog_25_method_9_40) rfl) ?_
    show Goes _ _ _ _ T (mkF me_ 42 #[.val (.ref a0), .val (.long q1), .second, .val (.long q2), .second, .val (.int (Int32.ofNat (own_pos ts q1))), .unset] [(.int (Int32.ofNat (own_pos ts q1)))])
    refine Goes.go (fun _ => XS.istore S.here B.x rfl (B.d d_prog_25_method_9_42) rfl (l' := #[.val (.ref a0), .val (.long q1), .second, .val (.long q2), .second, .val (.int (Int32.ofNat (own_pos ts q1))), .val (.int (Int32.ofNat (own_pos ts q1)))]) rfl) ?_
    show Goes _ _ _ _ T (mkF me_ 44 #[.val (.ref a0), .val (.long q1), .second, .val (.long q2), .second, .val (.int (Int32.ofNat (own_pos ts q1))), .val (.int (Int32.ofNat (own_pos ts q1)))] [])
    have LP2 : ∀ (k : Nat) (T : State) (h : Heap) (i6 : Int32) (N3 : Nat → Int64), Sd pr_ l en_ ({ frames := 3, cells := 0, slots := 0, locals := 44 } : Room) st_ me_ #[(.ref a0), (.long q1), (.long q2)] below meth co_ T h n0 0 0 → Keep h0 h [a0, gI, gN] → Exa Z h a0 "com/example/bucket_brigade/bucketbrigade/PermitLog" → Fld Z h a0 "com/example/bucket_brigade/bucketbrigade/PermitLog" "instants" "[J" (.ref gI) → Fld Z h a0 "com/example/bucket_brigade/bucketbrigade/PermitLog" "lastNumbers" "[J" (.ref gN) → Fld Z h a0 "com/example/bucket_brigade/bucketbrigade/PermitLog" "first" "I" (.int f) → Fld Z h a0 "com/example/bucket_brigade/bucketbrigade/PermitLog" "size" "I" (.int s2) → Fld Z h a0 "com/example/bucket_brigade/bucketbrigade/PermitLog" "dropped" "J" (.long d) → Ary Z h gI .long 4 (fun i => (.long (I2 i))) → Ary Z h gN .long 4 (fun i => (.long (N3 i))) → k ≤ (own_ti ts q1).length - (own_pos ts q1) → i6.toInt = (((own_ti ts q1).length - k : Nat) : Int) → own_ad f N2 N3 q2 (own_pos ts q1) ((own_ti ts q1).length - k) (own_ti ts q1).length → Goes pr_.tables en_ below (Fine st_ n0 (Q_rm_add Z a0 q1 q2 gI gN I N f sz d ts ns h0 n0) ({ frames := 3, cells := 0, slots := 0, locals := 44 } : Room).cells ({ frames := 3, cells := 0, slots := 0, locals := 44 } : Room).slots) T (mkF me_ 44 #[.val (.ref a0), .val (.long q1), .second, .val (.long q2), .second, .val (.int (Int32.ofNat (own_pos ts q1))), .val (.int i6)] []) := by
      intro k
      induction k with
      | zero =>
        intro T h i6 N3 S K E_a0 F_a0_instants F_a0_lastNumbers F_a0_first F_a0_size F_a0_dropped A_gI A_gN hkl hi ha
        refine Goes.go (fun _ => XS.iload S.here B.x rfl (B.d d_prog_25_method_9_44) rfl) ?_
        show Goes _ _ _ _ T (mkF me_ 46 #[.val (.ref a0), .val (.long q1), .second, .val (.long q2), .second, .val (.int (Int32.ofNat (own_pos ts q1))), .val (.int i6)] [(.int i6)])
        refine Goes.go (fun _ => XS.aloadN S.here B.x rfl (B.d d_prog_25_method_9_46) rfl rfl) ?_
        show Goes _ _ _ _ T (mkF me_ 47 #[.val (.ref a0), .val (.long q1), .second, .val (.long q2), .second, .val (.int (Int32.ofNat (own_pos ts q1))), .val (.int i6)] [(.ref a0), (.int i6)])
        refine Goes.getF S B (w30 hw) F_a0_size d_prog_25_method_9_47 ?_
        intro T S
        show Goes _ _ _ _ T (mkF me_ 50 #[.val (.ref a0), .val (.long q1), .second, .val (.long q2), .second, .val (.int (Int32.ofNat (own_pos ts q1))), .val (.int i6)] [(.int s2), (.int i6)])
        refine Goes.go (fun _ => XS.icmpYes S.here B.x rfl (pc0 := 50) (pc' := 74) rfl (B.d d_prog_25_method_9_50) rfl (flt (show ¬ (i6 < s2) from own_j0 hi hs2)).2.1 (by decide) (by decide)) ?_
        show Goes _ _ _ _ T (mkF me_ 74 #[.val (.ref a0), .val (.long q1), .second, .val (.long q2), .second, .val (.int (Int32.ofNat (own_pos ts q1))), .val (.int i6)] [])
        refine Goes.retV S B d_prog_25_method_9_74 (by decide) (by decide) ?_
        exact ⟨_, _, _, rfl, K, E_a0, F_a0_instants, F_a0_lastNumbers, F_a0_first, F_a0_size, F_a0_dropped, A_gI, A_gN, hQ2, own_adq hQ2 hN2 (own_nil hll) ha, hs2⟩
      | succ k ih =>
        intro T h i6 N3 S K E_a0 F_a0_instants F_a0_lastNumbers F_a0_first F_a0_size F_a0_dropped A_gI A_gN hkl hi ha
        refine Goes.go (fun _ => XS.iload S.here B.x rfl (B.d d_prog_25_method_9_44) rfl) ?_
        show Goes _ _ _ _ T (mkF me_ 46 #[.val (.ref a0), .val (.long q1), .second, .val (.long q2), .second, .val (.int (Int32.ofNat (own_pos ts q1))), .val (.int i6)] [(.int i6)])
        refine Goes.go (fun _ => XS.aloadN S.here B.x rfl (B.d d_prog_25_method_9_46) rfl rfl) ?_
        show Goes _ _ _ _ T (mkF me_ 47 #[.val (.ref a0), .val (.long q1), .second, .val (.long q2), .second, .val (.int (Int32.ofNat (own_pos ts q1))), .val (.int i6)] [(.ref a0), (.int i6)])
        refine Goes.getF S B (w30 hw) F_a0_size d_prog_25_method_9_47 ?_
        intro T S
        show Goes _ _ _ _ T (mkF me_ 50 #[.val (.ref a0), .val (.long q1), .second, .val (.long q2), .second, .val (.int (Int32.ofNat (own_pos ts q1))), .val (.int i6)] [(.int s2), (.int i6)])
        refine Goes.go (fun _ => XS.icmpNo S.here B.x rfl (B.d d_prog_25_method_9_50) rfl (tlt (show i6 < s2 from own_j1 hi hs2 hkl)).2.1) ?_
        show Goes _ _ _ _ T (mkF me_ 53 #[.val (.ref a0), .val (.long q1), .second, .val (.long q2), .second, .val (.int (Int32.ofNat (own_pos ts q1))), .val (.int i6)] [])
        refine Goes.go (fun _ => XS.aloadN S.here B.x rfl (B.d d_prog_25_method_9_53) rfl rfl) ?_
        show Goes _ _ _ _ T (mkF me_ 54 #[.val (.ref a0), .val (.long q1), .second, .val (.long q2), .second, .val (.int (Int32.ofNat (own_pos ts q1))), .val (.int i6)] [(.ref a0)])
        refine Goes.getF S B (w17 hw) F_a0_lastNumbers d_prog_25_method_9_54 ?_
        intro T S
        show Goes _ _ _ _ T (mkF me_ 57 #[.val (.ref a0), .val (.long q1), .second, .val (.long q2), .second, .val (.int (Int32.ofNat (own_pos ts q1))), .val (.int i6)] [(.ref gN)])
        refine Goes.go (fun _ => XS.aloadN S.here B.x rfl (B.d d_prog_25_method_9_57) rfl rfl) ?_
        show Goes _ _ _ _ T (mkF me_ 58 #[.val (.ref a0), .val (.long q1), .second, .val (.long q2), .second, .val (.int (Int32.ofNat (own_pos ts q1))), .val (.int i6)] [(.ref a0), (.ref gN)])
        refine Goes.go (fun _ => XS.iload S.here B.x rfl (B.d d_prog_25_method_9_58) rfl) ?_
        show Goes _ _ _ _ T (mkF me_ 60 #[.val (.ref a0), .val (.long q1), .second, .val (.long q2), .second, .val (.int (Int32.ofNat (own_pos ts q1))), .val (.int i6)] [(.int i6), (.ref a0), (.ref gN)])
        refine Goes.callP (argsL := [(.int i6)]) (rest := [(.ref gN)]) (W := 1) S B (rm_slot l Z aw hw a0 i6 gI (fun i => (.long (I2 i))) f _ n0 F_a0_first F_a0_instants A_gI) E_a0 (w42 hw) (w44 hw) (w6 hw) (w43 hw) (w7 hw) (w45 hw) (by decide) (by decide) (by decide) (by decide) (by decide) rfl (lenOf pd_0 rfl) rfl (Nat.le_of_eq rfl) d_prog_25_method_9_60 ?_
        intro v T h S hQ
        obtain ⟨rfl, hh⟩ := hQ
        replace hh := hh.symm
        subst hh
        show Goes _ _ _ _ T (mkF me_ 63 #[.val (.ref a0), .val (.long q1), .second, .val (.long q2), .second, .val (.int (Int32.ofNat (own_pos ts q1))), .val (.int i6)] [(.int ((f + i6) &&& (3 : Int32))), (.ref gN)])
        refine Goes.go (fun _ => XT.dup2 S.here B.x rfl (B.d d_prog_25_method_9_63) rfl rfl rfl) ?_
        show Goes _ _ _ _ T (mkF me_ 64 #[.val (.ref a0), .val (.long q1), .second, .val (.long q2), .second, .val (.int (Int32.ofNat (own_pos ts q1))), .val (.int i6)] [(.int ((f + i6) &&& (3 : Int32))), (.ref gN), (.int ((f + i6) &&& (3 : Int32))), (.ref gN)])
        refine Goes.laload S B A_gN (own_m3 _).1 (own_m3 _).2 d_prog_25_method_9_64 (v := (.long (N3 ((f + i6) &&& (3 : Int32)).toNatClampNeg))) rfl ?_
        show Goes _ _ _ _ T (mkF me_ 65 #[.val (.ref a0), .val (.long q1), .second, .val (.long q2), .second, .val (.int (Int32.ofNat (own_pos ts q1))), .val (.int i6)] [(.long (N3 ((f + i6) &&& (3 : Int32)).toNatClampNeg)), (.int ((f + i6) &&& (3 : Int32))), (.ref gN)])
        refine Goes.go (fun _ => XS.lloadN S.here B.x rfl (B.d d_prog_25_method_9_65) rfl) ?_
        show Goes _ _ _ _ T (mkF me_ 66 #[.val (.ref a0), .val (.long q1), .second, .val (.long q2), .second, .val (.int (Int32.ofNat (own_pos ts q1))), .val (.int i6)] [(.long q2), (.long (N3 ((f + i6) &&& (3 : Int32)).toNatClampNeg)), (.int ((f + i6) &&& (3 : Int32))), (.ref gN)])
        refine Goes.go (fun _ => XS.ladd S.here B.x rfl (B.d d_prog_25_method_9_66) rfl) ?_
        show Goes _ _ _ _ T (mkF me_ 67 #[.val (.ref a0), .val (.long q1), .second, .val (.long q2), .second, .val (.int (Int32.ofNat (own_pos ts q1))), .val (.int i6)] [(.long ((N3 ((f + i6) &&& (3 : Int32)).toNatClampNeg) + q2)), (.int ((f + i6) &&& (3 : Int32))), (.ref gN)])
        refine Goes.lastore S B A_gN (own_m3 _).1 (own_m3 _).2 g_gN d_prog_25_method_9_67 ?_
        intro T h S W A_gN
        replace K := K.wr W (Or.inl (by simp))
        replace E_a0 := E_a0.wr W
        replace F_a0_instants := F_a0_instants.other W (Or.inl ne_a0__gN)
        replace F_a0_lastNumbers := F_a0_lastNumbers.other W (Or.inl ne_a0__gN)
        replace F_a0_first := F_a0_first.other W (Or.inl ne_a0__gN)
        replace F_a0_size := F_a0_size.other W (Or.inl ne_a0__gN)
        replace F_a0_dropped := F_a0_dropped.other W (Or.inl ne_a0__gN)
        replace A_gI := A_gI.other W ne_gI__gN
        replace A_gN : Ary Z h gN .long 4 (aup (fun i => (.long (N3 i))) ((f + i6) &&& (3 : Int32)).toNatClampNeg (.long ((N3 ((f + i6) &&& (3 : Int32)).toNatClampNeg) + q2))) := A_gN
        rw [aup_long] at A_gN
        show Goes _ _ _ _ T (mkF me_ 68 #[.val (.ref a0), .val (.long q1), .second, .val (.long q2), .second, .val (.int (Int32.ofNat (own_pos ts q1))), .val (.int i6)] [])
        refine Goes.go (fun _ => XS.iinc S.here B.x rfl (B.d d_prog_25_method_9_68) rfl (l' := #[.val (.ref a0), .val (.long q1), .second, .val (.long q2), .second, .val (.int (Int32.ofNat (own_pos ts q1))), .val (.int (i6 + (1 : Int32)))]) rfl) ?_
        show Goes _ _ _ _ T (mkF me_ 71 #[.val (.ref a0), .val (.long q1), .second, .val (.long q2), .second, .val (.int (Int32.ofNat (own_pos ts q1))), .val (.int (i6 + (1 : Int32)))] [])
        refine Goes.go (fun _ => XS.goto S.here B.x rfl (pc0 := 71) (pc' := 44) rfl (B.d d_prog_25_method_9_71) (by decide) (by decide)) ?_
        show Goes _ _ _ _ T (mkF me_ 44 #[.val (.ref a0), .val (.long q1), .second, .val (.long q2), .second, .val (.int (Int32.ofNat (own_pos ts q1))), .val (.int (i6 + (1 : Int32)))] [])
        exact ih T _ (i6 + (1 : Int32)) (aup N3 ((f + i6) &&& (3 : Int32)).toNatClampNeg ((N3 ((f + i6) &&& (3 : Int32)).toNatClampNeg) + q2)) S K E_a0 F_a0_instants F_a0_lastNumbers F_a0_first F_a0_size F_a0_dropped A_gI A_gN (by omega) (own_inc hQ2 hkl hi) (own_ads hQ2 hkl hi ha)
    exact LP2 ((own_ti ts q1).length - (own_pos ts q1)) T _ (Int32.ofNat (own_pos ts q1)) N2 S K E_a0 F_a0_instants F_a0_lastNumbers F_a0_first F_a0_size F_a0_dropped A_gI A_gN (Nat.le_refl _) (own_st hl) (own_ad0 own_tle)
  refine Goes.go (fun _ => XS.iload S.here B.x rfl (B.d d_prog_25_method_9_7) rfl) ?_
  show Goes _ _ _ _ T (mkF me_ 9 #[.val (.ref a0), .val (.long q1), .second, .val (.long q2), .second, .val (.int (Int32.ofNat (own_pos ts q1))), .unset] [(.int (Int32.ofNat (own_pos ts q1)))])
  refine Goes.go (fun _ => XS.aloadN S.here B.x rfl (B.d d_prog_25_method_9_9) rfl rfl) ?_
  show Goes _ _ _ _ T (mkF me_ 10 #[.val (.ref a0), .val (.long q1), .second, .val (.long q2), .second, .val (.int (Int32.ofNat (own_pos ts q1))), .unset] [(.ref a0), (.int (Int32.ofNat (own_pos ts q1)))])
  refine Goes.getF S B (w30 hw) F_a0_size d_prog_25_method_9_10 ?_
  intro T S
  show Goes _ _ _ _ T (mkF me_ 13 #[.val (.ref a0), .val (.long q1), .second, .val (.long q2), .second, .val (.int (Int32.ofNat (own_pos ts q1))), .unset] [(.int sz), (.int (Int32.ofNat (own_pos ts q1)))])
  by_cases hc13 : (Int32.ofNat (own_pos ts q1)) = sz
  · skip
    refine Goes.go (fun _ => XS.icmpYes S.here B.x rfl (pc0 := 13) (pc' := 27) rfl (B.d d_prog_25_method_9_13) rfl (teq hc13).1 (by decide) (by decide)) ?_
    show Goes _ _ _ _ T (mkF me_ 27 #[.val (.ref a0), .val (.long q1), .second, .val (.long q2), .second, .val (.int (Int32.ofNat (own_pos ts q1))), .unset] [])
    refine Goes.go (fun _ => XS.aloadN S.here B.x rfl (B.d d_prog_25_method_9_27) rfl rfl) ?_
    show Goes _ _ _ _ T (mkF me_ 28 #[.val (.ref a0), .val (.long q1), .second, .val (.long q2), .second, .val (.int (Int32.ofNat (own_pos ts q1))), .unset] [(.ref a0)])
    refine Goes.go (fun _ => XS.iload S.here B.x rfl (B.d d_prog_25_method_9_28) rfl) ?_
    show Goes _ _ _ _ T (mkF me_ 30 #[.val (.ref a0), .val (.long q1), .second, .val (.long q2), .second, .val (.int (Int32.ofNat (own_pos ts q1))), .unset] [(.int (Int32.ofNat (own_pos ts q1))), (.ref a0)])
    refine Goes.go (fun _ => XS.lloadN S.here B.x rfl (B.d d_prog_25_method_9_30) rfl) ?_
    show Goes _ _ _ _ T (mkF me_ 31 #[.val (.ref a0), .val (.long q1), .second, .val (.long q2), .second, .val (.int (Int32.ofNat (own_pos ts q1))), .unset] [(.long q1), (.int (Int32.ofNat (own_pos ts q1))), (.ref a0)])
    refine Goes.go (fun _ => XS.aloadN S.here B.x rfl (B.d d_prog_25_method_9_31) rfl rfl) ?_
    show Goes _ _ _ _ T (mkF me_ 32 #[.val (.ref a0), .val (.long q1), .second, .val (.long q2), .second, .val (.int (Int32.ofNat (own_pos ts q1))), .unset] [(.ref a0), (.long q1), (.int (Int32.ofNat (own_pos ts q1))), (.ref a0)])
    refine Goes.go (fun _ => XS.iload S.here B.x rfl (B.d d_prog_25_method_9_32) rfl) ?_
    show Goes _ _ _ _ T (mkF me_ 34 #[.val (.ref a0), .val (.long q1), .second, .val (.long q2), .second, .val (.int (Int32.ofNat (own_pos ts q1))), .unset] [(.int (Int32.ofNat (own_pos ts q1))), (.ref a0), (.long q1), (.int (Int32.ofNat (own_pos ts q1))), (.ref a0)])
    refine Goes.callP (argsL := [(.int (Int32.ofNat (own_pos ts q1)))]) (rest := [(.long q1), (.int (Int32.ofNat (own_pos ts q1))), (.ref a0)]) (W := 4) S B (rm_nb l Z aw hw a0 (Int32.ofNat (own_pos ts q1)) gI gN (fun i => (.long (I i))) N f d _ n0 E_a0 F_a0_instants F_a0_lastNumbers F_a0_first F_a0_dropped A_gI A_gN) E_a0 (w32 hw) (w34 hw) (w6 hw) (w33 hw) (w7 hw) (w35 hw) (by decide) (by decide) (by decide) (by decide) (by decide) rfl (lenOf pd_1 rfl) rfl (Nat.le_of_eq rfl) d_prog_25_method_9_34 ?_
    intro v T h S hQ
    obtain ⟨rfl, hh⟩ := hQ
    replace hh := hh.symm
    subst hh
    show Goes _ _ _ _ T (mkF me_ 37 #[.val (.ref a0), .val (.long q1), .second, .val (.long q2), .second, .val (.int (Int32.ofNat (own_pos ts q1))), .unset] [(.long (own_nbf (Int32.ofNat (own_pos ts q1)) d (N ((f + ((Int32.ofNat (own_pos ts q1)) - (1 : Int32))) &&& (3 : Int32)).toNatClampNeg))), (.long q1), (.int (Int32.ofNat (own_pos ts q1))), (.ref a0)])
    refine Goes.callP (argsL := [(.int (Int32.ofNat (own_pos ts q1))), (.long q1), (.long (own_nbf (Int32.ofNat (own_pos ts q1)) d (N ((f + ((Int32.ofNat (own_pos ts q1)) - (1 : Int32))) &&& (3 : Int32)).toNatClampNeg)))]) (rest := []) (W := 0) S B (rm_insert l Z aw hw a0 (Int32.ofNat (own_pos ts q1)) q1 (own_nbf (Int32.ofNat (own_pos ts q1)) d (N ((f + ((Int32.ofNat (own_pos ts q1)) - (1 : Int32))) &&& (3 : Int32)).toNatClampNeg)) gI gN I N f sz d ts ns (own_pos ts q1) _ n0 E_a0 F_a0_instants F_a0_lastNumbers F_a0_first F_a0_size F_a0_dropped A_gI A_gN g_a0 g_gI g_gN ne_a0__gI ne_a0__gN ne_gI__gN hQ hN hsz hll hl (own_pat hl) (own_ple ts q1)) E_a0 (w38 hw) (w40 hw) (w6 hw) (w39 hw) (w7 hw) (w41 hw) (by decide) (by decide) (by decide) (by decide) (by decide) rfl (lenOf pd_3 rfl) rfl (Nat.le_of_eq rfl) d_prog_25_method_9_37 ?_
    intro v T h S hQ
    obtain ⟨u3, u4, rfl, Kc, E_a0', F_a0_instants', F_a0_lastNumbers', F_a0_first', F_a0_size', F_a0_dropped', A_gI', A_gN', hQ2_37, hN2_37⟩ := hQ
    replace K := K.trans Kc (allS (Or.inl (by simp)) (allS (Or.inl (by simp)) (allS (Or.inl (by simp)) all0)))
    replace E_a0 := E_a0'
    replace F_a0_instants := F_a0_instants'
    replace F_a0_lastNumbers := F_a0_lastNumbers'
    replace F_a0_first := F_a0_first'
    replace F_a0_size := F_a0_size'
    replace F_a0_dropped := F_a0_dropped'
    replace A_gI := A_gI'
    replace A_gN := A_gN'
    show Goes _ _ _ _ T (mkF me_ 40 #[.val (.ref a0), .val (.long q1), .second, .val (.long q2), .second, .val (.int (Int32.ofNat (own_pos ts q1))), .unset] [])
    exact J1 T _ u3 u4 (sz + (1 : Int32)) S K E_a0 F_a0_instants F_a0_lastNumbers F_a0_first F_a0_size F_a0_dropped A_gI A_gN (own_ti2 (own_nf1 hQ hsz hc13) hQ2_37) (own_ni2 (own_nf1 hQ hsz hc13) hQ hN hll hl hN2_37) (own_sz2 (own_nf1 hQ hsz hc13) hsz hl)
  · skip
    refine Goes.go (fun _ => XS.icmpNo S.here B.x rfl (B.d d_prog_25_method_9_13) rfl (feq hc13).1) ?_
    show Goes _ _ _ _ T (mkF me_ 16 #[.val (.ref a0), .val (.long q1), .second, .val (.long q2), .second, .val (.int (Int32.ofNat (own_pos ts q1))), .unset] [])
    refine Goes.go (fun _ => XS.aloadN S.here B.x rfl (B.d d_prog_25_method_9_16) rfl rfl) ?_
    show Goes _ _ _ _ T (mkF me_ 17 #[.val (.ref a0), .val (.long q1), .second, .val (.long q2), .second, .val (.int (Int32.ofNat (own_pos ts q1))), .unset] [(.ref a0)])
    refine Goes.go (fun _ => XS.iload S.here B.x rfl (B.d d_prog_25_method_9_17) rfl) ?_
    show Goes _ _ _ _ T (mkF me_ 19 #[.val (.ref a0), .val (.long q1), .second, .val (.long q2), .second, .val (.int (Int32.ofNat (own_pos ts q1))), .unset] [(.int (Int32.ofNat (own_pos ts q1))), (.ref a0)])
    refine Goes.callP (argsL := [(.int (Int32.ofNat (own_pos ts q1)))]) (rest := []) (W := 0) S B (rm_instant l Z aw hw a0 (Int32.ofNat (own_pos ts q1)) gI I f _ n0 E_a0 F_a0_first F_a0_instants A_gI) E_a0 (w48 hw) (w50 hw) (w6 hw) (w49 hw) (w7 hw) (w51 hw) (by decide) (by decide) (by decide) (by decide) (by decide) rfl (lenOf pd_1 rfl) rfl (Nat.le_of_eq rfl) d_prog_25_method_9_19 ?_
    intro v T h S hQ
    obtain ⟨rfl, hh⟩ := hQ
    replace hh := hh.symm
    subst hh
    show Goes _ _ _ _ T (mkF me_ 22 #[.val (.ref a0), .val (.long q1), .second, .val (.long q2), .second, .val (.int (Int32.ofNat (own_pos ts q1))), .unset] [(.long (I ((f + (Int32.ofNat (own_pos ts q1))) &&& (3 : Int32)).toNatClampNeg))])
    refine Goes.go (fun _ => XS.lloadN S.here B.x rfl (B.d d_prog_25_method_9_22) rfl) ?_
    show Goes _ _ _ _ T (mkF me_ 23 #[.val (.ref a0), .val (.long q1), .second, .val (.long q2), .second, .val (.int (Int32.ofNat (own_pos ts q1))), .unset] [(.long q1), (.long (I ((f + (Int32.ofNat (own_pos ts q1))) &&& (3 : Int32)).toNatClampNeg))])
    refine Goes.go (fun _ => XS.lcmp S.here B.x rfl (B.d d_prog_25_method_9_23) rfl) ?_
    show Goes _ _ _ _ T (mkF me_ 24 #[.val (.ref a0), .val (.long q1), .second, .val (.long q2), .second, .val (.int (Int32.ofNat (own_pos ts q1))), .unset] [(.int (lcmpW (I ((f + (Int32.ofNat (own_pos ts q1))) &&& (3 : Int32)).toNatClampNeg) q1))])
    by_cases hc24 : (I ((f + (Int32.ofNat (own_pos ts q1))) &&& (3 : Int32)).toNatClampNeg) = q1
    · skip
      refine Goes.go (fun _ => XS.ifYes S.here B.x rfl (pc0 := 24) (pc' := 40) rfl (B.d d_prog_25_method_9_24) rfl ((if0 _ _).trans (teq ((lw_eq (I ((f + (Int32.ofNat (own_pos ts q1))) &&& (3 : Int32)).toNatClampNeg) q1).mpr hc24)).1) (by decide) (by decide)) ?_
      show Goes _ _ _ _ T (mkF me_ 40 #[.val (.ref a0), .val (.long q1), .second, .val (.long q2), .second, .val (.int (Int32.ofNat (own_pos ts q1))), .unset] [])
      exact J1 T _ I N sz S K E_a0 F_a0_instants F_a0_lastNumbers F_a0_first F_a0_size F_a0_dropped A_gI A_gN (own_ti1 hQ (own_fd hQ hsz hc13 hc24)) (own_ni1 hN (own_fd hQ hsz hc13 hc24)) (own_sz1 hsz (own_fd hQ hsz hc13 hc24))
    · skip
      refine Goes.go (fun _ => XS.ifNo S.here B.x rfl (B.d d_prog_25_method_9_24) rfl ((if0 _ _).trans (feq (mt (lw_eq (I ((f + (Int32.ofNat (own_pos ts q1))) &&& (3 : Int32)).toNatClampNeg) q1).mp hc24)).1)) ?_
      show Goes _ _ _ _ T (mkF me_ 27 #[.val (.ref a0), .val (.long q1), .second, .val (.long q2), .second, .val (.int (Int32.ofNat (own_pos ts q1))), .unset] [])
      refine Goes.go (fun _ => XS.aloadN S.here B.x rfl (B.d d_prog_25_method_9_27) rfl rfl) ?_
      show Goes _ _ _ _ T (mkF me_ 28 #[.val (.ref a0), .val (.long q1), .second, .val (.long q2), .second, .val (.int (Int32.ofNat (own_pos ts q1))), .unset] [(.ref a0)])
      refine Goes.go (fun _ => XS.iload S.here B.x rfl (B.d d_prog_25_method_9_28) rfl) ?_
      show Goes _ _ _ _ T (mkF me_ 30 #[.val (.ref a0), .val (.long q1), .second, .val (.long q2), .second, .val (.int (Int32.ofNat (own_pos ts q1))), .unset] [(.int (Int32.ofNat (own_pos ts q1))), (.ref a0)])
      refine Goes.go (fun _ => XS.lloadN S.here B.x rfl (B.d d_prog_25_method_9_30) rfl) ?_
      show Goes _ _ _ _ T (mkF me_ 31 #[.val (.ref a0), .val (.long q1), .second, .val (.long q2), .second, .val (.int (Int32.ofNat (own_pos ts q1))), .unset] [(.long q1), (.int (Int32.ofNat (own_pos ts q1))), (.ref a0)])
      refine Goes.go (fun _ => XS.aloadN S.here B.x rfl (B.d d_prog_25_method_9_31) rfl rfl) ?_
      show Goes _ _ _ _ T (mkF me_ 32 #[.val (.ref a0), .val (.long q1), .second, .val (.long q2), .second, .val (.int (Int32.ofNat (own_pos ts q1))), .unset] [(.ref a0), (.long q1), (.int (Int32.ofNat (own_pos ts q1))), (.ref a0)])
      refine Goes.go (fun _ => XS.iload S.here B.x rfl (B.d d_prog_25_method_9_32) rfl) ?_
      show Goes _ _ _ _ T (mkF me_ 34 #[.val (.ref a0), .val (.long q1), .second, .val (.long q2), .second, .val (.int (Int32.ofNat (own_pos ts q1))), .unset] [(.int (Int32.ofNat (own_pos ts q1))), (.ref a0), (.long q1), (.int (Int32.ofNat (own_pos ts q1))), (.ref a0)])
      refine Goes.callP (argsL := [(.int (Int32.ofNat (own_pos ts q1)))]) (rest := [(.long q1), (.int (Int32.ofNat (own_pos ts q1))), (.ref a0)]) (W := 4) S B (rm_nb l Z aw hw a0 (Int32.ofNat (own_pos ts q1)) gI gN (fun i => (.long (I i))) N f d _ n0 E_a0 F_a0_instants F_a0_lastNumbers F_a0_first F_a0_dropped A_gI A_gN) E_a0 (w32 hw) (w34 hw) (w6 hw) (w33 hw) (w7 hw) (w35 hw) (by decide) (by decide) (by decide) (by decide) (by decide) rfl (lenOf pd_1 rfl) rfl (Nat.le_of_eq rfl) d_prog_25_method_9_34 ?_
      intro v T h S hQ
      obtain ⟨rfl, hh⟩ := hQ
      replace hh := hh.symm
      subst hh
      show Goes _ _ _ _ T (mkF me_ 37 #[.val (.ref a0), .val (.long q1), .second, .val (.long q2), .second, .val (.int (Int32.ofNat (own_pos ts q1))), .unset] [(.long (own_nbf (Int32.ofNat (own_pos ts q1)) d (N ((f + ((Int32.ofNat (own_pos ts q1)) - (1 : Int32))) &&& (3 : Int32)).toNatClampNeg))), (.long q1), (.int (Int32.ofNat (own_pos ts q1))), (.ref a0)])
      refine Goes.callP (argsL := [(.int (Int32.ofNat (own_pos ts q1))), (.long q1), (.long (own_nbf (Int32.ofNat (own_pos ts q1)) d (N ((f + ((Int32.ofNat (own_pos ts q1)) - (1 : Int32))) &&& (3 : Int32)).toNatClampNeg)))]) (rest := []) (W := 0) S B (rm_insert l Z aw hw a0 (Int32.ofNat (own_pos ts q1)) q1 (own_nbf (Int32.ofNat (own_pos ts q1)) d (N ((f + ((Int32.ofNat (own_pos ts q1)) - (1 : Int32))) &&& (3 : Int32)).toNatClampNeg)) gI gN I N f sz d ts ns (own_pos ts q1) _ n0 E_a0 F_a0_instants F_a0_lastNumbers F_a0_first F_a0_size F_a0_dropped A_gI A_gN g_a0 g_gI g_gN ne_a0__gI ne_a0__gN ne_gI__gN hQ hN hsz hll hl (own_pat hl) (own_ple ts q1)) E_a0 (w38 hw) (w40 hw) (w6 hw) (w39 hw) (w7 hw) (w41 hw) (by decide) (by decide) (by decide) (by decide) (by decide) rfl (lenOf pd_3 rfl) rfl (Nat.le_of_eq rfl) d_prog_25_method_9_37 ?_
      intro v T h S hQ
      obtain ⟨u5, u6, rfl, Kc, E_a0', F_a0_instants', F_a0_lastNumbers', F_a0_first', F_a0_size', F_a0_dropped', A_gI', A_gN', hQ2_37, hN2_37⟩ := hQ
      replace K := K.trans Kc (allS (Or.inl (by simp)) (allS (Or.inl (by simp)) (allS (Or.inl (by simp)) all0)))
      replace E_a0 := E_a0'
      replace F_a0_instants := F_a0_instants'
      replace F_a0_lastNumbers := F_a0_lastNumbers'
      replace F_a0_first := F_a0_first'
      replace F_a0_size := F_a0_size'
      replace F_a0_dropped := F_a0_dropped'
      replace A_gI := A_gI'
      replace A_gN := A_gN'
      show Goes _ _ _ _ T (mkF me_ 40 #[.val (.ref a0), .val (.long q1), .second, .val (.long q2), .second, .val (.int (Int32.ofNat (own_pos ts q1))), .unset] [])
      exact J1 T _ u5 u6 (sz + (1 : Int32)) S K E_a0 F_a0_instants F_a0_lastNumbers F_a0_first F_a0_size F_a0_dropped A_gI A_gN (own_ti2 (own_nf2 hQ hsz hc13 hc24) hQ2_37) (own_ni2 (own_nf2 hQ hsz hc13 hc24) hQ hN hll hl hN2_37) (own_sz2 (own_nf2 hQ hsz hc13 hc24) hsz hl)
theorem ef_rm_keep (m : MethodId) (a0 : Addr) (q1 : Int64) : entryFrame m #[(.ref a0), (.long q1)] 7 = mkF m 0 #[.val (.ref a0), .val (.long q1), .second, .unset, .unset, .unset, .unset] [] := by first | (simp [entryFrame, mkF, argsToLocals, Value.category]; done) | rfl
def Q_rm_keep (Z : State) (a0 : Addr) (q1 : Int64) (gI : Addr) (gN : Addr) (I : Nat → Int64) (N : Nat → Int64) (f : Int32) (sz : Int32) (d : Int64) (ts : List Int64) (ns : List Int64) (h0 : Heap) (n0 : Nat) (v : Option Value) (h : Heap) : Prop := ∃ (f3 : Int32) (s3 : Int32) (d3 : Int64) (ts3 : List Int64) (ns3 : List Int64), v = none ∧ Keep h0 h [a0] ∧ Exa Z h a0 "com/example/bucket_brigade/bucketbrigade/PermitLog" ∧ Fld Z h a0 "com/example/bucket_brigade/bucketbrigade/PermitLog" "instants" "[J" (.ref gI) ∧ Fld Z h a0 "com/example/bucket_brigade/bucketbrigade/PermitLog" "lastNumbers" "[J" (.ref gN) ∧ Fld Z h a0 "com/example/bucket_brigade/bucketbrigade/PermitLog" "first" "I" (.int f3) ∧ Fld Z h a0 "com/example/bucket_brigade/bucketbrigade/PermitLog" "size" "I" (.int s3) ∧ Fld Z h a0 "com/example/bucket_brigade/bucketbrigade/PermitLog" "dropped" "J" (.long d3) ∧ Ary Z h gI .long 4 (fun i => (.long (I i))) ∧ Ary Z h gN .long 4 (fun i => (.long (N i))) ∧ ((d3, ts3, ns3) = own_kp d ts ns ((own_tt d ns) - q1)) ∧ (own_Q f3 I ts3) ∧ (own_Q f3 N ns3) ∧ (s3.toInt = (ts3.length : Int)) ∧ (ns3.length = ts3.length) ∧ (own_M d3 ns3)
set_option maxRecDepth 65536 in
set_option maxHeartbeats 40000000 in
theorem rm_keep (l : Launch) (Z : State) (aw : Array Value) (hw : ∀ d ∈ tables_1, d.before aw Z = true) (a0 : Addr) (q1 : Int64) (gI : Addr) (gN : Addr) (I : Nat → Int64) (N : Nat → Int64) (f : Int32) (sz : Int32) (d : Int64) (ts : List Int64) (ns : List Int64) (h0 : Heap) (n0 : Nat) (E_a0 : Exa Z h0 a0 "com/example/bucket_brigade/bucketbrigade/PermitLog") (F_a0_instants : Fld Z h0 a0 "com/example/bucket_brigade/bucketbrigade/PermitLog" "instants" "[J" (.ref gI)) (F_a0_lastNumbers : Fld Z h0 a0 "com/example/bucket_brigade/bucketbrigade/PermitLog" "lastNumbers" "[J" (.ref gN)) (F_a0_first : Fld Z h0 a0 "com/example/bucket_brigade/bucketbrigade/PermitLog" "first" "I" (.int f)) (F_a0_size : Fld Z h0 a0 "com/example/bucket_brigade/bucketbrigade/PermitLog" "size" "I" (.int sz)) (F_a0_dropped : Fld Z h0 a0 "com/example/bucket_brigade/bucketbrigade/PermitLog" "dropped" "J" (.long d)) (A_gI : Ary Z h0 gI .long 4 (fun i => (.long (I i)))) (A_gN : Ary Z h0 gN .long 4 (fun i => (.long (N i)))) (g_a0 : n0 ≤ a0) (ne_a0__gI : a0 ≠ gI) (ne_a0__gN : a0 ≠ gN) (ne_gI__gN : gI ≠ gN) (hQ : own_Q f I ts) (hN : own_Q f N ns) (hsz : sz.toInt = (ts.length : Int)) (hll : ns.length = ts.length) (hM : own_M d ns) (hq : 0 ≤ q1.toInt) :
    Con l Z (⟨"com/example/bucket_brigade/bucketbrigade/PermitLog", "keepNewest", "(J)V"⟩ : MethodName) prog_25_method_10_code 7 none ({ frames := 3, cells := 0, slots := 0, locals := 40 } : Room) #[(.ref a0), (.long q1)] h0 n0 (Q_rm_keep Z a0 q1 gI gN I N f sz d ts ns h0 n0) := by
  refine Con.body (plainFor_of_name pn_0) ?_
  intro pr_ en_ st_ me_ below meth co_ T B S
  refine Goes.cast (ef_rm_keep me_ a0 q1) ?_
  have K : Keep h0 h0 [a0] := Keep.refl _ _
  refine Goes.go (fun _ => XS.aloadN S.here B.x rfl (B.d d_prog_25_method_10_0) rfl rfl) ?_
  show Goes _ _ _ _ T (mkF me_ 1 #[.val (.ref a0), .val (.long q1), .second, .unset, .unset, .unset, .unset] [(.ref a0)])
  refine Goes.callV (argsL := []) (rest := []) (W := 0) S B (rm_permits l Z aw hw a0 gI gN (fun i => (.long (I i))) N f sz d _ n0 E_a0 F_a0_instants F_a0_lastNumbers F_a0_first F_a0_size F_a0_dropped A_gI A_gN) E_a0 (w57 hw) (w58 hw) (w60 hw) (w59 hw) (w7 hw) (w61 hw) (by decide) (by decide) (by decide) (by decide) (by decide) rfl (lenOf pd_4 rfl) rfl (Nat.le_of_eq rfl) d_prog_25_method_10_1 ?_
  intro v T h S hQ
  obtain ⟨rfl, hh⟩ := hQ
  replace hh := hh.symm
  subst hh
  show Goes _ _ _ _ T (mkF me_ 4 #[.val (.ref a0), .val (.long q1), .second, .unset, .unset, .unset, .unset] [(.long (own_perm sz d (N ((f + (sz - (1 : Int32))) &&& (3 : Int32)).toNatClampNeg)))])
  refine Goes.go (fun _ => XS.lloadN S.here B.x rfl (B.d d_prog_25_method_10_4) rfl) ?_
  show Goes _ _ _ _ T (mkF me_ 5 #[.val (.ref a0), .val (.long q1), .second, .unset, .unset, .unset, .unset] [(.long q1), (.long (own_perm sz d (N ((f + (sz - (1 : Int32))) &&& (3 : Int32)).toNatClampNeg)))])
  refine Goes.go (fun _ => XS.lsub S.here B.x rfl (B.d d_prog_25_method_10_5) rfl) ?_
  show Goes _ _ _ _ T (mkF me_ 6 #[.val (.ref a0), .val (.long q1), .second, .unset, .unset, .unset, .unset] [(.long ((own_perm sz d (N ((f + (sz - (1 : Int32))) &&& (3 : Int32)).toNatClampNeg)) - q1))])
  refine Goes.go (fun _ => XS.lstoreN S.here B.x rfl (B.d d_prog_25_method_10_6) rfl (l' := #[.val (.ref a0), .val (.long q1), .second, .val (.long ((own_perm sz d (N ((f + (sz - (1 : Int32))) &&& (3 : Int32)).toNatClampNeg)) - q1)), .second, .unset, .unset]) rfl) ?_
  show Goes _ _ _ _ T (mkF me_ 7 #[.val (.ref a0), .val (.long q1), .second, .val (.long ((own_perm sz d (N ((f + (sz - (1 : Int32))) &&& (3 : Int32)).toNatClampNeg)) - q1)), .second, .unset, .unset] [])
  have LP1 : ∀ (k : Nat) (T : State) (h : Heap) (e3 : Int64) (s5 : Slot) (s6 : Slot) (f2 : Int32) (s2 : Int32) (d2 : Int64) (ts2 : List Int64) (ns2 : List Int64), Sd pr_ l en_ ({ frames := 3, cells := 0, slots := 0, locals := 40 } : Room) st_ me_ #[(.ref a0), (.long q1)] below meth co_ T h n0 0 0 → Keep h0 h [a0] → Exa Z h a0 "com/example/bucket_brigade/bucketbrigade/PermitLog" → Fld Z h a0 "com/example/bucket_brigade/bucketbrigade/PermitLog" "instants" "[J" (.ref gI) → Fld Z h a0 "com/example/bucket_brigade/bucketbrigade/PermitLog" "lastNumbers" "[J" (.ref gN) → Fld Z h a0 "com/example/bucket_brigade/bucketbrigade/PermitLog" "first" "I" (.int f2) → Fld Z h a0 "com/example/bucket_brigade/bucketbrigade/PermitLog" "size" "I" (.int s2) → Fld Z h a0 "com/example/bucket_brigade/bucketbrigade/PermitLog" "dropped" "J" (.long d2) → Ary Z h gI .long 4 (fun i => (.long (I i))) → Ary Z h gN .long 4 (fun i => (.long (N i))) → own_Two s5 s6 → own_kp d2 ts2 ns2 e3 = own_kp d ts ns ((own_tt d ns) - q1) → own_Q f2 I ts2 → own_Q f2 N ns2 → s2.toInt = (ts2.length : Int) → ns2.length = ts2.length → own_M d2 ns2 → e3.toInt ≤ (own_tt d2 ns2).toInt → (if (0 : Int64) < e3 then ts2.length + 1 else 0) ≤ k → Goes pr_.tables en_ below (Fine st_ n0 (Q_rm_keep Z a0 q1 gI gN I N f sz d ts ns h0 n0) ({ frames := 3, cells := 0, slots := 0, locals := 40 } : Room).cells ({ frames := 3, cells := 0, slots := 0, locals := 40 } : Room).slots) T (mkF me_ 7 #[.val (.ref a0), .val (.long q1), .second, .val (.long e3), .second, s5, s6] []) := by
    intro k
    induction k with
    | zero =>
      intro T h e3 s5 s6 f2 s2 d2 ts2 ns2 S K E_a0 F_a0_instants F_a0_lastNumbers F_a0_first F_a0_size F_a0_dropped A_gI A_gN hs5 hr2 hQ2 hN2 hs2 hl2 hM2 he hk
      refine Goes.go (fun _ => XS.lloadN S.here B.x rfl (B.d d_prog_25_method_10_7) rfl) ?_
      show Goes _ _ _ _ T (mkF me_ 8 #[.val (.ref a0), .val (.long q1), .second, .val (.long e3), .second, s5, s6] [(.long e3)])
      refine Goes.go (fun _ => XS.lconst S.here B.x rfl (B.d d_prog_25_method_10_8)) ?_
      show Goes _ _ _ _ T (mkF me_ 9 #[.val (.ref a0), .val (.long q1), .second, .val (.long e3), .second, s5, s6] [(.long (0 : Int64)), (.long e3)])
      refine Goes.go (fun _ => XS.lcmp S.here B.x rfl (B.d d_prog_25_method_10_9) rfl) ?_
      show Goes _ _ _ _ T (mkF me_ 10 #[.val (.ref a0), .val (.long q1), .second, .val (.long e3), .second, s5, s6] [(.int (lcmpW e3 (0 : Int64)))])
      refine Goes.go (fun _ => XS.ifYes S.here B.x rfl (pc0 := 10) (pc' := 59) rfl (B.d d_prog_25_method_10_10) rfl ((if0 _ _).trans (flt (mt (lw_gt e3 (0 : Int64)).mp (show ¬ ((0 : Int64) < e3) from own_kz hk))).2.2.2) (by decide) (by decide)) ?_
      show Goes _ _ _ _ T (mkF me_ 59 #[.val (.ref a0), .val (.long q1), .second, .val (.long e3), .second, s5, s6] [])
      refine Goes.retV S B d_prog_25_method_10_59 (by decide) (by decide) ?_
      exact ⟨_, _, _, _, _, rfl, K, E_a0, F_a0_instants, F_a0_lastNumbers, F_a0_first, F_a0_size, F_a0_dropped, A_gI, A_gN, (own_kend hr2 (by first | exact own_kz hk | assumption)), hQ2, hN2, hs2, hl2, hM2⟩
    | succ k ih =>
      intro T h e3 s5 s6 f2 s2 d2 ts2 ns2 S K E_a0 F_a0_instants F_a0_lastNumbers F_a0_first F_a0_size F_a0_dropped A_gI A_gN hs5 hr2 hQ2 hN2 hs2 hl2 hM2 he hk
      refine Goes.go (fun _ => XS.lloadN S.here B.x rfl (B.d d_prog_25_method_10_7) rfl) ?_
      show Goes _ _ _ _ T (mkF me_ 8 #[.val (.ref a0), .val (.long q1), .second, .val (.long e3), .second, s5, s6] [(.long e3)])
      refine Goes.go (fun _ => XS.lconst S.here B.x rfl (B.d d_prog_25_method_10_8)) ?_
      show Goes _ _ _ _ T (mkF me_ 9 #[.val (.ref a0), .val (.long q1), .second, .val (.long e3), .second, s5, s6] [(.long (0 : Int64)), (.long e3)])
      refine Goes.go (fun _ => XS.lcmp S.here B.x rfl (B.d d_prog_25_method_10_9) rfl) ?_
      show Goes _ _ _ _ T (mkF me_ 10 #[.val (.ref a0), .val (.long q1), .second, .val (.long e3), .second, s5, s6] [(.int (lcmpW e3 (0 : Int64)))])
      by_cases hc10 : (0 : Int64) < e3
      · skip
        refine Goes.go (fun _ => XS.ifNo S.here B.x rfl (B.d d_prog_25_method_10_10) rfl ((if0 _ _).trans (tlt ((lw_gt e3 (0 : Int64)).mpr hc10)).2.2.2)) ?_
        show Goes _ _ _ _ T (mkF me_ 13 #[.val (.ref a0), .val (.long q1), .second, .val (.long e3), .second, s5, s6] [])
        obtain ⟨t0x, trx, n0x, nrx, rfl, rfl⟩ := own_ne hc10 he hl2
        have hx := own_get (p := 0) (i := 0) hN2 own_e0 rfl
        refine Goes.go (fun _ => XS.aloadN S.here B.x rfl (B.d d_prog_25_method_10_13) rfl rfl) ?_
        show Goes _ _ _ _ T (mkF me_ 14 #[.val (.ref a0), .val (.long q1), .second, .val (.long e3), .second, s5, s6] [(.ref a0)])
        refine Goes.go (fun _ => XS.iconst S.here B.x rfl (B.d d_prog_25_method_10_14)) ?_
        show Goes _ _ _ _ T (mkF me_ 15 #[.val (.ref a0), .val (.long q1), .second, .val (.long e3), .second, s5, s6] [(.int (0 : Int32)), (.ref a0)])
        refine Goes.callP (argsL := [(.int (0 : Int32))]) (rest := []) (W := 0) S B (rm_last l Z aw hw a0 (0 : Int32) gI gN (fun i => (.long (I i))) N f2 _ n0 E_a0 F_a0_first F_a0_instants F_a0_lastNumbers A_gI A_gN) E_a0 (w62 hw) (w64 hw) (w6 hw) (w63 hw) (w7 hw) (w65 hw) (by decide) (by decide) (by decide) (by decide) (by decide) rfl (lenOf pd_1 rfl) rfl (Nat.le_of_eq rfl) d_prog_25_method_10_15 ?_
        intro v T h S hQ
        obtain ⟨rfl, hh⟩ := hQ
        replace hh := hh.symm
        subst hh
        show Goes _ _ _ _ T (mkF me_ 18 #[.val (.ref a0), .val (.long q1), .second, .val (.long e3), .second, s5, s6] [(.long (N ((f2 + (0 : Int32)) &&& (3 : Int32)).toNatClampNeg))])
        rw [show (N ((f2 + (0 : Int32)) &&& (3 : Int32)).toNatClampNeg) = n0x from hx]
        show Goes _ _ _ _ T (mkF me_ 18 #[.val (.ref a0), .val (.long q1), .second, .val (.long e3), .second, s5, s6] [(.long n0x)])
        refine Goes.go (fun _ => XS.aloadN S.here B.x rfl (B.d d_prog_25_method_10_18) rfl rfl) ?_
        show Goes _ _ _ _ T (mkF me_ 19 #[.val (.ref a0), .val (.long q1), .second, .val (.long e3), .second, s5, s6] [(.ref a0), (.long n0x)])
        refine Goes.getF S B (w36 hw) F_a0_dropped d_prog_25_method_10_19 ?_
        intro T S
        show Goes _ _ _ _ T (mkF me_ 22 #[.val (.ref a0), .val (.long q1), .second, .val (.long e3), .second, s5, s6] [(.long d2), (.long n0x)])
        refine Goes.go (fun _ => XS.lsub S.here B.x rfl (B.d d_prog_25_method_10_22) rfl) ?_
        show Goes _ _ _ _ T (mkF me_ 23 #[.val (.ref a0), .val (.long q1), .second, .val (.long e3), .second, s5, s6] [(.long (n0x - d2))])
        refine Goes.go (fun _ => XS.lstore S.here B.x rfl (B.d d_prog_25_method_10_23) rfl (l' := #[.val (.ref a0), .val (.long q1), .second, .val (.long e3), .second, .val (.long (n0x - d2)), .second]) (by rcases hs5 with ⟨rfl, rfl⟩ | ⟨_, rfl, rfl⟩ <;> rfl)) ?_
        show Goes _ _ _ _ T (mkF me_ 25 #[.val (.ref a0), .val (.long q1), .second, .val (.long e3), .second, .val (.long (n0x - d2)), .second] [])
        refine Goes.go (fun _ => XS.lload S.here B.x rfl (B.d d_prog_25_method_10_25) rfl) ?_
        show Goes _ _ _ _ T (mkF me_ 27 #[.val (.ref a0), .val (.long q1), .second, .val (.long e3), .second, .val (.long (n0x - d2)), .second] [(.long (n0x - d2))])
        refine Goes.go (fun _ => XS.lloadN S.here B.x rfl (B.d d_prog_25_method_10_27) rfl) ?_
        show Goes _ _ _ _ T (mkF me_ 28 #[.val (.ref a0), .val (.long q1), .second, .val (.long e3), .second, .val (.long (n0x - d2)), .second] [(.long e3), (.long (n0x - d2))])
        refine Goes.go (fun _ => XS.lcmp S.here B.x rfl (B.d d_prog_25_method_10_28) rfl) ?_
        show Goes _ _ _ _ T (mkF me_ 29 #[.val (.ref a0), .val (.long q1), .second, .val (.long e3), .second, .val (.long (n0x - d2)), .second] [(.int (lcmpW (n0x - d2) e3))])
        by_cases hc29 : e3 < (n0x - d2)
        · skip
          refine Goes.go (fun _ => XS.ifYes S.here B.x rfl (pc0 := 29) (pc' := 44) rfl (B.d d_prog_25_method_10_29) rfl ((if0 _ _).trans (tlt ((lw_gt (n0x - d2) e3).mpr hc29)).2.2.1) (by decide) (by decide)) ?_
          show Goes _ _ _ _ T (mkF me_ 44 #[.val (.ref a0), .val (.long q1), .second, .val (.long e3), .second, .val (.long (n0x - d2)), .second] [])
          refine Goes.go (fun _ => XS.aloadN S.here B.x rfl (B.d d_prog_25_method_10_44) rfl rfl) ?_
          show Goes _ _ _ _ T (mkF me_ 45 #[.val (.ref a0), .val (.long q1), .second, .val (.long e3), .second, .val (.long (n0x - d2)), .second] [(.ref a0)])
          refine Goes.go (fun _ => XS.dup S.here B.x rfl (B.d d_prog_25_method_10_45) rfl rfl) ?_
          show Goes _ _ _ _ T (mkF me_ 46 #[.val (.ref a0), .val (.long q1), .second, .val (.long e3), .second, .val (.long (n0x - d2)), .second] [(.ref a0), (.ref a0)])
          refine Goes.getF S B (w36 hw) F_a0_dropped d_prog_25_method_10_46 ?_
          intro T S
          show Goes _ _ _ _ T (mkF me_ 49 #[.val (.ref a0), .val (.long q1), .second, .val (.long e3), .second, .val (.long (n0x - d2)), .second] [(.long d2), (.ref a0)])
          refine Goes.go (fun _ => XS.lloadN S.here B.x rfl (B.d d_prog_25_method_10_49) rfl) ?_
          show Goes _ _ _ _ T (mkF me_ 50 #[.val (.ref a0), .val (.long q1), .second, .val (.long e3), .second, .val (.long (n0x - d2)), .second] [(.long e3), (.long d2), (.ref a0)])
          refine Goes.go (fun _ => XS.ladd S.here B.x rfl (B.d d_prog_25_method_10_50) rfl) ?_
          show Goes _ _ _ _ T (mkF me_ 51 #[.val (.ref a0), .val (.long q1), .second, .val (.long e3), .second, .val (.long (n0x - d2)), .second] [(.long (d2 + e3)), (.ref a0)])
          refine Goes.putF (v' := (.long (d2 + e3))) S B (w36 hw) F_a0_dropped E_a0 (Or.inl (w37 hw)) (w6 hw) (ty := .long) (by decide) rfl rfl g_a0 d_prog_25_method_10_51 ?_
          intro T h S W
          replace K := K.wr W (Or.inl (by simp))
          replace E_a0 := E_a0.wr W
          replace F_a0_instants := F_a0_instants.other W (Or.inr (slot_ne (Or.inl (w16 hw)) (Or.inl (w37 hw)) (by decide) (t := (.array .long)) (t' := .long) (by decide) (by decide)))
          replace F_a0_lastNumbers := F_a0_lastNumbers.other W (Or.inr (slot_ne (Or.inl (w18 hw)) (Or.inl (w37 hw)) (by decide) (t := (.array .long)) (t' := .long) (by decide) (by decide)))
          replace F_a0_first := F_a0_first.other W (Or.inr (slot_ne (Or.inl (w47 hw)) (Or.inl (w37 hw)) (by decide) (t := .int) (t' := .long) (by decide) (by decide)))
          replace F_a0_size := F_a0_size.other W (Or.inr (slot_ne (Or.inl (w31 hw)) (Or.inl (w37 hw)) (by decide) (t := .int) (t' := .long) (by decide) (by decide)))
          replace F_a0_dropped := F_a0_dropped.same W
          replace A_gI := A_gI.other W ne_a0__gI.symm
          replace A_gN := A_gN.other W ne_a0__gN.symm
          show Goes _ _ _ _ T (mkF me_ 54 #[.val (.ref a0), .val (.long q1), .second, .val (.long e3), .second, .val (.long (n0x - d2)), .second] [])
          refine Goes.go (fun _ => XS.lconst S.here B.x rfl (B.d d_prog_25_method_10_54)) ?_
          show Goes _ _ _ _ T (mkF me_ 55 #[.val (.ref a0), .val (.long q1), .second, .val (.long e3), .second, .val (.long (n0x - d2)), .second] [(.long (0 : Int64))])
          refine Goes.go (fun _ => XS.lstoreN S.here B.x rfl (B.d d_prog_25_method_10_55) rfl (l' := #[.val (.ref a0), .val (.long q1), .second, .val (.long (0 : Int64)), .second, .val (.long (n0x - d2)), .second]) rfl) ?_
          show Goes _ _ _ _ T (mkF me_ 56 #[.val (.ref a0), .val (.long q1), .second, .val (.long (0 : Int64)), .second, .val (.long (n0x - d2)), .second] [])
          refine Goes.go (fun _ => XS.goto S.here B.x rfl (pc0 := 56) (pc' := 7) rfl (B.d d_prog_25_method_10_56) (by decide) (by decide)) ?_
          show Goes _ _ _ _ T (mkF me_ 7 #[.val (.ref a0), .val (.long q1), .second, .val (.long (0 : Int64)), .second, .val (.long (n0x - d2)), .second] [])
          exact ih T _ (0 : Int64) (.val (.long (n0x - d2))) (.second) f2 s2 (d2 + e3) (t0x :: trx) (n0x :: nrx) S K E_a0 F_a0_instants F_a0_lastNumbers F_a0_first F_a0_size F_a0_dropped A_gI A_gN (Or.inr ⟨_, rfl, rfl⟩) (own_kB hr2 hc10 hc29) hQ2 hN2 hs2 hl2 (own_MB hM2 hc10 hc29) (own_eB (own_MB hM2 hc10 hc29)) (by simp)
        · skip
          refine Goes.go (fun _ => XS.ifNo S.here B.x rfl (B.d d_prog_25_method_10_29) rfl ((if0 _ _).trans (flt (mt (lw_gt (n0x - d2) e3).mp hc29)).2.2.1)) ?_
          show Goes _ _ _ _ T (mkF me_ 32 #[.val (.ref a0), .val (.long q1), .second, .val (.long e3), .second, .val (.long (n0x - d2)), .second] [])
          refine Goes.go (fun _ => XS.aloadN S.here B.x rfl (B.d d_prog_25_method_10_32) rfl rfl) ?_
          show Goes _ _ _ _ T (mkF me_ 33 #[.val (.ref a0), .val (.long q1), .second, .val (.long e3), .second, .val (.long (n0x - d2)), .second] [(.ref a0)])
          refine Goes.callP (argsL := []) (rest := []) (W := 0) S B (rm_drop l Z aw hw a0 gI gN (fun i => (.long (I i))) N f2 s2 d2 _ n0 E_a0 F_a0_instants F_a0_lastNumbers F_a0_first F_a0_size F_a0_dropped A_gI A_gN g_a0 ne_a0__gI ne_a0__gN) E_a0 (w66 hw) (w68 hw) (w6 hw) (w67 hw) (w7 hw) (w69 hw) (by decide) (by decide) (by decide) (by decide) (by decide) rfl (lenOf pd_5 rfl) rfl (Nat.le_of_eq rfl) d_prog_25_method_10_33 ?_
          intro v T h S hQ
          obtain ⟨rfl, Kc, E_a0', F_a0_instants', F_a0_lastNumbers', F_a0_first', F_a0_size', F_a0_dropped'⟩ := hQ
          replace K := K.trans Kc (allS (Or.inl (by simp)) all0)
          replace A_gI := A_gI.keep Kc (ninS ne_a0__gI.symm nin0)
          replace A_gN := A_gN.keep Kc (ninS ne_a0__gN.symm nin0)
          replace E_a0 := E_a0'
          replace F_a0_instants := F_a0_instants'
          replace F_a0_lastNumbers := F_a0_lastNumbers'
          replace F_a0_first := F_a0_first'
          replace F_a0_size := F_a0_size'
          replace F_a0_dropped := F_a0_dropped'
          show Goes _ _ _ _ T (mkF me_ 36 #[.val (.ref a0), .val (.long q1), .second, .val (.long e3), .second, .val (.long (n0x - d2)), .second] [])
          rw [hx] at F_a0_dropped
          refine Goes.go (fun _ => XS.lloadN S.here B.x rfl (B.d d_prog_25_method_10_36) rfl) ?_
          show Goes _ _ _ _ T (mkF me_ 37 #[.val (.ref a0), .val (.long q1), .second, .val (.long e3), .second, .val (.long (n0x - d2)), .second] [(.long e3)])
          refine Goes.go (fun _ => XS.lload S.here B.x rfl (B.d d_prog_25_method_10_37) rfl) ?_
          show Goes _ _ _ _ T (mkF me_ 39 #[.val (.ref a0), .val (.long q1), .second, .val (.long e3), .second, .val (.long (n0x - d2)), .second] [(.long (n0x - d2)), (.long e3)])
          refine Goes.go (fun _ => XS.lsub S.here B.x rfl (B.d d_prog_25_method_10_39) rfl) ?_
          show Goes _ _ _ _ T (mkF me_ 40 #[.val (.ref a0), .val (.long q1), .second, .val (.long e3), .second, .val (.long (n0x - d2)), .second] [(.long (e3 - (n0x - d2)))])
          refine Goes.go (fun _ => XS.lstoreN S.here B.x rfl (B.d d_prog_25_method_10_40) rfl (l' := #[.val (.ref a0), .val (.long q1), .second, .val (.long (e3 - (n0x - d2))), .second, .val (.long (n0x - d2)), .second]) rfl) ?_
          show Goes _ _ _ _ T (mkF me_ 41 #[.val (.ref a0), .val (.long q1), .second, .val (.long (e3 - (n0x - d2))), .second, .val (.long (n0x - d2)), .second] [])
          refine Goes.go (fun _ => XS.goto S.here B.x rfl (pc0 := 41) (pc' := 56) rfl (B.d d_prog_25_method_10_41) (by decide) (by decide)) ?_
          show Goes _ _ _ _ T (mkF me_ 56 #[.val (.ref a0), .val (.long q1), .second, .val (.long (e3 - (n0x - d2))), .second, .val (.long (n0x - d2)), .second] [])
          refine Goes.go (fun _ => XS.goto S.here B.x rfl (pc0 := 56) (pc' := 7) rfl (B.d d_prog_25_method_10_56) (by decide) (by decide)) ?_
          show Goes _ _ _ _ T (mkF me_ 7 #[.val (.ref a0), .val (.long q1), .second, .val (.long (e3 - (n0x - d2))), .second, .val (.long (n0x - d2)), .second] [])
          exact ih T _ (e3 - (n0x - d2)) (.val (.long (n0x - d2))) (.second) ((f2 + (1 : Int32)) &&& (3 : Int32)) (s2 - (1 : Int32)) n0x trx nrx S K E_a0 F_a0_instants F_a0_lastNumbers F_a0_first F_a0_size F_a0_dropped A_gI A_gN (Or.inr ⟨_, rfl, rfl⟩) (own_kA hr2 hc10 hc29) (own_QA hQ2) (own_QA hN2) (own_sA hs2 hQ2) (own_lA hl2) (own_MA hM2) (own_eA hM2 hc10 hc29 he) (own_kkA hk hc10)
      · skip
        refine Goes.go (fun _ => XS.ifYes S.here B.x rfl (pc0 := 10) (pc' := 59) rfl (B.d d_prog_25_method_10_10) rfl ((if0 _ _).trans (flt (mt (lw_gt e3 (0 : Int64)).mp hc10)).2.2.2) (by decide) (by decide)) ?_
        show Goes _ _ _ _ T (mkF me_ 59 #[.val (.ref a0), .val (.long q1), .second, .val (.long e3), .second, s5, s6] [])
        refine Goes.retV S B d_prog_25_method_10_59 (by decide) (by decide) ?_
        exact ⟨_, _, _, _, _, rfl, K, E_a0, F_a0_instants, F_a0_lastNumbers, F_a0_first, F_a0_size, F_a0_dropped, A_gI, A_gN, (own_kend hr2 (by first | exact own_kz hk | assumption)), hQ2, hN2, hs2, hl2, hM2⟩
  exact LP1 (ts.length + 1) T _ ((own_perm sz d (N ((f + (sz - (1 : Int32))) &&& (3 : Int32)).toNatClampNeg)) - q1) (.unset) (.unset) f sz d ts ns S K E_a0 F_a0_instants F_a0_lastNumbers F_a0_first F_a0_size F_a0_dropped A_gI A_gN (Or.inl ⟨rfl, rfl⟩) (by rw [own_pt hN hsz hll]) hQ hN hsz hll hM (own_he hN hsz hll hM hq) (by split <;> omega)
theorem ef_rm_max (m : MethodId) (q0 : Int64) (q1 : Int64) : entryFrame m #[(.long q0), (.long q1)] 4 = mkF m 0 #[.val (.long q0), .second, .val (.long q1), .second] [] := by first | (simp [entryFrame, mkF, argsToLocals, Value.category]; done) | rfl
def Q_rm_max (Z : State) (q0 : Int64) (q1 : Int64) (h0 : Heap) (n0 : Nat) (v : Option Value) (h : Heap) : Prop := v = some (.long (own_max q0 q1)) ∧ h = h0
set_option maxRecDepth 65536 in
set_option maxHeartbeats 40000000 in
theorem rm_max (l : Launch) (Z : State) (aw : Array Value) (hw : ∀ d ∈ tables_1, d.before aw Z = true) (q0 : Int64) (q1 : Int64) (h0 : Heap) (n0 : Nat) :
    Con l Z (⟨"java/lang/Math", "max", "(JJ)J"⟩ : MethodName) jdk_29_method_66_code 4 (some .long) ({ frames := 0, cells := 0, slots := 0, locals := 0 } : Room) #[(.long q0), (.long q1)] h0 n0 (Q_rm_max Z q0 q1 h0 n0) := by
  refine Con.body (Jvm.Free.JP.mathPlain rfl (by decide +kernel)) ?_
  intro pr_ en_ st_ me_ below meth co_ T B S
  refine Goes.cast (ef_rm_max me_ q0 q1) ?_
  refine Goes.go (fun _ => XS.lloadN S.here B.x rfl (B.d d_jdk_29_method_66_0) rfl) ?_
  show Goes _ _ _ _ T (mkF me_ 1 #[.val (.long q0), .second, .val (.long q1), .second] [(.long q0)])
  refine Goes.go (fun _ => XS.lloadN S.here B.x rfl (B.d d_jdk_29_method_66_1) rfl) ?_
  show Goes _ _ _ _ T (mkF me_ 2 #[.val (.long q0), .second, .val (.long q1), .second] [(.long q1), (.long q0)])
  refine Goes.go (fun _ => XS.lcmp S.here B.x rfl (B.d d_jdk_29_method_66_2) rfl) ?_
  show Goes _ _ _ _ T (mkF me_ 3 #[.val (.long q0), .second, .val (.long q1), .second] [(.int (lcmpW q0 q1))])
  by_cases hc3 : q0 < q1
  · skip
    refine Goes.go (fun _ => XS.ifYes S.here B.x rfl (pc0 := 3) (pc' := 10) rfl (B.d d_jdk_29_method_66_3) rfl ((if0 _ _).trans (tlt ((lw_lt q0 q1).mpr hc3)).1) (by decide) (by decide)) ?_
    show Goes _ _ _ _ T (mkF me_ 10 #[.val (.long q0), .second, .val (.long q1), .second] [])
    refine Goes.go (fun _ => XS.lloadN S.here B.x rfl (B.d d_jdk_29_method_66_10) rfl) ?_
    show Goes _ _ _ _ T (mkF me_ 11 #[.val (.long q0), .second, .val (.long q1), .second] [(.long q1)])
    refine Goes.retL S B d_jdk_29_method_66_11 (by decide) (by decide) ?_
    exact ⟨(by simp [own_max, *]), rfl⟩
  · skip
    refine Goes.go (fun _ => XS.ifNo S.here B.x rfl (B.d d_jdk_29_method_66_3) rfl ((if0 _ _).trans (flt (mt (lw_lt q0 q1).mp hc3)).1)) ?_
    show Goes _ _ _ _ T (mkF me_ 6 #[.val (.long q0), .second, .val (.long q1), .second] [])
    refine Goes.go (fun _ => XS.lloadN S.here B.x rfl (B.d d_jdk_29_method_66_6) rfl) ?_
    show Goes _ _ _ _ T (mkF me_ 7 #[.val (.long q0), .second, .val (.long q1), .second] [(.long q0)])
    refine Goes.go (fun _ => XS.goto S.here B.x rfl (pc0 := 7) (pc' := 11) rfl (B.d d_jdk_29_method_66_7) (by decide) (by decide)) ?_
    show Goes _ _ _ _ T (mkF me_ 11 #[.val (.long q0), .second, .val (.long q1), .second] [(.long q0)])
    refine Goes.retL S B d_jdk_29_method_66_11 (by decide) (by decide) ?_
    exact ⟨(by simp [own_max, *]), rfl⟩
theorem ef_rm_ge (m : MethodId) (q0 : Int64) (q1 : Int64) (q2 : Int64) (q3 : Int64) (q4 : Int64) (q5 : Int64) (q6 : Int64) : entryFrame m #[(.long q0), (.long q1), (.long q2), (.long q3), (.long q4), (.long q5), (.long q6)] 16 = mkF m 0 #[.val (.long q0), .second, .val (.long q1), .second, .val (.long q2), .second, .val (.long q3), .second, .val (.long q4), .second, .val (.long q5), .second, .val (.long q6), .second, .unset, .unset] [] := by first | (simp [entryFrame, mkF, argsToLocals, Value.category]; done) | rfl
def Q_rm_ge (Z : State) (q0 : Int64) (q1 : Int64) (q2 : Int64) (q3 : Int64) (q4 : Int64) (q5 : Int64) (q6 : Int64) (h0 : Heap) (n0 : Nat) (v : Option Value) (h : Heap) : Prop := v = some (.long (own_ge q0 q1 q2 q3 q4 q5 q6)) ∧ h = h0
set_option maxRecDepth 65536 in
set_option maxHeartbeats 40000000 in
theorem rm_ge (l : Launch) (Z : State) (aw : Array Value) (hw : ∀ d ∈ tables_1, d.before aw Z = true) (q0 : Int64) (q1 : Int64) (q2 : Int64) (q3 : Int64) (q4 : Int64) (q5 : Int64) (q6 : Int64) (h0 : Heap) (n0 : Nat) :
    Con l Z (⟨"com/example/bucket_brigade/bucketbrigade/PermitLogNewestPinLaw", "atOrAfter", "(JJJJJJJ)J"⟩ : MethodName) method_3_code 16 (some .long) ({ frames := 0, cells := 0, slots := 0, locals := 0 } : Room) #[(.long q0), (.long q1), (.long q2), (.long q3), (.long q4), (.long q5), (.long q6)] h0 n0 (Q_rm_ge Z q0 q1 q2 q3 q4 q5 q6 h0 n0) := by
  refine Con.body (plainFor_of_name pn_1) ?_
  intro pr_ en_ st_ me_ below meth co_ T B S
  refine Goes.cast (ef_rm_ge me_ q0 q1 q2 q3 q4 q5 q6) ?_
  refine Goes.go (fun _ => XS.lconst S.here B.x rfl (B.d d_method_3_0)) ?_
  show Goes _ _ _ _ T (mkF me_ 1 #[.val (.long q0), .second, .val (.long q1), .second, .val (.long q2), .second, .val (.long q3), .second, .val (.long q4), .second, .val (.long q5), .second, .val (.long q6), .second, .unset, .unset] [(.long (0 : Int64))])
  refine Goes.go (fun _ => XS.lstore S.here B.x rfl (B.d d_method_3_1) rfl (l' := #[.val (.long q0), .second, .val (.long q1), .second, .val (.long q2), .second, .val (.long q3), .second, .val (.long q4), .second, .val (.long q5), .second, .val (.long q6), .second, .val (.long (0 : Int64)), .second]) rfl) ?_
  show Goes _ _ _ _ T (mkF me_ 3 #[.val (.long q0), .second, .val (.long q1), .second, .val (.long q2), .second, .val (.long q3), .second, .val (.long q4), .second, .val (.long q5), .second, .val (.long q6), .second, .val (.long (0 : Int64)), .second] [])
  refine Goes.go (fun _ => XS.lloadN S.here B.x rfl (B.d d_method_3_3) rfl) ?_
  show Goes _ _ _ _ T (mkF me_ 4 #[.val (.long q0), .second, .val (.long q1), .second, .val (.long q2), .second, .val (.long q3), .second, .val (.long q4), .second, .val (.long q5), .second, .val (.long q6), .second, .val (.long (0 : Int64)), .second] [(.long q1)])
  refine Goes.go (fun _ => XS.lloadN S.here B.x rfl (B.d d_method_3_4) rfl) ?_
  show Goes _ _ _ _ T (mkF me_ 5 #[.val (.long q0), .second, .val (.long q1), .second, .val (.long q2), .second, .val (.long q3), .second, .val (.long q4), .second, .val (.long q5), .second, .val (.long q6), .second, .val (.long (0 : Int64)), .second] [(.long q0), (.long q1)])
  refine Goes.go (fun _ => XS.lcmp S.here B.x rfl (B.d d_method_3_5) rfl) ?_
  show Goes _ _ _ _ T (mkF me_ 6 #[.val (.long q0), .second, .val (.long q1), .second, .val (.long q2), .second, .val (.long q3), .second, .val (.long q4), .second, .val (.long q5), .second, .val (.long q6), .second, .val (.long (0 : Int64)), .second] [(.int (lcmpW q1 q0))])
  by_cases hc6 : q1 < q0
  · skip
    refine Goes.go (fun _ => XS.ifYes S.here B.x rfl (pc0 := 6) (pc' := 16) rfl (B.d d_method_3_6) rfl ((if0 _ _).trans (tlt ((lw_lt q1 q0).mpr hc6)).1) (by decide) (by decide)) ?_
    show Goes _ _ _ _ T (mkF me_ 16 #[.val (.long q0), .second, .val (.long q1), .second, .val (.long q2), .second, .val (.long q3), .second, .val (.long q4), .second, .val (.long q5), .second, .val (.long q6), .second, .val (.long (0 : Int64)), .second] [])
    refine Goes.go (fun _ => XS.lload S.here B.x rfl (B.d d_method_3_16) rfl) ?_
    show Goes _ _ _ _ T (mkF me_ 18 #[.val (.long q0), .second, .val (.long q1), .second, .val (.long q2), .second, .val (.long q3), .second, .val (.long q4), .second, .val (.long q5), .second, .val (.long q6), .second, .val (.long (0 : Int64)), .second] [(.long q3)])
    refine Goes.go (fun _ => XS.lloadN S.here B.x rfl (B.d d_method_3_18) rfl) ?_
    show Goes _ _ _ _ T (mkF me_ 19 #[.val (.long q0), .second, .val (.long q1), .second, .val (.long q2), .second, .val (.long q3), .second, .val (.long q4), .second, .val (.long q5), .second, .val (.long q6), .second, .val (.long (0 : Int64)), .second] [(.long q0), (.long q3)])
    refine Goes.go (fun _ => XS.lcmp S.here B.x rfl (B.d d_method_3_19) rfl) ?_
    show Goes _ _ _ _ T (mkF me_ 20 #[.val (.long q0), .second, .val (.long q1), .second, .val (.long q2), .second, .val (.long q3), .second, .val (.long q4), .second, .val (.long q5), .second, .val (.long q6), .second, .val (.long (0 : Int64)), .second] [(.int (lcmpW q3 q0))])
    by_cases hc20 : q3 < q0
    · skip
      refine Goes.go (fun _ => XS.ifYes S.here B.x rfl (pc0 := 20) (pc' := 30) rfl (B.d d_method_3_20) rfl ((if0 _ _).trans (tlt ((lw_lt q3 q0).mpr hc20)).1) (by decide) (by decide)) ?_
      show Goes _ _ _ _ T (mkF me_ 30 #[.val (.long q0), .second, .val (.long q1), .second, .val (.long q2), .second, .val (.long q3), .second, .val (.long q4), .second, .val (.long q5), .second, .val (.long q6), .second, .val (.long (0 : Int64)), .second] [])
      refine Goes.go (fun _ => XS.lload S.here B.x rfl (B.d d_method_3_30) rfl) ?_
      show Goes _ _ _ _ T (mkF me_ 32 #[.val (.long q0), .second, .val (.long q1), .second, .val (.long q2), .second, .val (.long q3), .second, .val (.long q4), .second, .val (.long q5), .second, .val (.long q6), .second, .val (.long (0 : Int64)), .second] [(.long q5)])
      refine Goes.go (fun _ => XS.lloadN S.here B.x rfl (B.d d_method_3_32) rfl) ?_
      show Goes _ _ _ _ T (mkF me_ 33 #[.val (.long q0), .second, .val (.long q1), .second, .val (.long q2), .second, .val (.long q3), .second, .val (.long q4), .second, .val (.long q5), .second, .val (.long q6), .second, .val (.long (0 : Int64)), .second] [(.long q0), (.long q5)])
      refine Goes.go (fun _ => XS.lcmp S.here B.x rfl (B.d d_method_3_33) rfl) ?_
      show Goes _ _ _ _ T (mkF me_ 34 #[.val (.long q0), .second, .val (.long q1), .second, .val (.long q2), .second, .val (.long q3), .second, .val (.long q4), .second, .val (.long q5), .second, .val (.long q6), .second, .val (.long (0 : Int64)), .second] [(.int (lcmpW q5 q0))])
      by_cases hc34 : q5 < q0
      · skip
        refine Goes.go (fun _ => XS.ifYes S.here B.x rfl (pc0 := 34) (pc' := 44) rfl (B.d d_method_3_34) rfl ((if0 _ _).trans (tlt ((lw_lt q5 q0).mpr hc34)).1) (by decide) (by decide)) ?_
        show Goes _ _ _ _ T (mkF me_ 44 #[.val (.long q0), .second, .val (.long q1), .second, .val (.long q2), .second, .val (.long q3), .second, .val (.long q4), .second, .val (.long q5), .second, .val (.long q6), .second, .val (.long (0 : Int64)), .second] [])
        refine Goes.go (fun _ => XS.lload S.here B.x rfl (B.d d_method_3_44) rfl) ?_
        show Goes _ _ _ _ T (mkF me_ 46 #[.val (.long q0), .second, .val (.long q1), .second, .val (.long q2), .second, .val (.long q3), .second, .val (.long q4), .second, .val (.long q5), .second, .val (.long q6), .second, .val (.long (0 : Int64)), .second] [(.long (0 : Int64))])
        refine Goes.retL S B d_method_3_46 (by decide) (by decide) ?_
        exact ⟨(by simp [own_ge, own_stp, *]), rfl⟩
      · skip
        refine Goes.go (fun _ => XS.ifNo S.here B.x rfl (B.d d_method_3_34) rfl ((if0 _ _).trans (flt (mt (lw_lt q5 q0).mp hc34)).1)) ?_
        show Goes _ _ _ _ T (mkF me_ 37 #[.val (.long q0), .second, .val (.long q1), .second, .val (.long q2), .second, .val (.long q3), .second, .val (.long q4), .second, .val (.long q5), .second, .val (.long q6), .second, .val (.long (0 : Int64)), .second] [])
        refine Goes.go (fun _ => XS.lload S.here B.x rfl (B.d d_method_3_37) rfl) ?_
        show Goes _ _ _ _ T (mkF me_ 39 #[.val (.long q0), .second, .val (.long q1), .second, .val (.long q2), .second, .val (.long q3), .second, .val (.long q4), .second, .val (.long q5), .second, .val (.long q6), .second, .val (.long (0 : Int64)), .second] [(.long (0 : Int64))])
        refine Goes.go (fun _ => XS.lload S.here B.x rfl (B.d d_method_3_39) rfl) ?_
        show Goes _ _ _ _ T (mkF me_ 41 #[.val (.long q0), .second, .val (.long q1), .second, .val (.long q2), .second, .val (.long q3), .second, .val (.long q4), .second, .val (.long q5), .second, .val (.long q6), .second, .val (.long (0 : Int64)), .second] [(.long q6), (.long (0 : Int64))])
        refine Goes.go (fun _ => XS.ladd S.here B.x rfl (B.d d_method_3_41) rfl) ?_
        show Goes _ _ _ _ T (mkF me_ 42 #[.val (.long q0), .second, .val (.long q1), .second, .val (.long q2), .second, .val (.long q3), .second, .val (.long q4), .second, .val (.long q5), .second, .val (.long q6), .second, .val (.long (0 : Int64)), .second] [(.long ((0 : Int64) + q6))])
        refine Goes.go (fun _ => XS.lstore S.here B.x rfl (B.d d_method_3_42) rfl (l' := #[.val (.long q0), .second, .val (.long q1), .second, .val (.long q2), .second, .val (.long q3), .second, .val (.long q4), .second, .val (.long q5), .second, .val (.long q6), .second, .val (.long ((0 : Int64) + q6)), .second]) rfl) ?_
        show Goes _ _ _ _ T (mkF me_ 44 #[.val (.long q0), .second, .val (.long q1), .second, .val (.long q2), .second, .val (.long q3), .second, .val (.long q4), .second, .val (.long q5), .second, .val (.long q6), .second, .val (.long ((0 : Int64) + q6)), .second] [])
        refine Goes.go (fun _ => XS.lload S.here B.x rfl (B.d d_method_3_44) rfl) ?_
        show Goes _ _ _ _ T (mkF me_ 46 #[.val (.long q0), .second, .val (.long q1), .second, .val (.long q2), .second, .val (.long q3), .second, .val (.long q4), .second, .val (.long q5), .second, .val (.long q6), .second, .val (.long ((0 : Int64) + q6)), .second] [(.long ((0 : Int64) + q6))])
        refine Goes.retL S B d_method_3_46 (by decide) (by decide) ?_
        exact ⟨(by simp [own_ge, own_stp, *]), rfl⟩
    · skip
      refine Goes.go (fun _ => XS.ifNo S.here B.x rfl (B.d d_method_3_20) rfl ((if0 _ _).trans (flt (mt (lw_lt q3 q0).mp hc20)).1)) ?_
      show Goes _ _ _ _ T (mkF me_ 23 #[.val (.long q0), .second, .val (.long q1), .second, .val (.long q2), .second, .val (.long q3), .second, .val (.long q4), .second, .val (.long q5), .second, .val (.long q6), .second, .val (.long (0 : Int64)), .second] [])
      refine Goes.go (fun _ => XS.lload S.here B.x rfl (B.d d_method_3_23) rfl) ?_
      show Goes _ _ _ _ T (mkF me_ 25 #[.val (.long q0), .second, .val (.long q1), .second, .val (.long q2), .second, .val (.long q3), .second, .val (.long q4), .second, .val (.long q5), .second, .val (.long q6), .second, .val (.long (0 : Int64)), .second] [(.long (0 : Int64))])
      refine Goes.go (fun _ => XS.lload S.here B.x rfl (B.d d_method_3_25) rfl) ?_
      show Goes _ _ _ _ T (mkF me_ 27 #[.val (.long q0), .second, .val (.long q1), .second, .val (.long q2), .second, .val (.long q3), .second, .val (.long q4), .second, .val (.long q5), .second, .val (.long q6), .second, .val (.long (0 : Int64)), .second] [(.long q4), (.long (0 : Int64))])
      refine Goes.go (fun _ => XS.ladd S.here B.x rfl (B.d d_method_3_27) rfl) ?_
      show Goes _ _ _ _ T (mkF me_ 28 #[.val (.long q0), .second, .val (.long q1), .second, .val (.long q2), .second, .val (.long q3), .second, .val (.long q4), .second, .val (.long q5), .second, .val (.long q6), .second, .val (.long (0 : Int64)), .second] [(.long ((0 : Int64) + q4))])
      refine Goes.go (fun _ => XS.lstore S.here B.x rfl (B.d d_method_3_28) rfl (l' := #[.val (.long q0), .second, .val (.long q1), .second, .val (.long q2), .second, .val (.long q3), .second, .val (.long q4), .second, .val (.long q5), .second, .val (.long q6), .second, .val (.long ((0 : Int64) + q4)), .second]) rfl) ?_
      show Goes _ _ _ _ T (mkF me_ 30 #[.val (.long q0), .second, .val (.long q1), .second, .val (.long q2), .second, .val (.long q3), .second, .val (.long q4), .second, .val (.long q5), .second, .val (.long q6), .second, .val (.long ((0 : Int64) + q4)), .second] [])
      refine Goes.go (fun _ => XS.lload S.here B.x rfl (B.d d_method_3_30) rfl) ?_
      show Goes _ _ _ _ T (mkF me_ 32 #[.val (.long q0), .second, .val (.long q1), .second, .val (.long q2), .second, .val (.long q3), .second, .val (.long q4), .second, .val (.long q5), .second, .val (.long q6), .second, .val (.long ((0 : Int64) + q4)), .second] [(.long q5)])
      refine Goes.go (fun _ => XS.lloadN S.here B.x rfl (B.d d_method_3_32) rfl) ?_
      show Goes _ _ _ _ T (mkF me_ 33 #[.val (.long q0), .second, .val (.long q1), .second, .val (.long q2), .second, .val (.long q3), .second, .val (.long q4), .second, .val (.long q5), .second, .val (.long q6), .second, .val (.long ((0 : Int64) + q4)), .second] [(.long q0), (.long q5)])
      refine Goes.go (fun _ => XS.lcmp S.here B.x rfl (B.d d_method_3_33) rfl) ?_
      show Goes _ _ _ _ T (mkF me_ 34 #[.val (.long q0), .second, .val (.long q1), .second, .val (.long q2), .second, .val (.long q3), .second, .val (.long q4), .second, .val (.long q5), .second, .val (.long q6), .second, .val (.long ((0 : Int64) + q4)), .second] [(.int (lcmpW q5 q0))])
      by_cases hc34 : q5 < q0
      · skip
        refine Goes.go (fun _ => XS.ifYes S.here B.x rfl (pc0 := 34) (pc' := 44) rfl (B.d d_method_3_34) rfl ((if0 _ _).trans (tlt ((lw_lt q5 q0).mpr hc34)).1) (by decide) (by decide)) ?_
        show Goes _ _ _ _ T (mkF me_ 44 #[.val (.long q0), .second, .val (.long q1), .second, .val (.long q2), .second, .val (.long q3), .second, .val (.long q4), .second, .val (.long q5), .second, .val (.long q6), .second, .val (.long ((0 : Int64) + q4)), .second] [])
        refine Goes.go (fun _ => XS.lload S.here B.x rfl (B.d d_method_3_44) rfl) ?_
        show Goes _ _ _ _ T (mkF me_ 46 #[.val (.long q0), .second, .val (.long q1), .second, .val (.long q2), .second, .val (.long q3), .second, .val (.long q4), .second, .val (.long q5), .second, .val (.long q6), .second, .val (.long ((0 : Int64) + q4)), .second] [(.long ((0 : Int64) + q4))])
        refine Goes.retL S B d_method_3_46 (by decide) (by decide) ?_
        exact ⟨(by simp [own_ge, own_stp, *]), rfl⟩
      · skip
        refine Goes.go (fun _ => XS.ifNo S.here B.x rfl (B.d d_method_3_34) rfl ((if0 _ _).trans (flt (mt (lw_lt q5 q0).mp hc34)).1)) ?_
        show Goes _ _ _ _ T (mkF me_ 37 #[.val (.long q0), .second, .val (.long q1), .second, .val (.long q2), .second, .val (.long q3), .second, .val (.long q4), .second, .val (.long q5), .second, .val (.long q6), .second, .val (.long ((0 : Int64) + q4)), .second] [])
        refine Goes.go (fun _ => XS.lload S.here B.x rfl (B.d d_method_3_37) rfl) ?_
        show Goes _ _ _ _ T (mkF me_ 39 #[.val (.long q0), .second, .val (.long q1), .second, .val (.long q2), .second, .val (.long q3), .second, .val (.long q4), .second, .val (.long q5), .second, .val (.long q6), .second, .val (.long ((0 : Int64) + q4)), .second] [(.long ((0 : Int64) + q4))])
        refine Goes.go (fun _ => XS.lload S.here B.x rfl (B.d d_method_3_39) rfl) ?_
        show Goes _ _ _ _ T (mkF me_ 41 #[.val (.long q0), .second, .val (.long q1), .second, .val (.long q2), .second, .val (.long q3), .second, .val (.long q4), .second, .val (.long q5), .second, .val (.long q6), .second, .val (.long ((0 : Int64) + q4)), .second] [(.long q6), (.long ((0 : Int64) + q4))])
        refine Goes.go (fun _ => XS.ladd S.here B.x rfl (B.d d_method_3_41) rfl) ?_
        show Goes _ _ _ _ T (mkF me_ 42 #[.val (.long q0), .second, .val (.long q1), .second, .val (.long q2), .second, .val (.long q3), .second, .val (.long q4), .second, .val (.long q5), .second, .val (.long q6), .second, .val (.long ((0 : Int64) + q4)), .second] [(.long (((0 : Int64) + q4) + q6))])
        refine Goes.go (fun _ => XS.lstore S.here B.x rfl (B.d d_method_3_42) rfl (l' := #[.val (.long q0), .second, .val (.long q1), .second, .val (.long q2), .second, .val (.long q3), .second, .val (.long q4), .second, .val (.long q5), .second, .val (.long q6), .second, .val (.long (((0 : Int64) + q4) + q6)), .second]) rfl) ?_
        show Goes _ _ _ _ T (mkF me_ 44 #[.val (.long q0), .second, .val (.long q1), .second, .val (.long q2), .second, .val (.long q3), .second, .val (.long q4), .second, .val (.long q5), .second, .val (.long q6), .second, .val (.long (((0 : Int64) + q4) + q6)), .second] [])
        refine Goes.go (fun _ => XS.lload S.here B.x rfl (B.d d_method_3_44) rfl) ?_
        show Goes _ _ _ _ T (mkF me_ 46 #[.val (.long q0), .second, .val (.long q1), .second, .val (.long q2), .second, .val (.long q3), .second, .val (.long q4), .second, .val (.long q5), .second, .val (.long q6), .second, .val (.long (((0 : Int64) + q4) + q6)), .second] [(.long (((0 : Int64) + q4) + q6))])
        refine Goes.retL S B d_method_3_46 (by decide) (by decide) ?_
        exact ⟨(by simp [own_ge, own_stp, *]), rfl⟩
  · skip
    refine Goes.go (fun _ => XS.ifNo S.here B.x rfl (B.d d_method_3_6) rfl ((if0 _ _).trans (flt (mt (lw_lt q1 q0).mp hc6)).1)) ?_
    show Goes _ _ _ _ T (mkF me_ 9 #[.val (.long q0), .second, .val (.long q1), .second, .val (.long q2), .second, .val (.long q3), .second, .val (.long q4), .second, .val (.long q5), .second, .val (.long q6), .second, .val (.long (0 : Int64)), .second] [])
    refine Goes.go (fun _ => XS.lload S.here B.x rfl (B.d d_method_3_9) rfl) ?_
    show Goes _ _ _ _ T (mkF me_ 11 #[.val (.long q0), .second, .val (.long q1), .second, .val (.long q2), .second, .val (.long q3), .second, .val (.long q4), .second, .val (.long q5), .second, .val (.long q6), .second, .val (.long (0 : Int64)), .second] [(.long (0 : Int64))])
    refine Goes.go (fun _ => XS.lload S.here B.x rfl (B.d d_method_3_11) rfl) ?_
    show Goes _ _ _ _ T (mkF me_ 13 #[.val (.long q0), .second, .val (.long q1), .second, .val (.long q2), .second, .val (.long q3), .second, .val (.long q4), .second, .val (.long q5), .second, .val (.long q6), .second, .val (.long (0 : Int64)), .second] [(.long q2), (.long (0 : Int64))])
    refine Goes.go (fun _ => XS.ladd S.here B.x rfl (B.d d_method_3_13) rfl) ?_
    show Goes _ _ _ _ T (mkF me_ 14 #[.val (.long q0), .second, .val (.long q1), .second, .val (.long q2), .second, .val (.long q3), .second, .val (.long q4), .second, .val (.long q5), .second, .val (.long q6), .second, .val (.long (0 : Int64)), .second] [(.long ((0 : Int64) + q2))])
    refine Goes.go (fun _ => XS.lstore S.here B.x rfl (B.d d_method_3_14) rfl (l' := #[.val (.long q0), .second, .val (.long q1), .second, .val (.long q2), .second, .val (.long q3), .second, .val (.long q4), .second, .val (.long q5), .second, .val (.long q6), .second, .val (.long ((0 : Int64) + q2)), .second]) rfl) ?_
    show Goes _ _ _ _ T (mkF me_ 16 #[.val (.long q0), .second, .val (.long q1), .second, .val (.long q2), .second, .val (.long q3), .second, .val (.long q4), .second, .val (.long q5), .second, .val (.long q6), .second, .val (.long ((0 : Int64) + q2)), .second] [])
    refine Goes.go (fun _ => XS.lload S.here B.x rfl (B.d d_method_3_16) rfl) ?_
    show Goes _ _ _ _ T (mkF me_ 18 #[.val (.long q0), .second, .val (.long q1), .second, .val (.long q2), .second, .val (.long q3), .second, .val (.long q4), .second, .val (.long q5), .second, .val (.long q6), .second, .val (.long ((0 : Int64) + q2)), .second] [(.long q3)])
    refine Goes.go (fun _ => XS.lloadN S.here B.x rfl (B.d d_method_3_18) rfl) ?_
    show Goes _ _ _ _ T (mkF me_ 19 #[.val (.long q0), .second, .val (.long q1), .second, .val (.long q2), .second, .val (.long q3), .second, .val (.long q4), .second, .val (.long q5), .second, .val (.long q6), .second, .val (.long ((0 : Int64) + q2)), .second] [(.long q0), (.long q3)])
    refine Goes.go (fun _ => XS.lcmp S.here B.x rfl (B.d d_method_3_19) rfl) ?_
    show Goes _ _ _ _ T (mkF me_ 20 #[.val (.long q0), .second, .val (.long q1), .second, .val (.long q2), .second, .val (.long q3), .second, .val (.long q4), .second, .val (.long q5), .second, .val (.long q6), .second, .val (.long ((0 : Int64) + q2)), .second] [(.int (lcmpW q3 q0))])
    by_cases hc20 : q3 < q0
    · skip
      refine Goes.go (fun _ => XS.ifYes S.here B.x rfl (pc0 := 20) (pc' := 30) rfl (B.d d_method_3_20) rfl ((if0 _ _).trans (tlt ((lw_lt q3 q0).mpr hc20)).1) (by decide) (by decide)) ?_
      show Goes _ _ _ _ T (mkF me_ 30 #[.val (.long q0), .second, .val (.long q1), .second, .val (.long q2), .second, .val (.long q3), .second, .val (.long q4), .second, .val (.long q5), .second, .val (.long q6), .second, .val (.long ((0 : Int64) + q2)), .second] [])
      refine Goes.go (fun _ => XS.lload S.here B.x rfl (B.d d_method_3_30) rfl) ?_
      show Goes _ _ _ _ T (mkF me_ 32 #[.val (.long q0), .second, .val (.long q1), .second, .val (.long q2), .second, .val (.long q3), .second, .val (.long q4), .second, .val (.long q5), .second, .val (.long q6), .second, .val (.long ((0 : Int64) + q2)), .second] [(.long q5)])
      refine Goes.go (fun _ => XS.lloadN S.here B.x rfl (B.d d_method_3_32) rfl) ?_
      show Goes _ _ _ _ T (mkF me_ 33 #[.val (.long q0), .second, .val (.long q1), .second, .val (.long q2), .second, .val (.long q3), .second, .val (.long q4), .second, .val (.long q5), .second, .val (.long q6), .second, .val (.long ((0 : Int64) + q2)), .second] [(.long q0), (.long q5)])
      refine Goes.go (fun _ => XS.lcmp S.here B.x rfl (B.d d_method_3_33) rfl) ?_
      show Goes _ _ _ _ T (mkF me_ 34 #[.val (.long q0), .second, .val (.long q1), .second, .val (.long q2), .second, .val (.long q3), .second, .val (.long q4), .second, .val (.long q5), .second, .val (.long q6), .second, .val (.long ((0 : Int64) + q2)), .second] [(.int (lcmpW q5 q0))])
      by_cases hc34 : q5 < q0
      · skip
        refine Goes.go (fun _ => XS.ifYes S.here B.x rfl (pc0 := 34) (pc' := 44) rfl (B.d d_method_3_34) rfl ((if0 _ _).trans (tlt ((lw_lt q5 q0).mpr hc34)).1) (by decide) (by decide)) ?_
        show Goes _ _ _ _ T (mkF me_ 44 #[.val (.long q0), .second, .val (.long q1), .second, .val (.long q2), .second, .val (.long q3), .second, .val (.long q4), .second, .val (.long q5), .second, .val (.long q6), .second, .val (.long ((0 : Int64) + q2)), .second] [])
        refine Goes.go (fun _ => XS.lload S.here B.x rfl (B.d d_method_3_44) rfl) ?_
        show Goes _ _ _ _ T (mkF me_ 46 #[.val (.long q0), .second, .val (.long q1), .second, .val (.long q2), .second, .val (.long q3), .second, .val (.long q4), .second, .val (.long q5), .second, .val (.long q6), .second, .val (.long ((0 : Int64) + q2)), .second] [(.long ((0 : Int64) + q2))])
        refine Goes.retL S B d_method_3_46 (by decide) (by decide) ?_
        exact ⟨(by simp [own_ge, own_stp, *]), rfl⟩
      · skip
        refine Goes.go (fun _ => XS.ifNo S.here B.x rfl (B.d d_method_3_34) rfl ((if0 _ _).trans (flt (mt (lw_lt q5 q0).mp hc34)).1)) ?_
        show Goes _ _ _ _ T (mkF me_ 37 #[.val (.long q0), .second, .val (.long q1), .second, .val (.long q2), .second, .val (.long q3), .second, .val (.long q4), .second, .val (.long q5), .second, .val (.long q6), .second, .val (.long ((0 : Int64) + q2)), .second] [])
        refine Goes.go (fun _ => XS.lload S.here B.x rfl (B.d d_method_3_37) rfl) ?_
        show Goes _ _ _ _ T (mkF me_ 39 #[.val (.long q0), .second, .val (.long q1), .second, .val (.long q2), .second, .val (.long q3), .second, .val (.long q4), .second, .val (.long q5), .second, .val (.long q6), .second, .val (.long ((0 : Int64) + q2)), .second] [(.long ((0 : Int64) + q2))])
        refine Goes.go (fun _ => XS.lload S.here B.x rfl (B.d d_method_3_39) rfl) ?_
        show Goes _ _ _ _ T (mkF me_ 41 #[.val (.long q0), .second, .val (.long q1), .second, .val (.long q2), .second, .val (.long q3), .second, .val (.long q4), .second, .val (.long q5), .second, .val (.long q6), .second, .val (.long ((0 : Int64) + q2)), .second] [(.long q6), (.long ((0 : Int64) + q2))])
        refine Goes.go (fun _ => XS.ladd S.here B.x rfl (B.d d_method_3_41) rfl) ?_
        show Goes _ _ _ _ T (mkF me_ 42 #[.val (.long q0), .second, .val (.long q1), .second, .val (.long q2), .second, .val (.long q3), .second, .val (.long q4), .second, .val (.long q5), .second, .val (.long q6), .second, .val (.long ((0 : Int64) + q2)), .second] [(.long (((0 : Int64) + q2) + q6))])
        refine Goes.go (fun _ => XS.lstore S.here B.x rfl (B.d d_method_3_42) rfl (l' := #[.val (.long q0), .second, .val (.long q1), .second, .val (.long q2), .second, .val (.long q3), .second, .val (.long q4), .second, .val (.long q5), .second, .val (.long q6), .second, .val (.long (((0 : Int64) + q2) + q6)), .second]) rfl) ?_
        show Goes _ _ _ _ T (mkF me_ 44 #[.val (.long q0), .second, .val (.long q1), .second, .val (.long q2), .second, .val (.long q3), .second, .val (.long q4), .second, .val (.long q5), .second, .val (.long q6), .second, .val (.long (((0 : Int64) + q2) + q6)), .second] [])
        refine Goes.go (fun _ => XS.lload S.here B.x rfl (B.d d_method_3_44) rfl) ?_
        show Goes _ _ _ _ T (mkF me_ 46 #[.val (.long q0), .second, .val (.long q1), .second, .val (.long q2), .second, .val (.long q3), .second, .val (.long q4), .second, .val (.long q5), .second, .val (.long q6), .second, .val (.long (((0 : Int64) + q2) + q6)), .second] [(.long (((0 : Int64) + q2) + q6))])
        refine Goes.retL S B d_method_3_46 (by decide) (by decide) ?_
        exact ⟨(by simp [own_ge, own_stp, *]), rfl⟩
    · skip
      refine Goes.go (fun _ => XS.ifNo S.here B.x rfl (B.d d_method_3_20) rfl ((if0 _ _).trans (flt (mt (lw_lt q3 q0).mp hc20)).1)) ?_
      show Goes _ _ _ _ T (mkF me_ 23 #[.val (.long q0), .second, .val (.long q1), .second, .val (.long q2), .second, .val (.long q3), .second, .val (.long q4), .second, .val (.long q5), .second, .val (.long q6), .second, .val (.long ((0 : Int64) + q2)), .second] [])
      refine Goes.go (fun _ => XS.lload S.here B.x rfl (B.d d_method_3_23) rfl) ?_
      show Goes _ _ _ _ T (mkF me_ 25 #[.val (.long q0), .second, .val (.long q1), .second, .val (.long q2), .second, .val (.long q3), .second, .val (.long q4), .second, .val (.long q5), .second, .val (.long q6), .second, .val (.long ((0 : Int64) + q2)), .second] [(.long ((0 : Int64) + q2))])
      refine Goes.go (fun _ => XS.lload S.here B.x rfl (B.d d_method_3_25) rfl) ?_
      show Goes _ _ _ _ T (mkF me_ 27 #[.val (.long q0), .second, .val (.long q1), .second, .val (.long q2), .second, .val (.long q3), .second, .val (.long q4), .second, .val (.long q5), .second, .val (.long q6), .second, .val (.long ((0 : Int64) + q2)), .second] [(.long q4), (.long ((0 : Int64) + q2))])
      refine Goes.go (fun _ => XS.ladd S.here B.x rfl (B.d d_method_3_27) rfl) ?_
      show Goes _ _ _ _ T (mkF me_ 28 #[.val (.long q0), .second, .val (.long q1), .second, .val (.long q2), .second, .val (.long q3), .second, .val (.long q4), .second, .val (.long q5), .second, .val (.long q6), .second, .val (.long ((0 : Int64) + q2)), .second] [(.long (((0 : Int64) + q2) + q4))])
      refine Goes.go (fun _ => XS.lstore S.here B.x rfl (B.d d_method_3_28) rfl (l' := #[.val (.long q0), .second, .val (.long q1), .second, .val (.long q2), .second, .val (.long q3), .second, .val (.long q4), .second, .val (.long q5), .second, .val (.long q6), .second, .val (.long (((0 : Int64) + q2) + q4)), .second]) rfl) ?_
      show Goes _ _ _ _ T (mkF me_ 30 #[.val (.long q0), .second, .val (.long q1), .second, .val (.long q2), .second, .val (.long q3), .second, .val (.long q4), .second, .val (.long q5), .second, .val (.long q6), .second, .val (.long (((0 : Int64) + q2) + q4)), .second] [])
      refine Goes.go (fun _ => XS.lload S.here B.x rfl (B.d d_method_3_30) rfl) ?_
      show Goes _ _ _ _ T (mkF me_ 32 #[.val (.long q0), .second, .val (.long q1), .second, .val (.long q2), .second, .val (.long q3), .second, .val (.long q4), .second, .val (.long q5), .second, .val (.long q6), .second, .val (.long (((0 : Int64) + q2) + q4)), .second] [(.long q5)])
      refine Goes.go (fun _ => XS.lloadN S.here B.x rfl (B.d d_method_3_32) rfl) ?_
      show Goes _ _ _ _ T (mkF me_ 33 #[.val (.long q0), .second, .val (.long q1), .second, .val (.long q2), .second, .val (.long q3), .second, .val (.long q4), .second, .val (.long q5), .second, .val (.long q6), .second, .val (.long (((0 : Int64) + q2) + q4)), .second] [(.long q0), (.long q5)])
      refine Goes.go (fun _ => XS.lcmp S.here B.x rfl (B.d d_method_3_33) rfl) ?_
      show Goes _ _ _ _ T (mkF me_ 34 #[.val (.long q0), .second, .val (.long q1), .second, .val (.long q2), .second, .val (.long q3), .second, .val (.long q4), .second, .val (.long q5), .second, .val (.long q6), .second, .val (.long (((0 : Int64) + q2) + q4)), .second] [(.int (lcmpW q5 q0))])
      by_cases hc34 : q5 < q0
      · skip
        refine Goes.go (fun _ => XS.ifYes S.here B.x rfl (pc0 := 34) (pc' := 44) rfl (B.d d_method_3_34) rfl ((if0 _ _).trans (tlt ((lw_lt q5 q0).mpr hc34)).1) (by decide) (by decide)) ?_
        show Goes _ _ _ _ T (mkF me_ 44 #[.val (.long q0), .second, .val (.long q1), .second, .val (.long q2), .second, .val (.long q3), .second, .val (.long q4), .second, .val (.long q5), .second, .val (.long q6), .second, .val (.long (((0 : Int64) + q2) + q4)), .second] [])
        refine Goes.go (fun _ => XS.lload S.here B.x rfl (B.d d_method_3_44) rfl) ?_
        show Goes _ _ _ _ T (mkF me_ 46 #[.val (.long q0), .second, .val (.long q1), .second, .val (.long q2), .second, .val (.long q3), .second, .val (.long q4), .second, .val (.long q5), .second, .val (.long q6), .second, .val (.long (((0 : Int64) + q2) + q4)), .second] [(.long (((0 : Int64) + q2) + q4))])
        refine Goes.retL S B d_method_3_46 (by decide) (by decide) ?_
        exact ⟨(by simp [own_ge, own_stp, *]), rfl⟩
      · skip
        refine Goes.go (fun _ => XS.ifNo S.here B.x rfl (B.d d_method_3_34) rfl ((if0 _ _).trans (flt (mt (lw_lt q5 q0).mp hc34)).1)) ?_
        show Goes _ _ _ _ T (mkF me_ 37 #[.val (.long q0), .second, .val (.long q1), .second, .val (.long q2), .second, .val (.long q3), .second, .val (.long q4), .second, .val (.long q5), .second, .val (.long q6), .second, .val (.long (((0 : Int64) + q2) + q4)), .second] [])
        refine Goes.go (fun _ => XS.lload S.here B.x rfl (B.d d_method_3_37) rfl) ?_
        show Goes _ _ _ _ T (mkF me_ 39 #[.val (.long q0), .second, .val (.long q1), .second, .val (.long q2), .second, .val (.long q3), .second, .val (.long q4), .second, .val (.long q5), .second, .val (.long q6), .second, .val (.long (((0 : Int64) + q2) + q4)), .second] [(.long (((0 : Int64) + q2) + q4))])
        refine Goes.go (fun _ => XS.lload S.here B.x rfl (B.d d_method_3_39) rfl) ?_
        show Goes _ _ _ _ T (mkF me_ 41 #[.val (.long q0), .second, .val (.long q1), .second, .val (.long q2), .second, .val (.long q3), .second, .val (.long q4), .second, .val (.long q5), .second, .val (.long q6), .second, .val (.long (((0 : Int64) + q2) + q4)), .second] [(.long q6), (.long (((0 : Int64) + q2) + q4))])
        refine Goes.go (fun _ => XS.ladd S.here B.x rfl (B.d d_method_3_41) rfl) ?_
        show Goes _ _ _ _ T (mkF me_ 42 #[.val (.long q0), .second, .val (.long q1), .second, .val (.long q2), .second, .val (.long q3), .second, .val (.long q4), .second, .val (.long q5), .second, .val (.long q6), .second, .val (.long (((0 : Int64) + q2) + q4)), .second] [(.long ((((0 : Int64) + q2) + q4) + q6))])
        refine Goes.go (fun _ => XS.lstore S.here B.x rfl (B.d d_method_3_42) rfl (l' := #[.val (.long q0), .second, .val (.long q1), .second, .val (.long q2), .second, .val (.long q3), .second, .val (.long q4), .second, .val (.long q5), .second, .val (.long q6), .second, .val (.long ((((0 : Int64) + q2) + q4) + q6)), .second]) rfl) ?_
        show Goes _ _ _ _ T (mkF me_ 44 #[.val (.long q0), .second, .val (.long q1), .second, .val (.long q2), .second, .val (.long q3), .second, .val (.long q4), .second, .val (.long q5), .second, .val (.long q6), .second, .val (.long ((((0 : Int64) + q2) + q4) + q6)), .second] [])
        refine Goes.go (fun _ => XS.lload S.here B.x rfl (B.d d_method_3_44) rfl) ?_
        show Goes _ _ _ _ T (mkF me_ 46 #[.val (.long q0), .second, .val (.long q1), .second, .val (.long q2), .second, .val (.long q3), .second, .val (.long q4), .second, .val (.long q5), .second, .val (.long q6), .second, .val (.long ((((0 : Int64) + q2) + q4) + q6)), .second] [(.long ((((0 : Int64) + q2) + q4) + q6))])
        refine Goes.retL S B d_method_3_46 (by decide) (by decide) ?_
        exact ⟨(by simp [own_ge, own_stp, *]), rfl⟩
theorem ef_rm_gt (m : MethodId) (q0 : Int64) (q1 : Int64) (q2 : Int64) (q3 : Int64) (q4 : Int64) (q5 : Int64) (q6 : Int64) : entryFrame m #[(.long q0), (.long q1), (.long q2), (.long q3), (.long q4), (.long q5), (.long q6)] 16 = mkF m 0 #[.val (.long q0), .second, .val (.long q1), .second, .val (.long q2), .second, .val (.long q3), .second, .val (.long q4), .second, .val (.long q5), .second, .val (.long q6), .second, .unset, .unset] [] := by first | (simp [entryFrame, mkF, argsToLocals, Value.category]; done) | rfl
def Q_rm_gt (Z : State) (q0 : Int64) (q1 : Int64) (q2 : Int64) (q3 : Int64) (q4 : Int64) (q5 : Int64) (q6 : Int64) (h0 : Heap) (n0 : Nat) (v : Option Value) (h : Heap) : Prop := v = some (.long (own_gt q0 q1 q2 q3 q4 q5 q6)) ∧ h = h0
set_option maxRecDepth 65536 in
set_option maxHeartbeats 40000000 in
theorem rm_gt (l : Launch) (Z : State) (aw : Array Value) (hw : ∀ d ∈ tables_1, d.before aw Z = true) (q0 : Int64) (q1 : Int64) (q2 : Int64) (q3 : Int64) (q4 : Int64) (q5 : Int64) (q6 : Int64) (h0 : Heap) (n0 : Nat) :
    Con l Z (⟨"com/example/bucket_brigade/bucketbrigade/PermitLogNewestPinLaw", "after", "(JJJJJJJ)J"⟩ : MethodName) method_4_code 16 (some .long) ({ frames := 0, cells := 0, slots := 0, locals := 0 } : Room) #[(.long q0), (.long q1), (.long q2), (.long q3), (.long q4), (.long q5), (.long q6)] h0 n0 (Q_rm_gt Z q0 q1 q2 q3 q4 q5 q6 h0 n0) := by
  refine Con.body (plainFor_of_name pn_1) ?_
  intro pr_ en_ st_ me_ below meth co_ T B S
  refine Goes.cast (ef_rm_gt me_ q0 q1 q2 q3 q4 q5 q6) ?_
  refine Goes.go (fun _ => XS.lconst S.here B.x rfl (B.d d_method_4_0)) ?_
  show Goes _ _ _ _ T (mkF me_ 1 #[.val (.long q0), .second, .val (.long q1), .second, .val (.long q2), .second, .val (.long q3), .second, .val (.long q4), .second, .val (.long q5), .second, .val (.long q6), .second, .unset, .unset] [(.long (0 : Int64))])
  refine Goes.go (fun _ => XS.lstore S.here B.x rfl (B.d d_method_4_1) rfl (l' := #[.val (.long q0), .second, .val (.long q1), .second, .val (.long q2), .second, .val (.long q3), .second, .val (.long q4), .second, .val (.long q5), .second, .val (.long q6), .second, .val (.long (0 : Int64)), .second]) rfl) ?_
  show Goes _ _ _ _ T (mkF me_ 3 #[.val (.long q0), .second, .val (.long q1), .second, .val (.long q2), .second, .val (.long q3), .second, .val (.long q4), .second, .val (.long q5), .second, .val (.long q6), .second, .val (.long (0 : Int64)), .second] [])
  refine Goes.go (fun _ => XS.lloadN S.here B.x rfl (B.d d_method_4_3) rfl) ?_
  show Goes _ _ _ _ T (mkF me_ 4 #[.val (.long q0), .second, .val (.long q1), .second, .val (.long q2), .second, .val (.long q3), .second, .val (.long q4), .second, .val (.long q5), .second, .val (.long q6), .second, .val (.long (0 : Int64)), .second] [(.long q1)])
  refine Goes.go (fun _ => XS.lloadN S.here B.x rfl (B.d d_method_4_4) rfl) ?_
  show Goes _ _ _ _ T (mkF me_ 5 #[.val (.long q0), .second, .val (.long q1), .second, .val (.long q2), .second, .val (.long q3), .second, .val (.long q4), .second, .val (.long q5), .second, .val (.long q6), .second, .val (.long (0 : Int64)), .second] [(.long q0), (.long q1)])
  refine Goes.go (fun _ => XS.lcmp S.here B.x rfl (B.d d_method_4_5) rfl) ?_
  show Goes _ _ _ _ T (mkF me_ 6 #[.val (.long q0), .second, .val (.long q1), .second, .val (.long q2), .second, .val (.long q3), .second, .val (.long q4), .second, .val (.long q5), .second, .val (.long q6), .second, .val (.long (0 : Int64)), .second] [(.int (lcmpW q1 q0))])
  by_cases hc6 : q0 < q1
  · skip
    refine Goes.go (fun _ => XS.ifNo S.here B.x rfl (B.d d_method_4_6) rfl ((if0 _ _).trans (tlt ((lw_gt q1 q0).mpr hc6)).2.2.2)) ?_
    show Goes _ _ _ _ T (mkF me_ 9 #[.val (.long q0), .second, .val (.long q1), .second, .val (.long q2), .second, .val (.long q3), .second, .val (.long q4), .second, .val (.long q5), .second, .val (.long q6), .second, .val (.long (0 : Int64)), .second] [])
    refine Goes.go (fun _ => XS.lload S.here B.x rfl (B.d d_method_4_9) rfl) ?_
    show Goes _ _ _ _ T (mkF me_ 11 #[.val (.long q0), .second, .val (.long q1), .second, .val (.long q2), .second, .val (.long q3), .second, .val (.long q4), .second, .val (.long q5), .second, .val (.long q6), .second, .val (.long (0 : Int64)), .second] [(.long (0 : Int64))])
    refine Goes.go (fun _ => XS.lload S.here B.x rfl (B.d d_method_4_11) rfl) ?_
    show Goes _ _ _ _ T (mkF me_ 13 #[.val (.long q0), .second, .val (.long q1), .second, .val (.long q2), .second, .val (.long q3), .second, .val (.long q4), .second, .val (.long q5), .second, .val (.long q6), .second, .val (.long (0 : Int64)), .second] [(.long q2), (.long (0 : Int64))])
    refine Goes.go (fun _ => XS.ladd S.here B.x rfl (B.d d_method_4_13) rfl) ?_
    show Goes _ _ _ _ T (mkF me_ 14 #[.val (.long q0), .second, .val (.long q1), .second, .val (.long q2), .second, .val (.long q3), .second, .val (.long q4), .second, .val (.long q5), .second, .val (.long q6), .second, .val (.long (0 : Int64)), .second] [(.long ((0 : Int64) + q2))])
    refine Goes.go (fun _ => XS.lstore S.here B.x rfl (B.d d_method_4_14) rfl (l' := #[.val (.long q0), .second, .val (.long q1), .second, .val (.long q2), .second, .val (.long q3), .second, .val (.long q4), .second, .val (.long q5), .second, .val (.long q6), .second, .val (.long ((0 : Int64) + q2)), .second]) rfl) ?_
    show Goes _ _ _ _ T (mkF me_ 16 #[.val (.long q0), .second, .val (.long q1), .second, .val (.long q2), .second, .val (.long q3), .second, .val (.long q4), .second, .val (.long q5), .second, .val (.long q6), .second, .val (.long ((0 : Int64) + q2)), .second] [])
    refine Goes.go (fun _ => XS.lload S.here B.x rfl (B.d d_method_4_16) rfl) ?_
    show Goes _ _ _ _ T (mkF me_ 18 #[.val (.long q0), .second, .val (.long q1), .second, .val (.long q2), .second, .val (.long q3), .second, .val (.long q4), .second, .val (.long q5), .second, .val (.long q6), .second, .val (.long ((0 : Int64) + q2)), .second] [(.long q3)])
    refine Goes.go (fun _ => XS.lloadN S.here B.x rfl (B.d d_method_4_18) rfl) ?_
    show Goes _ _ _ _ T (mkF me_ 19 #[.val (.long q0), .second, .val (.long q1), .second, .val (.long q2), .second, .val (.long q3), .second, .val (.long q4), .second, .val (.long q5), .second, .val (.long q6), .second, .val (.long ((0 : Int64) + q2)), .second] [(.long q0), (.long q3)])
    refine Goes.go (fun _ => XS.lcmp S.here B.x rfl (B.d d_method_4_19) rfl) ?_
    show Goes _ _ _ _ T (mkF me_ 20 #[.val (.long q0), .second, .val (.long q1), .second, .val (.long q2), .second, .val (.long q3), .second, .val (.long q4), .second, .val (.long q5), .second, .val (.long q6), .second, .val (.long ((0 : Int64) + q2)), .second] [(.int (lcmpW q3 q0))])
    by_cases hc20 : q0 < q3
    · skip
      refine Goes.go (fun _ => XS.ifNo S.here B.x rfl (B.d d_method_4_20) rfl ((if0 _ _).trans (tlt ((lw_gt q3 q0).mpr hc20)).2.2.2)) ?_
      show Goes _ _ _ _ T (mkF me_ 23 #[.val (.long q0), .second, .val (.long q1), .second, .val (.long q2), .second, .val (.long q3), .second, .val (.long q4), .second, .val (.long q5), .second, .val (.long q6), .second, .val (.long ((0 : Int64) + q2)), .second] [])
      refine Goes.go (fun _ => XS.lload S.here B.x rfl (B.d d_method_4_23) rfl) ?_
      show Goes _ _ _ _ T (mkF me_ 25 #[.val (.long q0), .second, .val (.long q1), .second, .val (.long q2), .second, .val (.long q3), .second, .val (.long q4), .second, .val (.long q5), .second, .val (.long q6), .second, .val (.long ((0 : Int64) + q2)), .second] [(.long ((0 : Int64) + q2))])
      refine Goes.go (fun _ => XS.lload S.here B.x rfl (B.d d_method_4_25) rfl) ?_
      show Goes _ _ _ _ T (mkF me_ 27 #[.val (.long q0), .second, .val (.long q1), .second, .val (.long q2), .second, .val (.long q3), .second, .val (.long q4), .second, .val (.long q5), .second, .val (.long q6), .second, .val (.long ((0 : Int64) + q2)), .second] [(.long q4), (.long ((0 : Int64) + q2))])
      refine Goes.go (fun _ => XS.ladd S.here B.x rfl (B.d d_method_4_27) rfl) ?_
      show Goes _ _ _ _ T (mkF me_ 28 #[.val (.long q0), .second, .val (.long q1), .second, .val (.long q2), .second, .val (.long q3), .second, .val (.long q4), .second, .val (.long q5), .second, .val (.long q6), .second, .val (.long ((0 : Int64) + q2)), .second] [(.long (((0 : Int64) + q2) + q4))])
      refine Goes.go (fun _ => XS.lstore S.here B.x rfl (B.d d_method_4_28) rfl (l' := #[.val (.long q0), .second, .val (.long q1), .second, .val (.long q2), .second, .val (.long q3), .second, .val (.long q4), .second, .val (.long q5), .second, .val (.long q6), .second, .val (.long (((0 : Int64) + q2) + q4)), .second]) rfl) ?_
      show Goes _ _ _ _ T (mkF me_ 30 #[.val (.long q0), .second, .val (.long q1), .second, .val (.long q2), .second, .val (.long q3), .second, .val (.long q4), .second, .val (.long q5), .second, .val (.long q6), .second, .val (.long (((0 : Int64) + q2) + q4)), .second] [])
      refine Goes.go (fun _ => XS.lload S.here B.x rfl (B.d d_method_4_30) rfl) ?_
      show Goes _ _ _ _ T (mkF me_ 32 #[.val (.long q0), .second, .val (.long q1), .second, .val (.long q2), .second, .val (.long q3), .second, .val (.long q4), .second, .val (.long q5), .second, .val (.long q6), .second, .val (.long (((0 : Int64) + q2) + q4)), .second] [(.long q5)])
      refine Goes.go (fun _ => XS.lloadN S.here B.x rfl (B.d d_method_4_32) rfl) ?_
      show Goes _ _ _ _ T (mkF me_ 33 #[.val (.long q0), .second, .val (.long q1), .second, .val (.long q2), .second, .val (.long q3), .second, .val (.long q4), .second, .val (.long q5), .second, .val (.long q6), .second, .val (.long (((0 : Int64) + q2) + q4)), .second] [(.long q0), (.long q5)])
      refine Goes.go (fun _ => XS.lcmp S.here B.x rfl (B.d d_method_4_33) rfl) ?_
      show Goes _ _ _ _ T (mkF me_ 34 #[.val (.long q0), .second, .val (.long q1), .second, .val (.long q2), .second, .val (.long q3), .second, .val (.long q4), .second, .val (.long q5), .second, .val (.long q6), .second, .val (.long (((0 : Int64) + q2) + q4)), .second] [(.int (lcmpW q5 q0))])
      by_cases hc34 : q0 < q5
      · skip
        refine Goes.go (fun _ => XS.ifNo S.here B.x rfl (B.d d_method_4_34) rfl ((if0 _ _).trans (tlt ((lw_gt q5 q0).mpr hc34)).2.2.2)) ?_
        show Goes _ _ _ _ T (mkF me_ 37 #[.val (.long q0), .second, .val (.long q1), .second, .val (.long q2), .second, .val (.long q3), .second, .val (.long q4), .second, .val (.long q5), .second, .val (.long q6), .second, .val (.long (((0 : Int64) + q2) + q4)), .second] [])
        refine Goes.go (fun _ => XS.lload S.here B.x rfl (B.d d_method_4_37) rfl) ?_
        show Goes _ _ _ _ T (mkF me_ 39 #[.val (.long q0), .second, .val (.long q1), .second, .val (.long q2), .second, .val (.long q3), .second, .val (.long q4), .second, .val (.long q5), .second, .val (.long q6), .second, .val (.long (((0 : Int64) + q2) + q4)), .second] [(.long (((0 : Int64) + q2) + q4))])
        refine Goes.go (fun _ => XS.lload S.here B.x rfl (B.d d_method_4_39) rfl) ?_
        show Goes _ _ _ _ T (mkF me_ 41 #[.val (.long q0), .second, .val (.long q1), .second, .val (.long q2), .second, .val (.long q3), .second, .val (.long q4), .second, .val (.long q5), .second, .val (.long q6), .second, .val (.long (((0 : Int64) + q2) + q4)), .second] [(.long q6), (.long (((0 : Int64) + q2) + q4))])
        refine Goes.go (fun _ => XS.ladd S.here B.x rfl (B.d d_method_4_41) rfl) ?_
        show Goes _ _ _ _ T (mkF me_ 42 #[.val (.long q0), .second, .val (.long q1), .second, .val (.long q2), .second, .val (.long q3), .second, .val (.long q4), .second, .val (.long q5), .second, .val (.long q6), .second, .val (.long (((0 : Int64) + q2) + q4)), .second] [(.long ((((0 : Int64) + q2) + q4) + q6))])
        refine Goes.go (fun _ => XS.lstore S.here B.x rfl (B.d d_method_4_42) rfl (l' := #[.val (.long q0), .second, .val (.long q1), .second, .val (.long q2), .second, .val (.long q3), .second, .val (.long q4), .second, .val (.long q5), .second, .val (.long q6), .second, .val (.long ((((0 : Int64) + q2) + q4) + q6)), .second]) rfl) ?_
        show Goes _ _ _ _ T (mkF me_ 44 #[.val (.long q0), .second, .val (.long q1), .second, .val (.long q2), .second, .val (.long q3), .second, .val (.long q4), .second, .val (.long q5), .second, .val (.long q6), .second, .val (.long ((((0 : Int64) + q2) + q4) + q6)), .second] [])
        refine Goes.go (fun _ => XS.lload S.here B.x rfl (B.d d_method_4_44) rfl) ?_
        show Goes _ _ _ _ T (mkF me_ 46 #[.val (.long q0), .second, .val (.long q1), .second, .val (.long q2), .second, .val (.long q3), .second, .val (.long q4), .second, .val (.long q5), .second, .val (.long q6), .second, .val (.long ((((0 : Int64) + q2) + q4) + q6)), .second] [(.long ((((0 : Int64) + q2) + q4) + q6))])
        refine Goes.retL S B d_method_4_46 (by decide) (by decide) ?_
        exact ⟨(by simp [own_gt, own_stp, *]), rfl⟩
      · skip
        refine Goes.go (fun _ => XS.ifYes S.here B.x rfl (pc0 := 34) (pc' := 44) rfl (B.d d_method_4_34) rfl ((if0 _ _).trans (flt (mt (lw_gt q5 q0).mp hc34)).2.2.2) (by decide) (by decide)) ?_
        show Goes _ _ _ _ T (mkF me_ 44 #[.val (.long q0), .second, .val (.long q1), .second, .val (.long q2), .second, .val (.long q3), .second, .val (.long q4), .second, .val (.long q5), .second, .val (.long q6), .second, .val (.long (((0 : Int64) + q2) + q4)), .second] [])
        refine Goes.go (fun _ => XS.lload S.here B.x rfl (B.d d_method_4_44) rfl) ?_
        show Goes _ _ _ _ T (mkF me_ 46 #[.val (.long q0), .second, .val (.long q1), .second, .val (.long q2), .second, .val (.long q3), .second, .val (.long q4), .second, .val (.long q5), .second, .val (.long q6), .second, .val (.long (((0 : Int64) + q2) + q4)), .second] [(.long (((0 : Int64) + q2) + q4))])
        refine Goes.retL S B d_method_4_46 (by decide) (by decide) ?_
        exact ⟨(by simp [own_gt, own_stp, *]), rfl⟩
    · skip
      refine Goes.go (fun _ => XS.ifYes S.here B.x rfl (pc0 := 20) (pc' := 30) rfl (B.d d_method_4_20) rfl ((if0 _ _).trans (flt (mt (lw_gt q3 q0).mp hc20)).2.2.2) (by decide) (by decide)) ?_
      show Goes _ _ _ _ T (mkF me_ 30 #[.val (.long q0), .second, .val (.long q1), .second, .val (.long q2), .second, .val (.long q3), .second, .val (.long q4), .second, .val (.long q5), .second, .val (.long q6), .second, .val (.long ((0 : Int64) + q2)), .second] [])
      refine Goes.go (fun _ => XS.lload S.here B.x rfl (B.d d_method_4_30) rfl) ?_
      show Goes _ _ _ _ T (mkF me_ 32 #[.val (.long q0), .second, .val (.long q1), .second, .val (.long q2), .second, .val (.long q3), .second, .val (.long q4), .second, .val (.long q5), .second, .val (.long q6), .second, .val (.long ((0 : Int64) + q2)), .second] [(.long q5)])
      refine Goes.go (fun _ => XS.lloadN S.here B.x rfl (B.d d_method_4_32) rfl) ?_
      show Goes _ _ _ _ T (mkF me_ 33 #[.val (.long q0), .second, .val (.long q1), .second, .val (.long q2), .second, .val (.long q3), .second, .val (.long q4), .second, .val (.long q5), .second, .val (.long q6), .second, .val (.long ((0 : Int64) + q2)), .second] [(.long q0), (.long q5)])
      refine Goes.go (fun _ => XS.lcmp S.here B.x rfl (B.d d_method_4_33) rfl) ?_
      show Goes _ _ _ _ T (mkF me_ 34 #[.val (.long q0), .second, .val (.long q1), .second, .val (.long q2), .second, .val (.long q3), .second, .val (.long q4), .second, .val (.long q5), .second, .val (.long q6), .second, .val (.long ((0 : Int64) + q2)), .second] [(.int (lcmpW q5 q0))])
      by_cases hc34 : q0 < q5
      · skip
        refine Goes.go (fun _ => XS.ifNo S.here B.x rfl (B.d d_method_4_34) rfl ((if0 _ _).trans (tlt ((lw_gt q5 q0).mpr hc34)).2.2.2)) ?_
        show Goes _ _ _ _ T (mkF me_ 37 #[.val (.long q0), .second, .val (.long q1), .second, .val (.long q2), .second, .val (.long q3), .second, .val (.long q4), .second, .val (.long q5), .second, .val (.long q6), .second, .val (.long ((0 : Int64) + q2)), .second] [])
        refine Goes.go (fun _ => XS.lload S.here B.x rfl (B.d d_method_4_37) rfl) ?_
        show Goes _ _ _ _ T (mkF me_ 39 #[.val (.long q0), .second, .val (.long q1), .second, .val (.long q2), .second, .val (.long q3), .second, .val (.long q4), .second, .val (.long q5), .second, .val (.long q6), .second, .val (.long ((0 : Int64) + q2)), .second] [(.long ((0 : Int64) + q2))])
        refine Goes.go (fun _ => XS.lload S.here B.x rfl (B.d d_method_4_39) rfl) ?_
        show Goes _ _ _ _ T (mkF me_ 41 #[.val (.long q0), .second, .val (.long q1), .second, .val (.long q2), .second, .val (.long q3), .second, .val (.long q4), .second, .val (.long q5), .second, .val (.long q6), .second, .val (.long ((0 : Int64) + q2)), .second] [(.long q6), (.long ((0 : Int64) + q2))])
        refine Goes.go (fun _ => XS.ladd S.here B.x rfl (B.d d_method_4_41) rfl) ?_
        show Goes _ _ _ _ T (mkF me_ 42 #[.val (.long q0), .second, .val (.long q1), .second, .val (.long q2), .second, .val (.long q3), .second, .val (.long q4), .second, .val (.long q5), .second, .val (.long q6), .second, .val (.long ((0 : Int64) + q2)), .second] [(.long (((0 : Int64) + q2) + q6))])
        refine Goes.go (fun _ => XS.lstore S.here B.x rfl (B.d d_method_4_42) rfl (l' := #[.val (.long q0), .second, .val (.long q1), .second, .val (.long q2), .second, .val (.long q3), .second, .val (.long q4), .second, .val (.long q5), .second, .val (.long q6), .second, .val (.long (((0 : Int64) + q2) + q6)), .second]) rfl) ?_
        show Goes _ _ _ _ T (mkF me_ 44 #[.val (.long q0), .second, .val (.long q1), .second, .val (.long q2), .second, .val (.long q3), .second, .val (.long q4), .second, .val (.long q5), .second, .val (.long q6), .second, .val (.long (((0 : Int64) + q2) + q6)), .second] [])
        refine Goes.go (fun _ => XS.lload S.here B.x rfl (B.d d_method_4_44) rfl) ?_
        show Goes _ _ _ _ T (mkF me_ 46 #[.val (.long q0), .second, .val (.long q1), .second, .val (.long q2), .second, .val (.long q3), .second, .val (.long q4), .second, .val (.long q5), .second, .val (.long q6), .second, .val (.long (((0 : Int64) + q2) + q6)), .second] [(.long (((0 : Int64) + q2) + q6))])
        refine Goes.retL S B d_method_4_46 (by decide) (by decide) ?_
        exact ⟨(by simp [own_gt, own_stp, *]), rfl⟩
      · skip
        refine Goes.go (fun _ => XS.ifYes S.here B.x rfl (pc0 := 34) (pc' := 44) rfl (B.d d_method_4_34) rfl ((if0 _ _).trans (flt (mt (lw_gt q5 q0).mp hc34)).2.2.2) (by decide) (by decide)) ?_
        show Goes _ _ _ _ T (mkF me_ 44 #[.val (.long q0), .second, .val (.long q1), .second, .val (.long q2), .second, .val (.long q3), .second, .val (.long q4), .second, .val (.long q5), .second, .val (.long q6), .second, .val (.long ((0 : Int64) + q2)), .second] [])
        refine Goes.go (fun _ => XS.lload S.here B.x rfl (B.d d_method_4_44) rfl) ?_
        show Goes _ _ _ _ T (mkF me_ 46 #[.val (.long q0), .second, .val (.long q1), .second, .val (.long q2), .second, .val (.long q3), .second, .val (.long q4), .second, .val (.long q5), .second, .val (.long q6), .second, .val (.long ((0 : Int64) + q2)), .second] [(.long ((0 : Int64) + q2))])
        refine Goes.retL S B d_method_4_46 (by decide) (by decide) ?_
        exact ⟨(by simp [own_gt, own_stp, *]), rfl⟩
  · skip
    refine Goes.go (fun _ => XS.ifYes S.here B.x rfl (pc0 := 6) (pc' := 16) rfl (B.d d_method_4_6) rfl ((if0 _ _).trans (flt (mt (lw_gt q1 q0).mp hc6)).2.2.2) (by decide) (by decide)) ?_
    show Goes _ _ _ _ T (mkF me_ 16 #[.val (.long q0), .second, .val (.long q1), .second, .val (.long q2), .second, .val (.long q3), .second, .val (.long q4), .second, .val (.long q5), .second, .val (.long q6), .second, .val (.long (0 : Int64)), .second] [])
    refine Goes.go (fun _ => XS.lload S.here B.x rfl (B.d d_method_4_16) rfl) ?_
    show Goes _ _ _ _ T (mkF me_ 18 #[.val (.long q0), .second, .val (.long q1), .second, .val (.long q2), .second, .val (.long q3), .second, .val (.long q4), .second, .val (.long q5), .second, .val (.long q6), .second, .val (.long (0 : Int64)), .second] [(.long q3)])
    refine Goes.go (fun _ => XS.lloadN S.here B.x rfl (B.d d_method_4_18) rfl) ?_
    show Goes _ _ _ _ T (mkF me_ 19 #[.val (.long q0), .second, .val (.long q1), .second, .val (.long q2), .second, .val (.long q3), .second, .val (.long q4), .second, .val (.long q5), .second, .val (.long q6), .second, .val (.long (0 : Int64)), .second] [(.long q0), (.long q3)])
    refine Goes.go (fun _ => XS.lcmp S.here B.x rfl (B.d d_method_4_19) rfl) ?_
    show Goes _ _ _ _ T (mkF me_ 20 #[.val (.long q0), .second, .val (.long q1), .second, .val (.long q2), .second, .val (.long q3), .second, .val (.long q4), .second, .val (.long q5), .second, .val (.long q6), .second, .val (.long (0 : Int64)), .second] [(.int (lcmpW q3 q0))])
    by_cases hc20 : q0 < q3
    · skip
      refine Goes.go (fun _ => XS.ifNo S.here B.x rfl (B.d d_method_4_20) rfl ((if0 _ _).trans (tlt ((lw_gt q3 q0).mpr hc20)).2.2.2)) ?_
      show Goes _ _ _ _ T (mkF me_ 23 #[.val (.long q0), .second, .val (.long q1), .second, .val (.long q2), .second, .val (.long q3), .second, .val (.long q4), .second, .val (.long q5), .second, .val (.long q6), .second, .val (.long (0 : Int64)), .second] [])
      refine Goes.go (fun _ => XS.lload S.here B.x rfl (B.d d_method_4_23) rfl) ?_
      show Goes _ _ _ _ T (mkF me_ 25 #[.val (.long q0), .second, .val (.long q1), .second, .val (.long q2), .second, .val (.long q3), .second, .val (.long q4), .second, .val (.long q5), .second, .val (.long q6), .second, .val (.long (0 : Int64)), .second] [(.long (0 : Int64))])
      refine Goes.go (fun _ => XS.lload S.here B.x rfl (B.d d_method_4_25) rfl) ?_
      show Goes _ _ _ _ T (mkF me_ 27 #[.val (.long q0), .second, .val (.long q1), .second, .val (.long q2), .second, .val (.long q3), .second, .val (.long q4), .second, .val (.long q5), .second, .val (.long q6), .second, .val (.long (0 : Int64)), .second] [(.long q4), (.long (0 : Int64))])
      refine Goes.go (fun _ => XS.ladd S.here B.x rfl (B.d d_method_4_27) rfl) ?_
      show Goes _ _ _ _ T (mkF me_ 28 #[.val (.long q0), .second, .val (.long q1), .second, .val (.long q2), .second, .val (.long q3), .second, .val (.long q4), .second, .val (.long q5), .second, .val (.long q6), .second, .val (.long (0 : Int64)), .second] [(.long ((0 : Int64) + q4))])
      refine Goes.go (fun _ => XS.lstore S.here B.x rfl (B.d d_method_4_28) rfl (l' := #[.val (.long q0), .second, .val (.long q1), .second, .val (.long q2), .second, .val (.long q3), .second, .val (.long q4), .second, .val (.long q5), .second, .val (.long q6), .second, .val (.long ((0 : Int64) + q4)), .second]) rfl) ?_
      show Goes _ _ _ _ T (mkF me_ 30 #[.val (.long q0), .second, .val (.long q1), .second, .val (.long q2), .second, .val (.long q3), .second, .val (.long q4), .second, .val (.long q5), .second, .val (.long q6), .second, .val (.long ((0 : Int64) + q4)), .second] [])
      refine Goes.go (fun _ => XS.lload S.here B.x rfl (B.d d_method_4_30) rfl) ?_
      show Goes _ _ _ _ T (mkF me_ 32 #[.val (.long q0), .second, .val (.long q1), .second, .val (.long q2), .second, .val (.long q3), .second, .val (.long q4), .second, .val (.long q5), .second, .val (.long q6), .second, .val (.long ((0 : Int64) + q4)), .second] [(.long q5)])
      refine Goes.go (fun _ => XS.lloadN S.here B.x rfl (B.d d_method_4_32) rfl) ?_
      show Goes _ _ _ _ T (mkF me_ 33 #[.val (.long q0), .second, .val (.long q1), .second, .val (.long q2), .second, .val (.long q3), .second, .val (.long q4), .second, .val (.long q5), .second, .val (.long q6), .second, .val (.long ((0 : Int64) + q4)), .second] [(.long q0), (.long q5)])
      refine Goes.go (fun _ => XS.lcmp S.here B.x rfl (B.d d_method_4_33) rfl) ?_
      show Goes _ _ _ _ T (mkF me_ 34 #[.val (.long q0), .second, .val (.long q1), .second, .val (.long q2), .second, .val (.long q3), .second, .val (.long q4), .second, .val (.long q5), .second, .val (.long q6), .second, .val (.long ((0 : Int64) + q4)), .second] [(.int (lcmpW q5 q0))])
      by_cases hc34 : q0 < q5
      · skip
        refine Goes.go (fun _ => XS.ifNo S.here B.x rfl (B.d d_method_4_34) rfl ((if0 _ _).trans (tlt ((lw_gt q5 q0).mpr hc34)).2.2.2)) ?_
        show Goes _ _ _ _ T (mkF me_ 37 #[.val (.long q0), .second, .val (.long q1), .second, .val (.long q2), .second, .val (.long q3), .second, .val (.long q4), .second, .val (.long q5), .second, .val (.long q6), .second, .val (.long ((0 : Int64) + q4)), .second] [])
        refine Goes.go (fun _ => XS.lload S.here B.x rfl (B.d d_method_4_37) rfl) ?_
        show Goes _ _ _ _ T (mkF me_ 39 #[.val (.long q0), .second, .val (.long q1), .second, .val (.long q2), .second, .val (.long q3), .second, .val (.long q4), .second, .val (.long q5), .second, .val (.long q6), .second, .val (.long ((0 : Int64) + q4)), .second] [(.long ((0 : Int64) + q4))])
        refine Goes.go (fun _ => XS.lload S.here B.x rfl (B.d d_method_4_39) rfl) ?_
        show Goes _ _ _ _ T (mkF me_ 41 #[.val (.long q0), .second, .val (.long q1), .second, .val (.long q2), .second, .val (.long q3), .second, .val (.long q4), .second, .val (.long q5), .second, .val (.long q6), .second, .val (.long ((0 : Int64) + q4)), .second] [(.long q6), (.long ((0 : Int64) + q4))])
        refine Goes.go (fun _ => XS.ladd S.here B.x rfl (B.d d_method_4_41) rfl) ?_
        show Goes _ _ _ _ T (mkF me_ 42 #[.val (.long q0), .second, .val (.long q1), .second, .val (.long q2), .second, .val (.long q3), .second, .val (.long q4), .second, .val (.long q5), .second, .val (.long q6), .second, .val (.long ((0 : Int64) + q4)), .second] [(.long (((0 : Int64) + q4) + q6))])
        refine Goes.go (fun _ => XS.lstore S.here B.x rfl (B.d d_method_4_42) rfl (l' := #[.val (.long q0), .second, .val (.long q1), .second, .val (.long q2), .second, .val (.long q3), .second, .val (.long q4), .second, .val (.long q5), .second, .val (.long q6), .second, .val (.long (((0 : Int64) + q4) + q6)), .second]) rfl) ?_
        show Goes _ _ _ _ T (mkF me_ 44 #[.val (.long q0), .second, .val (.long q1), .second, .val (.long q2), .second, .val (.long q3), .second, .val (.long q4), .second, .val (.long q5), .second, .val (.long q6), .second, .val (.long (((0 : Int64) + q4) + q6)), .second] [])
        refine Goes.go (fun _ => XS.lload S.here B.x rfl (B.d d_method_4_44) rfl) ?_
        show Goes _ _ _ _ T (mkF me_ 46 #[.val (.long q0), .second, .val (.long q1), .second, .val (.long q2), .second, .val (.long q3), .second, .val (.long q4), .second, .val (.long q5), .second, .val (.long q6), .second, .val (.long (((0 : Int64) + q4) + q6)), .second] [(.long (((0 : Int64) + q4) + q6))])
        refine Goes.retL S B d_method_4_46 (by decide) (by decide) ?_
        exact ⟨(by simp [own_gt, own_stp, *]), rfl⟩
      · skip
        refine Goes.go (fun _ => XS.ifYes S.here B.x rfl (pc0 := 34) (pc' := 44) rfl (B.d d_method_4_34) rfl ((if0 _ _).trans (flt (mt (lw_gt q5 q0).mp hc34)).2.2.2) (by decide) (by decide)) ?_
        show Goes _ _ _ _ T (mkF me_ 44 #[.val (.long q0), .second, .val (.long q1), .second, .val (.long q2), .second, .val (.long q3), .second, .val (.long q4), .second, .val (.long q5), .second, .val (.long q6), .second, .val (.long ((0 : Int64) + q4)), .second] [])
        refine Goes.go (fun _ => XS.lload S.here B.x rfl (B.d d_method_4_44) rfl) ?_
        show Goes _ _ _ _ T (mkF me_ 46 #[.val (.long q0), .second, .val (.long q1), .second, .val (.long q2), .second, .val (.long q3), .second, .val (.long q4), .second, .val (.long q5), .second, .val (.long q6), .second, .val (.long ((0 : Int64) + q4)), .second] [(.long ((0 : Int64) + q4))])
        refine Goes.retL S B d_method_4_46 (by decide) (by decide) ?_
        exact ⟨(by simp [own_gt, own_stp, *]), rfl⟩
    · skip
      refine Goes.go (fun _ => XS.ifYes S.here B.x rfl (pc0 := 20) (pc' := 30) rfl (B.d d_method_4_20) rfl ((if0 _ _).trans (flt (mt (lw_gt q3 q0).mp hc20)).2.2.2) (by decide) (by decide)) ?_
      show Goes _ _ _ _ T (mkF me_ 30 #[.val (.long q0), .second, .val (.long q1), .second, .val (.long q2), .second, .val (.long q3), .second, .val (.long q4), .second, .val (.long q5), .second, .val (.long q6), .second, .val (.long (0 : Int64)), .second] [])
      refine Goes.go (fun _ => XS.lload S.here B.x rfl (B.d d_method_4_30) rfl) ?_
      show Goes _ _ _ _ T (mkF me_ 32 #[.val (.long q0), .second, .val (.long q1), .second, .val (.long q2), .second, .val (.long q3), .second, .val (.long q4), .second, .val (.long q5), .second, .val (.long q6), .second, .val (.long (0 : Int64)), .second] [(.long q5)])
      refine Goes.go (fun _ => XS.lloadN S.here B.x rfl (B.d d_method_4_32) rfl) ?_
      show Goes _ _ _ _ T (mkF me_ 33 #[.val (.long q0), .second, .val (.long q1), .second, .val (.long q2), .second, .val (.long q3), .second, .val (.long q4), .second, .val (.long q5), .second, .val (.long q6), .second, .val (.long (0 : Int64)), .second] [(.long q0), (.long q5)])
      refine Goes.go (fun _ => XS.lcmp S.here B.x rfl (B.d d_method_4_33) rfl) ?_
      show Goes _ _ _ _ T (mkF me_ 34 #[.val (.long q0), .second, .val (.long q1), .second, .val (.long q2), .second, .val (.long q3), .second, .val (.long q4), .second, .val (.long q5), .second, .val (.long q6), .second, .val (.long (0 : Int64)), .second] [(.int (lcmpW q5 q0))])
      by_cases hc34 : q0 < q5
      · skip
        refine Goes.go (fun _ => XS.ifNo S.here B.x rfl (B.d d_method_4_34) rfl ((if0 _ _).trans (tlt ((lw_gt q5 q0).mpr hc34)).2.2.2)) ?_
        show Goes _ _ _ _ T (mkF me_ 37 #[.val (.long q0), .second, .val (.long q1), .second, .val (.long q2), .second, .val (.long q3), .second, .val (.long q4), .second, .val (.long q5), .second, .val (.long q6), .second, .val (.long (0 : Int64)), .second] [])
        refine Goes.go (fun _ => XS.lload S.here B.x rfl (B.d d_method_4_37) rfl) ?_
        show Goes _ _ _ _ T (mkF me_ 39 #[.val (.long q0), .second, .val (.long q1), .second, .val (.long q2), .second, .val (.long q3), .second, .val (.long q4), .second, .val (.long q5), .second, .val (.long q6), .second, .val (.long (0 : Int64)), .second] [(.long (0 : Int64))])
        refine Goes.go (fun _ => XS.lload S.here B.x rfl (B.d d_method_4_39) rfl) ?_
        show Goes _ _ _ _ T (mkF me_ 41 #[.val (.long q0), .second, .val (.long q1), .second, .val (.long q2), .second, .val (.long q3), .second, .val (.long q4), .second, .val (.long q5), .second, .val (.long q6), .second, .val (.long (0 : Int64)), .second] [(.long q6), (.long (0 : Int64))])
        refine Goes.go (fun _ => XS.ladd S.here B.x rfl (B.d d_method_4_41) rfl) ?_
        show Goes _ _ _ _ T (mkF me_ 42 #[.val (.long q0), .second, .val (.long q1), .second, .val (.long q2), .second, .val (.long q3), .second, .val (.long q4), .second, .val (.long q5), .second, .val (.long q6), .second, .val (.long (0 : Int64)), .second] [(.long ((0 : Int64) + q6))])
        refine Goes.go (fun _ => XS.lstore S.here B.x rfl (B.d d_method_4_42) rfl (l' := #[.val (.long q0), .second, .val (.long q1), .second, .val (.long q2), .second, .val (.long q3), .second, .val (.long q4), .second, .val (.long q5), .second, .val (.long q6), .second, .val (.long ((0 : Int64) + q6)), .second]) rfl) ?_
        show Goes _ _ _ _ T (mkF me_ 44 #[.val (.long q0), .second, .val (.long q1), .second, .val (.long q2), .second, .val (.long q3), .second, .val (.long q4), .second, .val (.long q5), .second, .val (.long q6), .second, .val (.long ((0 : Int64) + q6)), .second] [])
        refine Goes.go (fun _ => XS.lload S.here B.x rfl (B.d d_method_4_44) rfl) ?_
        show Goes _ _ _ _ T (mkF me_ 46 #[.val (.long q0), .second, .val (.long q1), .second, .val (.long q2), .second, .val (.long q3), .second, .val (.long q4), .second, .val (.long q5), .second, .val (.long q6), .second, .val (.long ((0 : Int64) + q6)), .second] [(.long ((0 : Int64) + q6))])
        refine Goes.retL S B d_method_4_46 (by decide) (by decide) ?_
        exact ⟨(by simp [own_gt, own_stp, *]), rfl⟩
      · skip
        refine Goes.go (fun _ => XS.ifYes S.here B.x rfl (pc0 := 34) (pc' := 44) rfl (B.d d_method_4_34) rfl ((if0 _ _).trans (flt (mt (lw_gt q5 q0).mp hc34)).2.2.2) (by decide) (by decide)) ?_
        show Goes _ _ _ _ T (mkF me_ 44 #[.val (.long q0), .second, .val (.long q1), .second, .val (.long q2), .second, .val (.long q3), .second, .val (.long q4), .second, .val (.long q5), .second, .val (.long q6), .second, .val (.long (0 : Int64)), .second] [])
        refine Goes.go (fun _ => XS.lload S.here B.x rfl (B.d d_method_4_44) rfl) ?_
        show Goes _ _ _ _ T (mkF me_ 46 #[.val (.long q0), .second, .val (.long q1), .second, .val (.long q2), .second, .val (.long q3), .second, .val (.long q4), .second, .val (.long q5), .second, .val (.long q6), .second, .val (.long (0 : Int64)), .second] [(.long (0 : Int64))])
        refine Goes.retL S B d_method_4_46 (by decide) (by decide) ?_
        exact ⟨(by simp [own_gt, own_stp, *]), rfl⟩
theorem ef_rm_newest (m : MethodId) (a0 : Addr) (q1 : Int64) : entryFrame m #[(.ref a0), (.long q1)] 8 = mkF m 0 #[.val (.ref a0), .val (.long q1), .second, .unset, .unset, .unset, .unset, .unset] [] := by first | (simp [entryFrame, mkF, argsToLocals, Value.category]; done) | rfl
def Q_rm_newest (Z : State) (a0 : Addr) (q1 : Int64) (gI : Addr) (gN : Addr) (I : Nat → Int64) (N : Nat → Int64) (f : Int32) (sz : Int32) (ns : List Int64) (h0 : Heap) (n0 : Nat) (v : Option Value) (h : Heap) : Prop := v = some (.long (I ((f + (Int32.ofNat (own_pos ns (((N ((f + (sz - (1 : Int32))) &&& (3 : Int32)).toNatClampNeg) - q1) + (1 : Int64))))) &&& (3 : Int32)).toNatClampNeg)) ∧ h = h0
set_option maxRecDepth 65536 in
set_option maxHeartbeats 40000000 in
theorem rm_newest (l : Launch) (Z : State) (aw : Array Value) (hw : ∀ d ∈ tables_1, d.before aw Z = true) (a0 : Addr) (q1 : Int64) (gI : Addr) (gN : Addr) (I : Nat → Int64) (N : Nat → Int64) (f : Int32) (sz : Int32) (ns : List Int64) (h0 : Heap) (n0 : Nat) (E_a0 : Exa Z h0 a0 "com/example/bucket_brigade/bucketbrigade/PermitLog") (F_a0_instants : Fld Z h0 a0 "com/example/bucket_brigade/bucketbrigade/PermitLog" "instants" "[J" (.ref gI)) (F_a0_lastNumbers : Fld Z h0 a0 "com/example/bucket_brigade/bucketbrigade/PermitLog" "lastNumbers" "[J" (.ref gN)) (F_a0_first : Fld Z h0 a0 "com/example/bucket_brigade/bucketbrigade/PermitLog" "first" "I" (.int f)) (F_a0_size : Fld Z h0 a0 "com/example/bucket_brigade/bucketbrigade/PermitLog" "size" "I" (.int sz)) (A_gI : Ary Z h0 gI .long 4 (fun i => (.long (I i)))) (A_gN : Ary Z h0 gN .long 4 (fun i => (.long (N i)))) (hN : own_Q f N ns) (hsz : sz.toInt = (ns.length : Int)) (hW : own_W ns) (hp : (own_pos ns (((N ((f + (sz - (1 : Int32))) &&& (3 : Int32)).toNatClampNeg) - q1) + (1 : Int64))) < ns.length) :
    Con l Z (⟨"com/example/bucket_brigade/bucketbrigade/PermitLog", "newest", "(J)J"⟩ : MethodName) prog_25_method_7_code 8 (some .long) ({ frames := 2, cells := 0, slots := 0, locals := 27 } : Room) #[(.ref a0), (.long q1)] h0 n0 (Q_rm_newest Z a0 q1 gI gN I N f sz ns h0 n0) := by
  refine Con.body (plainFor_of_name pn_0) ?_
  intro pr_ en_ st_ me_ below meth co_ T B S
  refine Goes.cast (ef_rm_newest me_ a0 q1) ?_
  refine Goes.go (fun _ => XS.aloadN S.here B.x rfl (B.d d_prog_25_method_7_0) rfl rfl) ?_
  show Goes _ _ _ _ T (mkF me_ 1 #[.val (.ref a0), .val (.long q1), .second, .unset, .unset, .unset, .unset, .unset] [(.ref a0)])
  refine Goes.go (fun _ => XS.aloadN S.here B.x rfl (B.d d_prog_25_method_7_1) rfl rfl) ?_
  show Goes _ _ _ _ T (mkF me_ 2 #[.val (.ref a0), .val (.long q1), .second, .unset, .unset, .unset, .unset, .unset] [(.ref a0), (.ref a0)])
  refine Goes.getF S B (w30 hw) F_a0_size d_prog_25_method_7_2 ?_
  intro T S
  show Goes _ _ _ _ T (mkF me_ 5 #[.val (.ref a0), .val (.long q1), .second, .unset, .unset, .unset, .unset, .unset] [(.int sz), (.ref a0)])
  refine Goes.go (fun _ => XS.iconst S.here B.x rfl (B.d d_prog_25_method_7_5)) ?_
  show Goes _ _ _ _ T (mkF me_ 6 #[.val (.ref a0), .val (.long q1), .second, .unset, .unset, .unset, .unset, .unset] [(.int (1 : Int32)), (.int sz), (.ref a0)])
  refine Goes.go (fun _ => XS.isub S.here B.x rfl (B.d d_prog_25_method_7_6) rfl) ?_
  show Goes _ _ _ _ T (mkF me_ 7 #[.val (.ref a0), .val (.long q1), .second, .unset, .unset, .unset, .unset, .unset] [(.int (sz - (1 : Int32))), (.ref a0)])
  refine Goes.callP (argsL := [(.int (sz - (1 : Int32)))]) (rest := []) (W := 0) S B (rm_last l Z aw hw a0 (sz - (1 : Int32)) gI gN (fun i => (.long (I i))) N f _ n0 E_a0 F_a0_first F_a0_instants F_a0_lastNumbers A_gI A_gN) E_a0 (w62 hw) (w64 hw) (w6 hw) (w63 hw) (w7 hw) (w65 hw) (by decide) (by decide) (by decide) (by decide) (by decide) rfl (lenOf pd_1 rfl) rfl (Nat.le_of_eq rfl) d_prog_25_method_7_7 ?_
  intro v T h S hQ
  obtain ⟨rfl, hh⟩ := hQ
  replace hh := hh.symm
  subst hh
  show Goes _ _ _ _ T (mkF me_ 10 #[.val (.ref a0), .val (.long q1), .second, .unset, .unset, .unset, .unset, .unset] [(.long (N ((f + (sz - (1 : Int32))) &&& (3 : Int32)).toNatClampNeg))])
  refine Goes.go (fun _ => XS.lloadN S.here B.x rfl (B.d d_prog_25_method_7_10) rfl) ?_
  show Goes _ _ _ _ T (mkF me_ 11 #[.val (.ref a0), .val (.long q1), .second, .unset, .unset, .unset, .unset, .unset] [(.long q1), (.long (N ((f + (sz - (1 : Int32))) &&& (3 : Int32)).toNatClampNeg))])
  refine Goes.go (fun _ => XS.lsub S.here B.x rfl (B.d d_prog_25_method_7_11) rfl) ?_
  show Goes _ _ _ _ T (mkF me_ 12 #[.val (.ref a0), .val (.long q1), .second, .unset, .unset, .unset, .unset, .unset] [(.long ((N ((f + (sz - (1 : Int32))) &&& (3 : Int32)).toNatClampNeg) - q1))])
  refine Goes.go (fun _ => XS.lconst S.here B.x rfl (B.d d_prog_25_method_7_12)) ?_
  show Goes _ _ _ _ T (mkF me_ 13 #[.val (.ref a0), .val (.long q1), .second, .unset, .unset, .unset, .unset, .unset] [(.long (1 : Int64)), (.long ((N ((f + (sz - (1 : Int32))) &&& (3 : Int32)).toNatClampNeg) - q1))])
  refine Goes.go (fun _ => XS.ladd S.here B.x rfl (B.d d_prog_25_method_7_13) rfl) ?_
  show Goes _ _ _ _ T (mkF me_ 14 #[.val (.ref a0), .val (.long q1), .second, .unset, .unset, .unset, .unset, .unset] [(.long (((N ((f + (sz - (1 : Int32))) &&& (3 : Int32)).toNatClampNeg) - q1) + (1 : Int64)))])
  refine Goes.go (fun _ => XS.lstoreN S.here B.x rfl (B.d d_prog_25_method_7_14) rfl (l' := #[.val (.ref a0), .val (.long q1), .second, .val (.long (((N ((f + (sz - (1 : Int32))) &&& (3 : Int32)).toNatClampNeg) - q1) + (1 : Int64))), .second, .unset, .unset, .unset]) rfl) ?_
  show Goes _ _ _ _ T (mkF me_ 15 #[.val (.ref a0), .val (.long q1), .second, .val (.long (((N ((f + (sz - (1 : Int32))) &&& (3 : Int32)).toNatClampNeg) - q1) + (1 : Int64))), .second, .unset, .unset, .unset] [])
  refine Goes.go (fun _ => XS.iconst S.here B.x rfl (B.d d_prog_25_method_7_15)) ?_
  show Goes _ _ _ _ T (mkF me_ 16 #[.val (.ref a0), .val (.long q1), .second, .val (.long (((N ((f + (sz - (1 : Int32))) &&& (3 : Int32)).toNatClampNeg) - q1) + (1 : Int64))), .second, .unset, .unset, .unset] [(.int (0 : Int32))])
  refine Goes.go (fun _ => XS.istore S.here B.x rfl (B.d d_prog_25_method_7_16) rfl (l' := #[.val (.ref a0), .val (.long q1), .second, .val (.long (((N ((f + (sz - (1 : Int32))) &&& (3 : Int32)).toNatClampNeg) - q1) + (1 : Int64))), .second, .val (.int (0 : Int32)), .unset, .unset]) rfl) ?_
  show Goes _ _ _ _ T (mkF me_ 18 #[.val (.ref a0), .val (.long q1), .second, .val (.long (((N ((f + (sz - (1 : Int32))) &&& (3 : Int32)).toNatClampNeg) - q1) + (1 : Int64))), .second, .val (.int (0 : Int32)), .unset, .unset] [])
  refine Goes.go (fun _ => XS.aloadN S.here B.x rfl (B.d d_prog_25_method_7_18) rfl rfl) ?_
  show Goes _ _ _ _ T (mkF me_ 19 #[.val (.ref a0), .val (.long q1), .second, .val (.long (((N ((f + (sz - (1 : Int32))) &&& (3 : Int32)).toNatClampNeg) - q1) + (1 : Int64))), .second, .val (.int (0 : Int32)), .unset, .unset] [(.ref a0)])
  refine Goes.getF S B (w30 hw) F_a0_size d_prog_25_method_7_19 ?_
  intro T S
  show Goes _ _ _ _ T (mkF me_ 22 #[.val (.ref a0), .val (.long q1), .second, .val (.long (((N ((f + (sz - (1 : Int32))) &&& (3 : Int32)).toNatClampNeg) - q1) + (1 : Int64))), .second, .val (.int (0 : Int32)), .unset, .unset] [(.int sz)])
  refine Goes.go (fun _ => XS.iconst S.here B.x rfl (B.d d_prog_25_method_7_22)) ?_
  show Goes _ _ _ _ T (mkF me_ 23 #[.val (.ref a0), .val (.long q1), .second, .val (.long (((N ((f + (sz - (1 : Int32))) &&& (3 : Int32)).toNatClampNeg) - q1) + (1 : Int64))), .second, .val (.int (0 : Int32)), .unset, .unset] [(.int (1 : Int32)), (.int sz)])
  refine Goes.go (fun _ => XS.isub S.here B.x rfl (B.d d_prog_25_method_7_23) rfl) ?_
  show Goes _ _ _ _ T (mkF me_ 24 #[.val (.ref a0), .val (.long q1), .second, .val (.long (((N ((f + (sz - (1 : Int32))) &&& (3 : Int32)).toNatClampNeg) - q1) + (1 : Int64))), .second, .val (.int (0 : Int32)), .unset, .unset] [(.int (sz - (1 : Int32)))])
  refine Goes.go (fun _ => XS.istore S.here B.x rfl (B.d d_prog_25_method_7_24) rfl (l' := #[.val (.ref a0), .val (.long q1), .second, .val (.long (((N ((f + (sz - (1 : Int32))) &&& (3 : Int32)).toNatClampNeg) - q1) + (1 : Int64))), .second, .val (.int (0 : Int32)), .val (.int (sz - (1 : Int32))), .unset]) rfl) ?_
  show Goes _ _ _ _ T (mkF me_ 26 #[.val (.ref a0), .val (.long q1), .second, .val (.long (((N ((f + (sz - (1 : Int32))) &&& (3 : Int32)).toNatClampNeg) - q1) + (1 : Int64))), .second, .val (.int (0 : Int32)), .val (.int (sz - (1 : Int32))), .unset] [])
  have LP1 : ∀ (k : Nat) (T : State) (lo : Int32) (hi : Int32) (s7 : Slot), Sd pr_ l en_ ({ frames := 2, cells := 0, slots := 0, locals := 27 } : Room) st_ me_ #[(.ref a0), (.long q1)] below meth co_ T h0 n0 0 0 → One s7 → 0 ≤ lo.toInt ∧ lo.toInt ≤ ((own_pos ns (((N ((f + (sz - (1 : Int32))) &&& (3 : Int32)).toNatClampNeg) - q1) + (1 : Int64))) : Int) ∧ ((own_pos ns (((N ((f + (sz - (1 : Int32))) &&& (3 : Int32)).toNatClampNeg) - q1) + (1 : Int64))) : Int) ≤ hi.toInt ∧ hi.toInt ≤ (ns.length : Int) → hi.toInt - lo.toInt ≤ (k : Int) → Goes pr_.tables en_ below (Fine st_ n0 (Q_rm_newest Z a0 q1 gI gN I N f sz ns h0 n0) ({ frames := 2, cells := 0, slots := 0, locals := 27 } : Room).cells ({ frames := 2, cells := 0, slots := 0, locals := 27 } : Room).slots) T (mkF me_ 26 #[.val (.ref a0), .val (.long q1), .second, .val (.long (((N ((f + (sz - (1 : Int32))) &&& (3 : Int32)).toNatClampNeg) - q1) + (1 : Int64))), .second, .val (.int lo), .val (.int hi), s7] []) := by
    intro k
    induction k with
    | zero =>
      intro T lo hi s7 S hs7 hB hk
      refine Goes.go (fun _ => XS.iload S.here B.x rfl (B.d d_prog_25_method_7_26) rfl) ?_
      show Goes _ _ _ _ T (mkF me_ 28 #[.val (.ref a0), .val (.long q1), .second, .val (.long (((N ((f + (sz - (1 : Int32))) &&& (3 : Int32)).toNatClampNeg) - q1) + (1 : Int64))), .second, .val (.int lo), .val (.int hi), s7] [(.int lo)])
      refine Goes.go (fun _ => XS.iload S.here B.x rfl (B.d d_prog_25_method_7_28) rfl) ?_
      show Goes _ _ _ _ T (mkF me_ 30 #[.val (.ref a0), .val (.long q1), .second, .val (.long (((N ((f + (sz - (1 : Int32))) &&& (3 : Int32)).toNatClampNeg) - q1) + (1 : Int64))), .second, .val (.int lo), .val (.int hi), s7] [(.int hi), (.int lo)])
      refine Goes.go (fun _ => XS.icmpYes S.here B.x rfl (pc0 := 30) (pc' := 69) rfl (B.d d_prog_25_method_7_30) rfl (flt (show ¬ (lo < hi) from own_z hB hk)).2.1 (by decide) (by decide)) ?_
      show Goes _ _ _ _ T (mkF me_ 69 #[.val (.ref a0), .val (.long q1), .second, .val (.long (((N ((f + (sz - (1 : Int32))) &&& (3 : Int32)).toNatClampNeg) - q1) + (1 : Int64))), .second, .val (.int lo), .val (.int hi), s7] [])
      refine Goes.go (fun _ => XS.aloadN S.here B.x rfl (B.d d_prog_25_method_7_69) rfl rfl) ?_
      show Goes _ _ _ _ T (mkF me_ 70 #[.val (.ref a0), .val (.long q1), .second, .val (.long (((N ((f + (sz - (1 : Int32))) &&& (3 : Int32)).toNatClampNeg) - q1) + (1 : Int64))), .second, .val (.int lo), .val (.int hi), s7] [(.ref a0)])
      refine Goes.go (fun _ => XS.iload S.here B.x rfl (B.d d_prog_25_method_7_70) rfl) ?_
      show Goes _ _ _ _ T (mkF me_ 72 #[.val (.ref a0), .val (.long q1), .second, .val (.long (((N ((f + (sz - (1 : Int32))) &&& (3 : Int32)).toNatClampNeg) - q1) + (1 : Int64))), .second, .val (.int lo), .val (.int hi), s7] [(.int lo), (.ref a0)])
      refine Goes.callP (argsL := [(.int lo)]) (rest := []) (W := 0) S B (rm_instant l Z aw hw a0 lo gI I f _ n0 E_a0 F_a0_first F_a0_instants A_gI) E_a0 (w48 hw) (w50 hw) (w6 hw) (w49 hw) (w7 hw) (w51 hw) (by decide) (by decide) (by decide) (by decide) (by decide) rfl (lenOf pd_1 rfl) rfl (Nat.le_of_eq rfl) d_prog_25_method_7_72 ?_
      intro v T h S hQ
      obtain ⟨rfl, hh⟩ := hQ
      replace hh := hh.symm
      subst hh
      show Goes _ _ _ _ T (mkF me_ 75 #[.val (.ref a0), .val (.long q1), .second, .val (.long (((N ((f + (sz - (1 : Int32))) &&& (3 : Int32)).toNatClampNeg) - q1) + (1 : Int64))), .second, .val (.int lo), .val (.int hi), s7] [(.long (I ((f + lo) &&& (3 : Int32)).toNatClampNeg))])
      refine Goes.retL S B d_prog_25_method_7_75 (by decide) (by decide) ?_
      exact ⟨(congrArg (fun z : Int32 => some (Value.long (I ((f + z) &&& (3 : Int32)).toNatClampNeg))) (own_done hN hB (by first | exact own_z hB hk | assumption))), rfl⟩
    | succ k ih =>
      intro T lo hi s7 S hs7 hB hk
      refine Goes.go (fun _ => XS.iload S.here B.x rfl (B.d d_prog_25_method_7_26) rfl) ?_
      show Goes _ _ _ _ T (mkF me_ 28 #[.val (.ref a0), .val (.long q1), .second, .val (.long (((N ((f + (sz - (1 : Int32))) &&& (3 : Int32)).toNatClampNeg) - q1) + (1 : Int64))), .second, .val (.int lo), .val (.int hi), s7] [(.int lo)])
      refine Goes.go (fun _ => XS.iload S.here B.x rfl (B.d d_prog_25_method_7_28) rfl) ?_
      show Goes _ _ _ _ T (mkF me_ 30 #[.val (.ref a0), .val (.long q1), .second, .val (.long (((N ((f + (sz - (1 : Int32))) &&& (3 : Int32)).toNatClampNeg) - q1) + (1 : Int64))), .second, .val (.int lo), .val (.int hi), s7] [(.int hi), (.int lo)])
      by_cases hc30 : lo < hi
      · skip
        refine Goes.go (fun _ => XS.icmpNo S.here B.x rfl (B.d d_prog_25_method_7_30) rfl (tlt hc30).2.1) ?_
        show Goes _ _ _ _ T (mkF me_ 33 #[.val (.ref a0), .val (.long q1), .second, .val (.long (((N ((f + (sz - (1 : Int32))) &&& (3 : Int32)).toNatClampNeg) - q1) + (1 : Int64))), .second, .val (.int lo), .val (.int hi), s7] [])
        refine Goes.go (fun _ => XS.iload S.here B.x rfl (B.d d_prog_25_method_7_33) rfl) ?_
        show Goes _ _ _ _ T (mkF me_ 35 #[.val (.ref a0), .val (.long q1), .second, .val (.long (((N ((f + (sz - (1 : Int32))) &&& (3 : Int32)).toNatClampNeg) - q1) + (1 : Int64))), .second, .val (.int lo), .val (.int hi), s7] [(.int lo)])
        refine Goes.go (fun _ => XS.iload S.here B.x rfl (B.d d_prog_25_method_7_35) rfl) ?_
        show Goes _ _ _ _ T (mkF me_ 37 #[.val (.ref a0), .val (.long q1), .second, .val (.long (((N ((f + (sz - (1 : Int32))) &&& (3 : Int32)).toNatClampNeg) - q1) + (1 : Int64))), .second, .val (.int lo), .val (.int hi), s7] [(.int hi), (.int lo)])
        refine Goes.go (fun _ => XS.iadd S.here B.x rfl (B.d d_prog_25_method_7_37) rfl) ?_
        show Goes _ _ _ _ T (mkF me_ 38 #[.val (.ref a0), .val (.long q1), .second, .val (.long (((N ((f + (sz - (1 : Int32))) &&& (3 : Int32)).toNatClampNeg) - q1) + (1 : Int64))), .second, .val (.int lo), .val (.int hi), s7] [(.int (lo + hi))])
        refine Goes.go (fun _ => XS.iconst S.here B.x rfl (B.d d_prog_25_method_7_38)) ?_
        show Goes _ _ _ _ T (mkF me_ 39 #[.val (.ref a0), .val (.long q1), .second, .val (.long (((N ((f + (sz - (1 : Int32))) &&& (3 : Int32)).toNatClampNeg) - q1) + (1 : Int64))), .second, .val (.int lo), .val (.int hi), s7] [(.int (1 : Int32)), (.int (lo + hi))])
        refine Goes.go (fun _ => XS.iushr S.here B.x rfl (B.d d_prog_25_method_7_39) rfl) ?_
        show Goes _ _ _ _ T (mkF me_ 40 #[.val (.ref a0), .val (.long q1), .second, .val (.long (((N ((f + (sz - (1 : Int32))) &&& (3 : Int32)).toNatClampNeg) - q1) + (1 : Int64))), .second, .val (.int lo), .val (.int hi), s7] [(.int (((lo + hi).toUInt32 >>> ((1 : Int32) &&& 31).toUInt32).toInt32))])
        refine Goes.go (fun _ => XS.istore S.here B.x rfl (B.d d_prog_25_method_7_40) rfl (l' := #[.val (.ref a0), .val (.long q1), .second, .val (.long (((N ((f + (sz - (1 : Int32))) &&& (3 : Int32)).toNatClampNeg) - q1) + (1 : Int64))), .second, .val (.int lo), .val (.int hi), .val (.int (((lo + hi).toUInt32 >>> ((1 : Int32) &&& 31).toUInt32).toInt32))]) (XS.store1 rfl hs7 rfl)) ?_
        show Goes _ _ _ _ T (mkF me_ 42 #[.val (.ref a0), .val (.long q1), .second, .val (.long (((N ((f + (sz - (1 : Int32))) &&& (3 : Int32)).toNatClampNeg) - q1) + (1 : Int64))), .second, .val (.int lo), .val (.int hi), .val (.int (((lo + hi).toUInt32 >>> ((1 : Int32) &&& 31).toUInt32).toInt32))] [])
        refine Goes.go (fun _ => XS.aloadN S.here B.x rfl (B.d d_prog_25_method_7_42) rfl rfl) ?_
        show Goes _ _ _ _ T (mkF me_ 43 #[.val (.ref a0), .val (.long q1), .second, .val (.long (((N ((f + (sz - (1 : Int32))) &&& (3 : Int32)).toNatClampNeg) - q1) + (1 : Int64))), .second, .val (.int lo), .val (.int hi), .val (.int (((lo + hi).toUInt32 >>> ((1 : Int32) &&& 31).toUInt32).toInt32))] [(.ref a0)])
        refine Goes.go (fun _ => XS.iload S.here B.x rfl (B.d d_prog_25_method_7_43) rfl) ?_
        show Goes _ _ _ _ T (mkF me_ 45 #[.val (.ref a0), .val (.long q1), .second, .val (.long (((N ((f + (sz - (1 : Int32))) &&& (3 : Int32)).toNatClampNeg) - q1) + (1 : Int64))), .second, .val (.int lo), .val (.int hi), .val (.int (((lo + hi).toUInt32 >>> ((1 : Int32) &&& 31).toUInt32).toInt32))] [(.int (((lo + hi).toUInt32 >>> ((1 : Int32) &&& 31).toUInt32).toInt32)), (.ref a0)])
        refine Goes.callP (argsL := [(.int (((lo + hi).toUInt32 >>> ((1 : Int32) &&& 31).toUInt32).toInt32))]) (rest := []) (W := 0) S B (rm_last l Z aw hw a0 (((lo + hi).toUInt32 >>> ((1 : Int32) &&& 31).toUInt32).toInt32) gI gN (fun i => (.long (I i))) N f _ n0 E_a0 F_a0_first F_a0_instants F_a0_lastNumbers A_gI A_gN) E_a0 (w62 hw) (w64 hw) (w6 hw) (w63 hw) (w7 hw) (w65 hw) (by decide) (by decide) (by decide) (by decide) (by decide) rfl (lenOf pd_1 rfl) rfl (Nat.le_of_eq rfl) d_prog_25_method_7_45 ?_
        intro v T h S hQ
        obtain ⟨rfl, hh⟩ := hQ
        replace hh := hh.symm
        subst hh
        show Goes _ _ _ _ T (mkF me_ 48 #[.val (.ref a0), .val (.long q1), .second, .val (.long (((N ((f + (sz - (1 : Int32))) &&& (3 : Int32)).toNatClampNeg) - q1) + (1 : Int64))), .second, .val (.int lo), .val (.int hi), .val (.int (((lo + hi).toUInt32 >>> ((1 : Int32) &&& 31).toUInt32).toInt32))] [(.long (N ((f + (((lo + hi).toUInt32 >>> ((1 : Int32) &&& 31).toUInt32).toInt32)) &&& (3 : Int32)).toNatClampNeg))])
        refine Goes.go (fun _ => XS.lloadN S.here B.x rfl (B.d d_prog_25_method_7_48) rfl) ?_
        show Goes _ _ _ _ T (mkF me_ 49 #[.val (.ref a0), .val (.long q1), .second, .val (.long (((N ((f + (sz - (1 : Int32))) &&& (3 : Int32)).toNatClampNeg) - q1) + (1 : Int64))), .second, .val (.int lo), .val (.int hi), .val (.int (((lo + hi).toUInt32 >>> ((1 : Int32) &&& 31).toUInt32).toInt32))] [(.long (((N ((f + (sz - (1 : Int32))) &&& (3 : Int32)).toNatClampNeg) - q1) + (1 : Int64))), (.long (N ((f + (((lo + hi).toUInt32 >>> ((1 : Int32) &&& 31).toUInt32).toInt32)) &&& (3 : Int32)).toNatClampNeg))])
        refine Goes.go (fun _ => XS.lcmp S.here B.x rfl (B.d d_prog_25_method_7_49) rfl) ?_
        show Goes _ _ _ _ T (mkF me_ 50 #[.val (.ref a0), .val (.long q1), .second, .val (.long (((N ((f + (sz - (1 : Int32))) &&& (3 : Int32)).toNatClampNeg) - q1) + (1 : Int64))), .second, .val (.int lo), .val (.int hi), .val (.int (((lo + hi).toUInt32 >>> ((1 : Int32) &&& 31).toUInt32).toInt32))] [(.int (lcmpW (N ((f + (((lo + hi).toUInt32 >>> ((1 : Int32) &&& 31).toUInt32).toInt32)) &&& (3 : Int32)).toNatClampNeg) (((N ((f + (sz - (1 : Int32))) &&& (3 : Int32)).toNatClampNeg) - q1) + (1 : Int64))))])
        by_cases hc50 : (N ((f + (((lo + hi).toUInt32 >>> ((1 : Int32) &&& 31).toUInt32).toInt32)) &&& (3 : Int32)).toNatClampNeg) < (((N ((f + (sz - (1 : Int32))) &&& (3 : Int32)).toNatClampNeg) - q1) + (1 : Int64))
        · skip
          refine Goes.go (fun _ => XS.ifYes S.here B.x rfl (pc0 := 50) (pc' := 60) rfl (B.d d_prog_25_method_7_50) rfl ((if0 _ _).trans (tlt ((lw_lt (N ((f + (((lo + hi).toUInt32 >>> ((1 : Int32) &&& 31).toUInt32).toInt32)) &&& (3 : Int32)).toNatClampNeg) (((N ((f + (sz - (1 : Int32))) &&& (3 : Int32)).toNatClampNeg) - q1) + (1 : Int64))).mpr hc50)).1) (by decide) (by decide)) ?_
          show Goes _ _ _ _ T (mkF me_ 60 #[.val (.ref a0), .val (.long q1), .second, .val (.long (((N ((f + (sz - (1 : Int32))) &&& (3 : Int32)).toNatClampNeg) - q1) + (1 : Int64))), .second, .val (.int lo), .val (.int hi), .val (.int (((lo + hi).toUInt32 >>> ((1 : Int32) &&& 31).toUInt32).toInt32))] [])
          refine Goes.go (fun _ => XS.iload S.here B.x rfl (B.d d_prog_25_method_7_60) rfl) ?_
          show Goes _ _ _ _ T (mkF me_ 62 #[.val (.ref a0), .val (.long q1), .second, .val (.long (((N ((f + (sz - (1 : Int32))) &&& (3 : Int32)).toNatClampNeg) - q1) + (1 : Int64))), .second, .val (.int lo), .val (.int hi), .val (.int (((lo + hi).toUInt32 >>> ((1 : Int32) &&& 31).toUInt32).toInt32))] [(.int (((lo + hi).toUInt32 >>> ((1 : Int32) &&& 31).toUInt32).toInt32))])
          refine Goes.go (fun _ => XS.iconst S.here B.x rfl (B.d d_prog_25_method_7_62)) ?_
          show Goes _ _ _ _ T (mkF me_ 63 #[.val (.ref a0), .val (.long q1), .second, .val (.long (((N ((f + (sz - (1 : Int32))) &&& (3 : Int32)).toNatClampNeg) - q1) + (1 : Int64))), .second, .val (.int lo), .val (.int hi), .val (.int (((lo + hi).toUInt32 >>> ((1 : Int32) &&& 31).toUInt32).toInt32))] [(.int (1 : Int32)), (.int (((lo + hi).toUInt32 >>> ((1 : Int32) &&& 31).toUInt32).toInt32))])
          refine Goes.go (fun _ => XS.iadd S.here B.x rfl (B.d d_prog_25_method_7_63) rfl) ?_
          show Goes _ _ _ _ T (mkF me_ 64 #[.val (.ref a0), .val (.long q1), .second, .val (.long (((N ((f + (sz - (1 : Int32))) &&& (3 : Int32)).toNatClampNeg) - q1) + (1 : Int64))), .second, .val (.int lo), .val (.int hi), .val (.int (((lo + hi).toUInt32 >>> ((1 : Int32) &&& 31).toUInt32).toInt32))] [(.int ((((lo + hi).toUInt32 >>> ((1 : Int32) &&& 31).toUInt32).toInt32) + (1 : Int32)))])
          refine Goes.go (fun _ => XS.istore S.here B.x rfl (B.d d_prog_25_method_7_64) rfl (l' := #[.val (.ref a0), .val (.long q1), .second, .val (.long (((N ((f + (sz - (1 : Int32))) &&& (3 : Int32)).toNatClampNeg) - q1) + (1 : Int64))), .second, .val (.int ((((lo + hi).toUInt32 >>> ((1 : Int32) &&& 31).toUInt32).toInt32) + (1 : Int32))), .val (.int hi), .val (.int (((lo + hi).toUInt32 >>> ((1 : Int32) &&& 31).toUInt32).toInt32))]) rfl) ?_
          show Goes _ _ _ _ T (mkF me_ 66 #[.val (.ref a0), .val (.long q1), .second, .val (.long (((N ((f + (sz - (1 : Int32))) &&& (3 : Int32)).toNatClampNeg) - q1) + (1 : Int64))), .second, .val (.int ((((lo + hi).toUInt32 >>> ((1 : Int32) &&& 31).toUInt32).toInt32) + (1 : Int32))), .val (.int hi), .val (.int (((lo + hi).toUInt32 >>> ((1 : Int32) &&& 31).toUInt32).toInt32))] [])
          refine Goes.go (fun _ => XS.goto S.here B.x rfl (pc0 := 66) (pc' := 26) rfl (B.d d_prog_25_method_7_66) (by decide) (by decide)) ?_
          show Goes _ _ _ _ T (mkF me_ 26 #[.val (.ref a0), .val (.long q1), .second, .val (.long (((N ((f + (sz - (1 : Int32))) &&& (3 : Int32)).toNatClampNeg) - q1) + (1 : Int64))), .second, .val (.int ((((lo + hi).toUInt32 >>> ((1 : Int32) &&& 31).toUInt32).toInt32) + (1 : Int32))), .val (.int hi), .val (.int (((lo + hi).toUInt32 >>> ((1 : Int32) &&& 31).toUInt32).toInt32))] [])
          exact ih T ((((lo + hi).toUInt32 >>> ((1 : Int32) &&& 31).toUInt32).toInt32) + (1 : Int32)) hi (.val (.int (((lo + hi).toUInt32 >>> ((1 : Int32) &&& 31).toUInt32).toInt32))) S (One.val rfl) (own_low hN hW hB hc30 hc50) (own_kl1 hN hB hk hc30)
        · skip
          refine Goes.go (fun _ => XS.ifNo S.here B.x rfl (B.d d_prog_25_method_7_50) rfl ((if0 _ _).trans (flt (mt (lw_lt (N ((f + (((lo + hi).toUInt32 >>> ((1 : Int32) &&& 31).toUInt32).toInt32)) &&& (3 : Int32)).toNatClampNeg) (((N ((f + (sz - (1 : Int32))) &&& (3 : Int32)).toNatClampNeg) - q1) + (1 : Int64))).mp hc50)).1)) ?_
          show Goes _ _ _ _ T (mkF me_ 53 #[.val (.ref a0), .val (.long q1), .second, .val (.long (((N ((f + (sz - (1 : Int32))) &&& (3 : Int32)).toNatClampNeg) - q1) + (1 : Int64))), .second, .val (.int lo), .val (.int hi), .val (.int (((lo + hi).toUInt32 >>> ((1 : Int32) &&& 31).toUInt32).toInt32))] [])
          refine Goes.go (fun _ => XS.iload S.here B.x rfl (B.d d_prog_25_method_7_53) rfl) ?_
          show Goes _ _ _ _ T (mkF me_ 55 #[.val (.ref a0), .val (.long q1), .second, .val (.long (((N ((f + (sz - (1 : Int32))) &&& (3 : Int32)).toNatClampNeg) - q1) + (1 : Int64))), .second, .val (.int lo), .val (.int hi), .val (.int (((lo + hi).toUInt32 >>> ((1 : Int32) &&& 31).toUInt32).toInt32))] [(.int (((lo + hi).toUInt32 >>> ((1 : Int32) &&& 31).toUInt32).toInt32))])
          refine Goes.go (fun _ => XS.istore S.here B.x rfl (B.d d_prog_25_method_7_55) rfl (l' := #[.val (.ref a0), .val (.long q1), .second, .val (.long (((N ((f + (sz - (1 : Int32))) &&& (3 : Int32)).toNatClampNeg) - q1) + (1 : Int64))), .second, .val (.int lo), .val (.int (((lo + hi).toUInt32 >>> ((1 : Int32) &&& 31).toUInt32).toInt32)), .val (.int (((lo + hi).toUInt32 >>> ((1 : Int32) &&& 31).toUInt32).toInt32))]) rfl) ?_
          show Goes _ _ _ _ T (mkF me_ 57 #[.val (.ref a0), .val (.long q1), .second, .val (.long (((N ((f + (sz - (1 : Int32))) &&& (3 : Int32)).toNatClampNeg) - q1) + (1 : Int64))), .second, .val (.int lo), .val (.int (((lo + hi).toUInt32 >>> ((1 : Int32) &&& 31).toUInt32).toInt32)), .val (.int (((lo + hi).toUInt32 >>> ((1 : Int32) &&& 31).toUInt32).toInt32))] [])
          refine Goes.go (fun _ => XS.goto S.here B.x rfl (pc0 := 57) (pc' := 66) rfl (B.d d_prog_25_method_7_57) (by decide) (by decide)) ?_
          show Goes _ _ _ _ T (mkF me_ 66 #[.val (.ref a0), .val (.long q1), .second, .val (.long (((N ((f + (sz - (1 : Int32))) &&& (3 : Int32)).toNatClampNeg) - q1) + (1 : Int64))), .second, .val (.int lo), .val (.int (((lo + hi).toUInt32 >>> ((1 : Int32) &&& 31).toUInt32).toInt32)), .val (.int (((lo + hi).toUInt32 >>> ((1 : Int32) &&& 31).toUInt32).toInt32))] [])
          refine Goes.go (fun _ => XS.goto S.here B.x rfl (pc0 := 66) (pc' := 26) rfl (B.d d_prog_25_method_7_66) (by decide) (by decide)) ?_
          show Goes _ _ _ _ T (mkF me_ 26 #[.val (.ref a0), .val (.long q1), .second, .val (.long (((N ((f + (sz - (1 : Int32))) &&& (3 : Int32)).toNatClampNeg) - q1) + (1 : Int64))), .second, .val (.int lo), .val (.int (((lo + hi).toUInt32 >>> ((1 : Int32) &&& 31).toUInt32).toInt32)), .val (.int (((lo + hi).toUInt32 >>> ((1 : Int32) &&& 31).toUInt32).toInt32))] [])
          exact ih T lo (((lo + hi).toUInt32 >>> ((1 : Int32) &&& 31).toUInt32).toInt32) (.val (.int (((lo + hi).toUInt32 >>> ((1 : Int32) &&& 31).toUInt32).toInt32))) S (One.val rfl) (own_hiw hN hW hB hc30 hc50) (own_kl2 hN hB hk hc30)
      · skip
        refine Goes.go (fun _ => XS.icmpYes S.here B.x rfl (pc0 := 30) (pc' := 69) rfl (B.d d_prog_25_method_7_30) rfl (flt hc30).2.1 (by decide) (by decide)) ?_
        show Goes _ _ _ _ T (mkF me_ 69 #[.val (.ref a0), .val (.long q1), .second, .val (.long (((N ((f + (sz - (1 : Int32))) &&& (3 : Int32)).toNatClampNeg) - q1) + (1 : Int64))), .second, .val (.int lo), .val (.int hi), s7] [])
        refine Goes.go (fun _ => XS.aloadN S.here B.x rfl (B.d d_prog_25_method_7_69) rfl rfl) ?_
        show Goes _ _ _ _ T (mkF me_ 70 #[.val (.ref a0), .val (.long q1), .second, .val (.long (((N ((f + (sz - (1 : Int32))) &&& (3 : Int32)).toNatClampNeg) - q1) + (1 : Int64))), .second, .val (.int lo), .val (.int hi), s7] [(.ref a0)])
        refine Goes.go (fun _ => XS.iload S.here B.x rfl (B.d d_prog_25_method_7_70) rfl) ?_
        show Goes _ _ _ _ T (mkF me_ 72 #[.val (.ref a0), .val (.long q1), .second, .val (.long (((N ((f + (sz - (1 : Int32))) &&& (3 : Int32)).toNatClampNeg) - q1) + (1 : Int64))), .second, .val (.int lo), .val (.int hi), s7] [(.int lo), (.ref a0)])
        refine Goes.callP (argsL := [(.int lo)]) (rest := []) (W := 0) S B (rm_instant l Z aw hw a0 lo gI I f _ n0 E_a0 F_a0_first F_a0_instants A_gI) E_a0 (w48 hw) (w50 hw) (w6 hw) (w49 hw) (w7 hw) (w51 hw) (by decide) (by decide) (by decide) (by decide) (by decide) rfl (lenOf pd_1 rfl) rfl (Nat.le_of_eq rfl) d_prog_25_method_7_72 ?_
        intro v T h S hQ
        obtain ⟨rfl, hh⟩ := hQ
        replace hh := hh.symm
        subst hh
        show Goes _ _ _ _ T (mkF me_ 75 #[.val (.ref a0), .val (.long q1), .second, .val (.long (((N ((f + (sz - (1 : Int32))) &&& (3 : Int32)).toNatClampNeg) - q1) + (1 : Int64))), .second, .val (.int lo), .val (.int hi), s7] [(.long (I ((f + lo) &&& (3 : Int32)).toNatClampNeg))])
        refine Goes.retL S B d_prog_25_method_7_75 (by decide) (by decide) ?_
        exact ⟨(congrArg (fun z : Int32 => some (Value.long (I ((f + z) &&& (3 : Int32)).toNatClampNeg))) (own_done hN hB (by first | exact own_z hB hk | assumption))), rfl⟩
  exact LP1 4 T (0 : Int32) (sz - (1 : Int32)) (.unset) S One.u (own_bn hN hsz hp) (own_k0 hN (own_bn hN hsz hp))
theorem ef_rm0 (m : MethodId) (q0 : Int64) (q1 : Int64) (q2 : Int64) (p3 : Int32) (p4 : Int32) : entryFrame m #[(.long q0), (.long q1), (.long q2), (.int p3), (.int p4)] maxLocals = mkF m 0 #[.val (.long q0), .second, .val (.long q1), .second, .val (.long q2), .second, .val (.int p3), .val (.int p4), .unset, .unset, .unset, .unset, .unset, .unset, .unset, .unset, .unset, .unset, .unset, .unset, .unset, .unset, .unset, .unset, .unset, .unset, .unset, .unset, .unset, .unset, .unset, .unset, .unset, .unset, .unset, .unset, .unset, .unset, .unset, .unset, .unset, .unset, .unset] [] := by first | (simp [entryFrame, mkF, argsToLocals, Value.category, maxLocals]; done) | rfl
def Q_rm0 (Z : State) (q0 : Int64) (q1 : Int64) (q2 : Int64) (p3 : Int32) (p4 : Int32) (h0 : Heap) (n0 : Nat) (v : Option Value) (h : Heap) : Prop := v = some (.int 1)
set_option maxRecDepth 65536 in
set_option maxHeartbeats 40000000 in
theorem rm0 (l : Launch) (Z : State) (aw : Array Value) (hw : ∀ d ∈ tables_1, d.before aw Z = true) (q0 : Int64) (q1 : Int64) (q2 : Int64) (p3 : Int32) (p4 : Int32) (h0 : Heap) (n0 : Nat) :
    Con l Z x code maxLocals ret room_1 #[(.long q0), (.long q1), (.long q2), (.int p3), (.int p4)] h0 n0 (Q_rm0 Z q0 q1 q2 p3 p4 h0 n0) := by
  refine Con.body (plainFor_of_name pn_1) ?_
  intro pr_ en_ st_ me_ below meth co_ T B S
  refine Goes.cast (ef_rm0 me_ q0 q1 q2 p3 p4) ?_
  refine Goes.go (fun _ => XS.iload S.here B.x rfl (B.d at_0) rfl) ?_
  show Goes _ _ _ _ T (mkF me_ 2 #[.val (.long q0), .second, .val (.long q1), .second, .val (.long q2), .second, .val (.int p3), .val (.int p4), .unset, .unset, .unset, .unset, .unset, .unset, .unset, .unset, .unset, .unset, .unset, .unset, .unset, .unset, .unset, .unset, .unset, .unset, .unset, .unset, .unset, .unset, .unset, .unset, .unset, .unset, .unset, .unset, .unset, .unset, .unset, .unset, .unset, .unset, .unset] [(.int p3)])
  refine Goes.go (fun _ => XS.bipush S.here B.x rfl (B.d at_2)) ?_
  show Goes _ _ _ _ T (mkF me_ 4 #[.val (.long q0), .second, .val (.long q1), .second, .val (.long q2), .second, .val (.int p3), .val (.int p4), .unset, .unset, .unset, .unset, .unset, .unset, .unset, .unset, .unset, .unset, .unset, .unset, .unset, .unset, .unset, .unset, .unset, .unset, .unset, .unset, .unset, .unset, .unset, .unset, .unset, .unset, .unset, .unset, .unset, .unset, .unset, .unset, .unset, .unset, .unset] [(.int (7 : Int32)), (.int p3)])
  refine Goes.go (fun _ => XS.iand S.here B.x rfl (B.d at_4) rfl) ?_
  show Goes _ _ _ _ T (mkF me_ 5 #[.val (.long q0), .second, .val (.long q1), .second, .val (.long q2), .second, .val (.int p3), .val (.int p4), .unset, .unset, .unset, .unset, .unset, .unset, .unset, .unset, .unset, .unset, .unset, .unset, .unset, .unset, .unset, .unset, .unset, .unset, .unset, .unset, .unset, .unset, .unset, .unset, .unset, .unset, .unset, .unset, .unset, .unset, .unset, .unset, .unset, .unset, .unset] [(.int (p3 &&& (7 : Int32)))])
  refine Goes.go (fun _ => XS.i2l S.here B.x rfl (B.d at_5) rfl) ?_
  show Goes _ _ _ _ T (mkF me_ 6 #[.val (.long q0), .second, .val (.long q1), .second, .val (.long q2), .second, .val (.int p3), .val (.int p4), .unset, .unset, .unset, .unset, .unset, .unset, .unset, .unset, .unset, .unset, .unset, .unset, .unset, .unset, .unset, .unset, .unset, .unset, .unset, .unset, .unset, .unset, .unset, .unset, .unset, .unset, .unset, .unset, .unset, .unset, .unset, .unset, .unset, .unset, .unset] [(.long (p3 &&& (7 : Int32)).toInt64)])
  generalize hv1 : (p3 &&& (7 : Int32)).toInt64 = v1
  refine Goes.go (fun _ => XS.lstore (g := (mkF me_ 6 #[.val (.long q0), .second, .val (.long q1), .second, .val (.long q2), .second, .val (.int p3), .val (.int p4), .unset, .unset, .unset, .unset, .unset, .unset, .unset, .unset, .unset, .unset, .unset, .unset, .unset, .unset, .unset, .unset, .unset, .unset, .unset, .unset, .unset, .unset, .unset, .unset, .unset, .unset, .unset, .unset, .unset, .unset, .unset, .unset, .unset, .unset, .unset] [(.long v1)])) S.here B.x rfl (B.d at_6) rfl (l' := #[.val (.long q0), .second, .val (.long q1), .second, .val (.long q2), .second, .val (.int p3), .val (.int p4), .val (.long v1), .second, .unset, .unset, .unset, .unset, .unset, .unset, .unset, .unset, .unset, .unset, .unset, .unset, .unset, .unset, .unset, .unset, .unset, .unset, .unset, .unset, .unset, .unset, .unset, .unset, .unset, .unset, .unset, .unset, .unset, .unset, .unset, .unset, .unset]) rfl) ?_
  show Goes _ _ _ _ T (mkF me_ 8 #[.val (.long q0), .second, .val (.long q1), .second, .val (.long q2), .second, .val (.int p3), .val (.int p4), .val (.long v1), .second, .unset, .unset, .unset, .unset, .unset, .unset, .unset, .unset, .unset, .unset, .unset, .unset, .unset, .unset, .unset, .unset, .unset, .unset, .unset, .unset, .unset, .unset, .unset, .unset, .unset, .unset, .unset, .unset, .unset, .unset, .unset, .unset, .unset] [])
  refine Goes.go (fun _ => XS.iload S.here B.x rfl (B.d at_8) rfl) ?_
  show Goes _ _ _ _ T (mkF me_ 10 #[.val (.long q0), .second, .val (.long q1), .second, .val (.long q2), .second, .val (.int p3), .val (.int p4), .val (.long v1), .second, .unset, .unset, .unset, .unset, .unset, .unset, .unset, .unset, .unset, .unset, .unset, .unset, .unset, .unset, .unset, .unset, .unset, .unset, .unset, .unset, .unset, .unset, .unset, .unset, .unset, .unset, .unset, .unset, .unset, .unset, .unset, .unset, .unset] [(.int p3)])
  refine Goes.go (fun _ => XS.iconst S.here B.x rfl (B.d at_10)) ?_
  show Goes _ _ _ _ T (mkF me_ 11 #[.val (.long q0), .second, .val (.long q1), .second, .val (.long q2), .second, .val (.int p3), .val (.int p4), .val (.long v1), .second, .unset, .unset, .unset, .unset, .unset, .unset, .unset, .unset, .unset, .unset, .unset, .unset, .unset, .unset, .unset, .unset, .unset, .unset, .unset, .unset, .unset, .unset, .unset, .unset, .unset, .unset, .unset, .unset, .unset, .unset, .unset, .unset, .unset] [(.int (3 : Int32)), (.int p3)])
  refine Goes.go (fun _ => XS.iushr S.here B.x rfl (B.d at_11) rfl) ?_
  show Goes _ _ _ _ T (mkF me_ 12 #[.val (.long q0), .second, .val (.long q1), .second, .val (.long q2), .second, .val (.int p3), .val (.int p4), .val (.long v1), .second, .unset, .unset, .unset, .unset, .unset, .unset, .unset, .unset, .unset, .unset, .unset, .unset, .unset, .unset, .unset, .unset, .unset, .unset, .unset, .unset, .unset, .unset, .unset, .unset, .unset, .unset, .unset, .unset, .unset, .unset, .unset, .unset, .unset] [(.int ((p3.toUInt32 >>> ((3 : Int32) &&& 31).toUInt32).toInt32))])
  refine Goes.go (fun _ => XS.bipush S.here B.x rfl (B.d at_12)) ?_
  show Goes _ _ _ _ T (mkF me_ 14 #[.val (.long q0), .second, .val (.long q1), .second, .val (.long q2), .second, .val (.int p3), .val (.int p4), .val (.long v1), .second, .unset, .unset, .unset, .unset, .unset, .unset, .unset, .unset, .unset, .unset, .unset, .unset, .unset, .unset, .unset, .unset, .unset, .unset, .unset, .unset, .unset, .unset, .unset, .unset, .unset, .unset, .unset, .unset, .unset, .unset, .unset, .unset, .unset] [(.int (7 : Int32)), (.int ((p3.toUInt32 >>> ((3 : Int32) &&& 31).toUInt32).toInt32))])
  refine Goes.go (fun _ => XS.iand S.here B.x rfl (B.d at_14) rfl) ?_
  show Goes _ _ _ _ T (mkF me_ 15 #[.val (.long q0), .second, .val (.long q1), .second, .val (.long q2), .second, .val (.int p3), .val (.int p4), .val (.long v1), .second, .unset, .unset, .unset, .unset, .unset, .unset, .unset, .unset, .unset, .unset, .unset, .unset, .unset, .unset, .unset, .unset, .unset, .unset, .unset, .unset, .unset, .unset, .unset, .unset, .unset, .unset, .unset, .unset, .unset, .unset, .unset, .unset, .unset] [(.int (((p3.toUInt32 >>> ((3 : Int32) &&& 31).toUInt32).toInt32) &&& (7 : Int32)))])
  refine Goes.go (fun _ => XS.i2l S.here B.x rfl (B.d at_15) rfl) ?_
  show Goes _ _ _ _ T (mkF me_ 16 #[.val (.long q0), .second, .val (.long q1), .second, .val (.long q2), .second, .val (.int p3), .val (.int p4), .val (.long v1), .second, .unset, .unset, .unset, .unset, .unset, .unset, .unset, .unset, .unset, .unset, .unset, .unset, .unset, .unset, .unset, .unset, .unset, .unset, .unset, .unset, .unset, .unset, .unset, .unset, .unset, .unset, .unset, .unset, .unset, .unset, .unset, .unset, .unset] [(.long (((p3.toUInt32 >>> ((3 : Int32) &&& 31).toUInt32).toInt32) &&& (7 : Int32)).toInt64)])
  generalize hv2 : (((p3.toUInt32 >>> ((3 : Int32) &&& 31).toUInt32).toInt32) &&& (7 : Int32)).toInt64 = v2
  refine Goes.go (fun _ => XS.lstore (g := (mkF me_ 16 #[.val (.long q0), .second, .val (.long q1), .second, .val (.long q2), .second, .val (.int p3), .val (.int p4), .val (.long v1), .second, .unset, .unset, .unset, .unset, .unset, .unset, .unset, .unset, .unset, .unset, .unset, .unset, .unset, .unset, .unset, .unset, .unset, .unset, .unset, .unset, .unset, .unset, .unset, .unset, .unset, .unset, .unset, .unset, .unset, .unset, .unset, .unset, .unset] [(.long v2)])) S.here B.x rfl (B.d at_16) rfl (l' := #[.val (.long q0), .second, .val (.long q1), .second, .val (.long q2), .second, .val (.int p3), .val (.int p4), .val (.long v1), .second, .val (.long v2), .second, .unset, .unset, .unset, .unset, .unset, .unset, .unset, .unset, .unset, .unset, .unset, .unset, .unset, .unset, .unset, .unset, .unset, .unset, .unset, .unset, .unset, .unset, .unset, .unset, .unset, .unset, .unset, .unset, .unset, .unset, .unset]) rfl) ?_
  show Goes _ _ _ _ T (mkF me_ 18 #[.val (.long q0), .second, .val (.long q1), .second, .val (.long q2), .second, .val (.int p3), .val (.int p4), .val (.long v1), .second, .val (.long v2), .second, .unset, .unset, .unset, .unset, .unset, .unset, .unset, .unset, .unset, .unset, .unset, .unset, .unset, .unset, .unset, .unset, .unset, .unset, .unset, .unset, .unset, .unset, .unset, .unset, .unset, .unset, .unset, .unset, .unset, .unset, .unset] [])
  refine Goes.go (fun _ => XS.iload S.here B.x rfl (B.d at_18) rfl) ?_
  show Goes _ _ _ _ T (mkF me_ 20 #[.val (.long q0), .second, .val (.long q1), .second, .val (.long q2), .second, .val (.int p3), .val (.int p4), .val (.long v1), .second, .val (.long v2), .second, .unset, .unset, .unset, .unset, .unset, .unset, .unset, .unset, .unset, .unset, .unset, .unset, .unset, .unset, .unset, .unset, .unset, .unset, .unset, .unset, .unset, .unset, .unset, .unset, .unset, .unset, .unset, .unset, .unset, .unset, .unset] [(.int p3)])
  refine Goes.go (fun _ => XS.bipush S.here B.x rfl (B.d at_20)) ?_
  show Goes _ _ _ _ T (mkF me_ 22 #[.val (.long q0), .second, .val (.long q1), .second, .val (.long q2), .second, .val (.int p3), .val (.int p4), .val (.long v1), .second, .val (.long v2), .second, .unset, .unset, .unset, .unset, .unset, .unset, .unset, .unset, .unset, .unset, .unset, .unset, .unset, .unset, .unset, .unset, .unset, .unset, .unset, .unset, .unset, .unset, .unset, .unset, .unset, .unset, .unset, .unset, .unset, .unset, .unset] [(.int (6 : Int32)), (.int p3)])
  refine Goes.go (fun _ => XS.iushr S.here B.x rfl (B.d at_22) rfl) ?_
  show Goes _ _ _ _ T (mkF me_ 23 #[.val (.long q0), .second, .val (.long q1), .second, .val (.long q2), .second, .val (.int p3), .val (.int p4), .val (.long v1), .second, .val (.long v2), .second, .unset, .unset, .unset, .unset, .unset, .unset, .unset, .unset, .unset, .unset, .unset, .unset, .unset, .unset, .unset, .unset, .unset, .unset, .unset, .unset, .unset, .unset, .unset, .unset, .unset, .unset, .unset, .unset, .unset, .unset, .unset] [(.int ((p3.toUInt32 >>> ((6 : Int32) &&& 31).toUInt32).toInt32))])
  refine Goes.go (fun _ => XS.bipush S.here B.x rfl (B.d at_23)) ?_
  show Goes _ _ _ _ T (mkF me_ 25 #[.val (.long q0), .second, .val (.long q1), .second, .val (.long q2), .second, .val (.int p3), .val (.int p4), .val (.long v1), .second, .val (.long v2), .second, .unset, .unset, .unset, .unset, .unset, .unset, .unset, .unset, .unset, .unset, .unset, .unset, .unset, .unset, .unset, .unset, .unset, .unset, .unset, .unset, .unset, .unset, .unset, .unset, .unset, .unset, .unset, .unset, .unset, .unset, .unset] [(.int (7 : Int32)), (.int ((p3.toUInt32 >>> ((6 : Int32) &&& 31).toUInt32).toInt32))])
  refine Goes.go (fun _ => XS.iand S.here B.x rfl (B.d at_25) rfl) ?_
  show Goes _ _ _ _ T (mkF me_ 26 #[.val (.long q0), .second, .val (.long q1), .second, .val (.long q2), .second, .val (.int p3), .val (.int p4), .val (.long v1), .second, .val (.long v2), .second, .unset, .unset, .unset, .unset, .unset, .unset, .unset, .unset, .unset, .unset, .unset, .unset, .unset, .unset, .unset, .unset, .unset, .unset, .unset, .unset, .unset, .unset, .unset, .unset, .unset, .unset, .unset, .unset, .unset, .unset, .unset] [(.int (((p3.toUInt32 >>> ((6 : Int32) &&& 31).toUInt32).toInt32) &&& (7 : Int32)))])
  refine Goes.go (fun _ => XS.i2l S.here B.x rfl (B.d at_26) rfl) ?_
  show Goes _ _ _ _ T (mkF me_ 27 #[.val (.long q0), .second, .val (.long q1), .second, .val (.long q2), .second, .val (.int p3), .val (.int p4), .val (.long v1), .second, .val (.long v2), .second, .unset, .unset, .unset, .unset, .unset, .unset, .unset, .unset, .unset, .unset, .unset, .unset, .unset, .unset, .unset, .unset, .unset, .unset, .unset, .unset, .unset, .unset, .unset, .unset, .unset, .unset, .unset, .unset, .unset, .unset, .unset] [(.long (((p3.toUInt32 >>> ((6 : Int32) &&& 31).toUInt32).toInt32) &&& (7 : Int32)).toInt64)])
  generalize hv3 : (((p3.toUInt32 >>> ((6 : Int32) &&& 31).toUInt32).toInt32) &&& (7 : Int32)).toInt64 = v3
  refine Goes.go (fun _ => XS.lstore (g := (mkF me_ 27 #[.val (.long q0), .second, .val (.long q1), .second, .val (.long q2), .second, .val (.int p3), .val (.int p4), .val (.long v1), .second, .val (.long v2), .second, .unset, .unset, .unset, .unset, .unset, .unset, .unset, .unset, .unset, .unset, .unset, .unset, .unset, .unset, .unset, .unset, .unset, .unset, .unset, .unset, .unset, .unset, .unset, .unset, .unset, .unset, .unset, .unset, .unset, .unset, .unset] [(.long v3)])) S.here B.x rfl (B.d at_27) rfl (l' := #[.val (.long q0), .second, .val (.long q1), .second, .val (.long q2), .second, .val (.int p3), .val (.int p4), .val (.long v1), .second, .val (.long v2), .second, .val (.long v3), .second, .unset, .unset, .unset, .unset, .unset, .unset, .unset, .unset, .unset, .unset, .unset, .unset, .unset, .unset, .unset, .unset, .unset, .unset, .unset, .unset, .unset, .unset, .unset, .unset, .unset, .unset, .unset, .unset, .unset]) rfl) ?_
  show Goes _ _ _ _ T (mkF me_ 29 #[.val (.long q0), .second, .val (.long q1), .second, .val (.long q2), .second, .val (.int p3), .val (.int p4), .val (.long v1), .second, .val (.long v2), .second, .val (.long v3), .second, .unset, .unset, .unset, .unset, .unset, .unset, .unset, .unset, .unset, .unset, .unset, .unset, .unset, .unset, .unset, .unset, .unset, .unset, .unset, .unset, .unset, .unset, .unset, .unset, .unset, .unset, .unset, .unset, .unset] [])
  refine Goes.go (fun _ => XS.iload S.here B.x rfl (B.d at_29) rfl) ?_
  show Goes _ _ _ _ T (mkF me_ 31 #[.val (.long q0), .second, .val (.long q1), .second, .val (.long q2), .second, .val (.int p3), .val (.int p4), .val (.long v1), .second, .val (.long v2), .second, .val (.long v3), .second, .unset, .unset, .unset, .unset, .unset, .unset, .unset, .unset, .unset, .unset, .unset, .unset, .unset, .unset, .unset, .unset, .unset, .unset, .unset, .unset, .unset, .unset, .unset, .unset, .unset, .unset, .unset, .unset, .unset] [(.int p3)])
  refine Goes.go (fun _ => XS.bipush S.here B.x rfl (B.d at_31)) ?_
  show Goes _ _ _ _ T (mkF me_ 33 #[.val (.long q0), .second, .val (.long q1), .second, .val (.long q2), .second, .val (.int p3), .val (.int p4), .val (.long v1), .second, .val (.long v2), .second, .val (.long v3), .second, .unset, .unset, .unset, .unset, .unset, .unset, .unset, .unset, .unset, .unset, .unset, .unset, .unset, .unset, .unset, .unset, .unset, .unset, .unset, .unset, .unset, .unset, .unset, .unset, .unset, .unset, .unset, .unset, .unset] [(.int (9 : Int32)), (.int p3)])
  refine Goes.go (fun _ => XS.iushr S.here B.x rfl (B.d at_33) rfl) ?_
  show Goes _ _ _ _ T (mkF me_ 34 #[.val (.long q0), .second, .val (.long q1), .second, .val (.long q2), .second, .val (.int p3), .val (.int p4), .val (.long v1), .second, .val (.long v2), .second, .val (.long v3), .second, .unset, .unset, .unset, .unset, .unset, .unset, .unset, .unset, .unset, .unset, .unset, .unset, .unset, .unset, .unset, .unset, .unset, .unset, .unset, .unset, .unset, .unset, .unset, .unset, .unset, .unset, .unset, .unset, .unset] [(.int ((p3.toUInt32 >>> ((9 : Int32) &&& 31).toUInt32).toInt32))])
  refine Goes.go (fun _ => XS.bipush S.here B.x rfl (B.d at_34)) ?_
  show Goes _ _ _ _ T (mkF me_ 36 #[.val (.long q0), .second, .val (.long q1), .second, .val (.long q2), .second, .val (.int p3), .val (.int p4), .val (.long v1), .second, .val (.long v2), .second, .val (.long v3), .second, .unset, .unset, .unset, .unset, .unset, .unset, .unset, .unset, .unset, .unset, .unset, .unset, .unset, .unset, .unset, .unset, .unset, .unset, .unset, .unset, .unset, .unset, .unset, .unset, .unset, .unset, .unset, .unset, .unset] [(.int (15 : Int32)), (.int ((p3.toUInt32 >>> ((9 : Int32) &&& 31).toUInt32).toInt32))])
  refine Goes.go (fun _ => XS.iand S.here B.x rfl (B.d at_36) rfl) ?_
  show Goes _ _ _ _ T (mkF me_ 37 #[.val (.long q0), .second, .val (.long q1), .second, .val (.long q2), .second, .val (.int p3), .val (.int p4), .val (.long v1), .second, .val (.long v2), .second, .val (.long v3), .second, .unset, .unset, .unset, .unset, .unset, .unset, .unset, .unset, .unset, .unset, .unset, .unset, .unset, .unset, .unset, .unset, .unset, .unset, .unset, .unset, .unset, .unset, .unset, .unset, .unset, .unset, .unset, .unset, .unset] [(.int (((p3.toUInt32 >>> ((9 : Int32) &&& 31).toUInt32).toInt32) &&& (15 : Int32)))])
  refine Goes.go (fun _ => XS.i2l S.here B.x rfl (B.d at_37) rfl) ?_
  show Goes _ _ _ _ T (mkF me_ 38 #[.val (.long q0), .second, .val (.long q1), .second, .val (.long q2), .second, .val (.int p3), .val (.int p4), .val (.long v1), .second, .val (.long v2), .second, .val (.long v3), .second, .unset, .unset, .unset, .unset, .unset, .unset, .unset, .unset, .unset, .unset, .unset, .unset, .unset, .unset, .unset, .unset, .unset, .unset, .unset, .unset, .unset, .unset, .unset, .unset, .unset, .unset, .unset, .unset, .unset] [(.long (((p3.toUInt32 >>> ((9 : Int32) &&& 31).toUInt32).toInt32) &&& (15 : Int32)).toInt64)])
  generalize hv4 : (((p3.toUInt32 >>> ((9 : Int32) &&& 31).toUInt32).toInt32) &&& (15 : Int32)).toInt64 = v4
  refine Goes.go (fun _ => XS.lstore (g := (mkF me_ 38 #[.val (.long q0), .second, .val (.long q1), .second, .val (.long q2), .second, .val (.int p3), .val (.int p4), .val (.long v1), .second, .val (.long v2), .second, .val (.long v3), .second, .unset, .unset, .unset, .unset, .unset, .unset, .unset, .unset, .unset, .unset, .unset, .unset, .unset, .unset, .unset, .unset, .unset, .unset, .unset, .unset, .unset, .unset, .unset, .unset, .unset, .unset, .unset, .unset, .unset] [(.long v4)])) S.here B.x rfl (B.d at_38) rfl (l' := #[.val (.long q0), .second, .val (.long q1), .second, .val (.long q2), .second, .val (.int p3), .val (.int p4), .val (.long v1), .second, .val (.long v2), .second, .val (.long v3), .second, .val (.long v4), .second, .unset, .unset, .unset, .unset, .unset, .unset, .unset, .unset, .unset, .unset, .unset, .unset, .unset, .unset, .unset, .unset, .unset, .unset, .unset, .unset, .unset, .unset, .unset, .unset, .unset, .unset, .unset]) rfl) ?_
  show Goes _ _ _ _ T (mkF me_ 40 #[.val (.long q0), .second, .val (.long q1), .second, .val (.long q2), .second, .val (.int p3), .val (.int p4), .val (.long v1), .second, .val (.long v2), .second, .val (.long v3), .second, .val (.long v4), .second, .unset, .unset, .unset, .unset, .unset, .unset, .unset, .unset, .unset, .unset, .unset, .unset, .unset, .unset, .unset, .unset, .unset, .unset, .unset, .unset, .unset, .unset, .unset, .unset, .unset, .unset, .unset] [])
  have J5 : ∀ (T : State) (lo : Int64) (hi : Int64) (plo : Int64) (phi : Int64), Sd pr_ l en_ room_1 st_ me_ #[(.long q0), (.long q1), (.long q2), (.int p3), (.int p4)] below meth co_ T h0 n0 0 0 → own_H q0 q1 v1 v2 lo hi plo phi → Goes pr_.tables en_ below (Fine st_ n0 (Q_rm0 Z q0 q1 q2 p3 p4 h0 n0) room_1.cells room_1.slots) T (mkF me_ 102 #[.val (.long q0), .second, .val (.long q1), .second, .val (.long q2), .second, .val (.int p3), .val (.int p4), .val (.long v1), .second, .val (.long v2), .second, .val (.long v3), .second, .val (.long v4), .second, .val (.long lo), .second, .val (.long hi), .second, .val (.long plo), .second, .val (.long phi), .second, .unset, .unset, .unset, .unset, .unset, .unset, .unset, .unset, .unset, .unset, .unset, .unset, .unset, .unset, .unset, .unset, .unset, .unset, .unset] []) := by
    intro T lo hi plo phi S hH
    refine Goes.go (fun _ => XS.lload S.here B.x rfl (B.d at_102) rfl) ?_
    show Goes _ _ _ _ T (mkF me_ 104 #[.val (.long q0), .second, .val (.long q1), .second, .val (.long q2), .second, .val (.int p3), .val (.int p4), .val (.long v1), .second, .val (.long v2), .second, .val (.long v3), .second, .val (.long v4), .second, .val (.long lo), .second, .val (.long hi), .second, .val (.long plo), .second, .val (.long phi), .second, .unset, .unset, .unset, .unset, .unset, .unset, .unset, .unset, .unset, .unset, .unset, .unset, .unset, .unset, .unset, .unset, .unset, .unset, .unset] [(.long v1)])
    refine Goes.go (fun _ => XS.lload S.here B.x rfl (B.d at_104) rfl) ?_
    show Goes _ _ _ _ T (mkF me_ 106 #[.val (.long q0), .second, .val (.long q1), .second, .val (.long q2), .second, .val (.int p3), .val (.int p4), .val (.long v1), .second, .val (.long v2), .second, .val (.long v3), .second, .val (.long v4), .second, .val (.long lo), .second, .val (.long hi), .second, .val (.long plo), .second, .val (.long phi), .second, .unset, .unset, .unset, .unset, .unset, .unset, .unset, .unset, .unset, .unset, .unset, .unset, .unset, .unset, .unset, .unset, .unset, .unset, .unset] [(.long v2), (.long v1)])
    refine Goes.go (fun _ => XS.ladd S.here B.x rfl (B.d at_106) rfl) ?_
    show Goes _ _ _ _ T (mkF me_ 107 #[.val (.long q0), .second, .val (.long q1), .second, .val (.long q2), .second, .val (.int p3), .val (.int p4), .val (.long v1), .second, .val (.long v2), .second, .val (.long v3), .second, .val (.long v4), .second, .val (.long lo), .second, .val (.long hi), .second, .val (.long plo), .second, .val (.long phi), .second, .unset, .unset, .unset, .unset, .unset, .unset, .unset, .unset, .unset, .unset, .unset, .unset, .unset, .unset, .unset, .unset, .unset, .unset, .unset] [(.long (v1 + v2))])
    generalize hv6 : (v1 + v2) = v6
    refine Goes.go (fun _ => XS.lstore (g := (mkF me_ 107 #[.val (.long q0), .second, .val (.long q1), .second, .val (.long q2), .second, .val (.int p3), .val (.int p4), .val (.long v1), .second, .val (.long v2), .second, .val (.long v3), .second, .val (.long v4), .second, .val (.long lo), .second, .val (.long hi), .second, .val (.long plo), .second, .val (.long phi), .second, .unset, .unset, .unset, .unset, .unset, .unset, .unset, .unset, .unset, .unset, .unset, .unset, .unset, .unset, .unset, .unset, .unset, .unset, .unset] [(.long v6)])) S.here B.x rfl (B.d at_107) rfl (l' := #[.val (.long q0), .second, .val (.long q1), .second, .val (.long q2), .second, .val (.int p3), .val (.int p4), .val (.long v1), .second, .val (.long v2), .second, .val (.long v3), .second, .val (.long v4), .second, .val (.long lo), .second, .val (.long hi), .second, .val (.long plo), .second, .val (.long phi), .second, .val (.long v6), .second, .unset, .unset, .unset, .unset, .unset, .unset, .unset, .unset, .unset, .unset, .unset, .unset, .unset, .unset, .unset, .unset, .unset]) rfl) ?_
    show Goes _ _ _ _ T (mkF me_ 109 #[.val (.long q0), .second, .val (.long q1), .second, .val (.long q2), .second, .val (.int p3), .val (.int p4), .val (.long v1), .second, .val (.long v2), .second, .val (.long v3), .second, .val (.long v4), .second, .val (.long lo), .second, .val (.long hi), .second, .val (.long plo), .second, .val (.long phi), .second, .val (.long v6), .second, .unset, .unset, .unset, .unset, .unset, .unset, .unset, .unset, .unset, .unset, .unset, .unset, .unset, .unset, .unset, .unset, .unset] [])
    have J7 : ∀ (T : State) (dr : Int64), Sd pr_ l en_ room_1 st_ me_ #[(.long q0), (.long q1), (.long q2), (.int p3), (.int p4)] below meth co_ T h0 n0 0 0 → (v4 < v6 ∧ dr = v6 - v4) ∨ (¬ v4 < v6 ∧ dr = 0) → Goes pr_.tables en_ below (Fine st_ n0 (Q_rm0 Z q0 q1 q2 p3 p4 h0 n0) room_1.cells room_1.slots) T (mkF me_ 126 #[.val (.long q0), .second, .val (.long q1), .second, .val (.long q2), .second, .val (.int p3), .val (.int p4), .val (.long v1), .second, .val (.long v2), .second, .val (.long v3), .second, .val (.long v4), .second, .val (.long lo), .second, .val (.long hi), .second, .val (.long plo), .second, .val (.long phi), .second, .val (.long v6), .second, .unset, .unset, .unset, .unset, .unset, .unset, .unset, .unset, .unset, .unset, .unset, .unset, .unset, .unset, .unset, .unset, .unset] [(.long dr)]) := by
      intro T dr S hdr
      refine Goes.go (fun _ => XS.lstore (g := (mkF me_ 126 #[.val (.long q0), .second, .val (.long q1), .second, .val (.long q2), .second, .val (.int p3), .val (.int p4), .val (.long v1), .second, .val (.long v2), .second, .val (.long v3), .second, .val (.long v4), .second, .val (.long lo), .second, .val (.long hi), .second, .val (.long plo), .second, .val (.long phi), .second, .val (.long v6), .second, .unset, .unset, .unset, .unset, .unset, .unset, .unset, .unset, .unset, .unset, .unset, .unset, .unset, .unset, .unset, .unset, .unset] [(.long dr)])) S.here B.x rfl (B.d at_126) rfl (l' := #[.val (.long q0), .second, .val (.long q1), .second, .val (.long q2), .second, .val (.int p3), .val (.int p4), .val (.long v1), .second, .val (.long v2), .second, .val (.long v3), .second, .val (.long v4), .second, .val (.long lo), .second, .val (.long hi), .second, .val (.long plo), .second, .val (.long phi), .second, .val (.long v6), .second, .val (.long dr), .second, .unset, .unset, .unset, .unset, .unset, .unset, .unset, .unset, .unset, .unset, .unset, .unset, .unset, .unset, .unset]) rfl) ?_
      show Goes _ _ _ _ T (mkF me_ 128 #[.val (.long q0), .second, .val (.long q1), .second, .val (.long q2), .second, .val (.int p3), .val (.int p4), .val (.long v1), .second, .val (.long v2), .second, .val (.long v3), .second, .val (.long v4), .second, .val (.long lo), .second, .val (.long hi), .second, .val (.long plo), .second, .val (.long phi), .second, .val (.long v6), .second, .val (.long dr), .second, .unset, .unset, .unset, .unset, .unset, .unset, .unset, .unset, .unset, .unset, .unset, .unset, .unset, .unset, .unset] [])
      refine Goes.go (fun _ => XS.lconst S.here B.x rfl (B.d at_128)) ?_
      show Goes _ _ _ _ T (mkF me_ 129 #[.val (.long q0), .second, .val (.long q1), .second, .val (.long q2), .second, .val (.int p3), .val (.int p4), .val (.long v1), .second, .val (.long v2), .second, .val (.long v3), .second, .val (.long v4), .second, .val (.long lo), .second, .val (.long hi), .second, .val (.long plo), .second, .val (.long phi), .second, .val (.long v6), .second, .val (.long dr), .second, .unset, .unset, .unset, .unset, .unset, .unset, .unset, .unset, .unset, .unset, .unset, .unset, .unset, .unset, .unset] [(.long (0 : Int64))])
      refine Goes.go (fun _ => XS.lload S.here B.x rfl (B.d at_129) rfl) ?_
      show Goes _ _ _ _ T (mkF me_ 131 #[.val (.long q0), .second, .val (.long q1), .second, .val (.long q2), .second, .val (.int p3), .val (.int p4), .val (.long v1), .second, .val (.long v2), .second, .val (.long v3), .second, .val (.long v4), .second, .val (.long lo), .second, .val (.long hi), .second, .val (.long plo), .second, .val (.long phi), .second, .val (.long v6), .second, .val (.long dr), .second, .unset, .unset, .unset, .unset, .unset, .unset, .unset, .unset, .unset, .unset, .unset, .unset, .unset, .unset, .unset] [(.long plo), (.long (0 : Int64))])
      refine Goes.go (fun _ => XS.lload S.here B.x rfl (B.d at_131) rfl) ?_
      show Goes _ _ _ _ T (mkF me_ 133 #[.val (.long q0), .second, .val (.long q1), .second, .val (.long q2), .second, .val (.int p3), .val (.int p4), .val (.long v1), .second, .val (.long v2), .second, .val (.long v3), .second, .val (.long v4), .second, .val (.long lo), .second, .val (.long hi), .second, .val (.long plo), .second, .val (.long phi), .second, .val (.long v6), .second, .val (.long dr), .second, .unset, .unset, .unset, .unset, .unset, .unset, .unset, .unset, .unset, .unset, .unset, .unset, .unset, .unset, .unset] [(.long dr), (.long plo), (.long (0 : Int64))])
      refine Goes.go (fun _ => XS.lsub S.here B.x rfl (B.d at_133) rfl) ?_
      show Goes _ _ _ _ T (mkF me_ 134 #[.val (.long q0), .second, .val (.long q1), .second, .val (.long q2), .second, .val (.int p3), .val (.int p4), .val (.long v1), .second, .val (.long v2), .second, .val (.long v3), .second, .val (.long v4), .second, .val (.long lo), .second, .val (.long hi), .second, .val (.long plo), .second, .val (.long phi), .second, .val (.long v6), .second, .val (.long dr), .second, .unset, .unset, .unset, .unset, .unset, .unset, .unset, .unset, .unset, .unset, .unset, .unset, .unset, .unset, .unset] [(.long (plo - dr)), (.long (0 : Int64))])
      refine Goes.callS (argsL := [(.long (0 : Int64)), (.long (plo - dr))]) (rest := []) (W := 0) S B (rm_max l Z aw hw (0 : Int64) (plo - dr) _ n0) (w0 hw) (w1 hw) (w2 hw) (w3 hw) (by decide) (by decide) (by decide) (by decide) (by decide) rfl (lenOf pd_6 rfl) rfl (Nat.le_of_eq rfl) at_134 ?_
      intro v T h S hQ
      obtain ⟨rfl, hh⟩ := hQ
      replace hh := hh.symm
      subst hh
      show Goes _ _ _ _ T (mkF me_ 137 #[.val (.long q0), .second, .val (.long q1), .second, .val (.long q2), .second, .val (.int p3), .val (.int p4), .val (.long v1), .second, .val (.long v2), .second, .val (.long v3), .second, .val (.long v4), .second, .val (.long lo), .second, .val (.long hi), .second, .val (.long plo), .second, .val (.long phi), .second, .val (.long v6), .second, .val (.long dr), .second, .unset, .unset, .unset, .unset, .unset, .unset, .unset, .unset, .unset, .unset, .unset, .unset, .unset, .unset, .unset] [(.long (own_max (0 : Int64) (plo - dr)))])
      generalize hv8 : (own_max (0 : Int64) (plo - dr)) = v8
      refine Goes.go (fun _ => XS.lstore (g := (mkF me_ 137 #[.val (.long q0), .second, .val (.long q1), .second, .val (.long q2), .second, .val (.int p3), .val (.int p4), .val (.long v1), .second, .val (.long v2), .second, .val (.long v3), .second, .val (.long v4), .second, .val (.long lo), .second, .val (.long hi), .second, .val (.long plo), .second, .val (.long phi), .second, .val (.long v6), .second, .val (.long dr), .second, .unset, .unset, .unset, .unset, .unset, .unset, .unset, .unset, .unset, .unset, .unset, .unset, .unset, .unset, .unset] [(.long v8)])) S.here B.x rfl (B.d at_137) rfl (l' := #[.val (.long q0), .second, .val (.long q1), .second, .val (.long q2), .second, .val (.int p3), .val (.int p4), .val (.long v1), .second, .val (.long v2), .second, .val (.long v3), .second, .val (.long v4), .second, .val (.long lo), .second, .val (.long hi), .second, .val (.long plo), .second, .val (.long phi), .second, .val (.long v6), .second, .val (.long dr), .second, .val (.long v8), .second, .unset, .unset, .unset, .unset, .unset, .unset, .unset, .unset, .unset, .unset, .unset, .unset, .unset]) rfl) ?_
      show Goes _ _ _ _ T (mkF me_ 139 #[.val (.long q0), .second, .val (.long q1), .second, .val (.long q2), .second, .val (.int p3), .val (.int p4), .val (.long v1), .second, .val (.long v2), .second, .val (.long v3), .second, .val (.long v4), .second, .val (.long lo), .second, .val (.long hi), .second, .val (.long plo), .second, .val (.long phi), .second, .val (.long v6), .second, .val (.long dr), .second, .val (.long v8), .second, .unset, .unset, .unset, .unset, .unset, .unset, .unset, .unset, .unset, .unset, .unset, .unset, .unset] [])
      refine Goes.go (fun _ => XS.lload S.here B.x rfl (B.d at_139) rfl) ?_
      show Goes _ _ _ _ T (mkF me_ 141 #[.val (.long q0), .second, .val (.long q1), .second, .val (.long q2), .second, .val (.int p3), .val (.int p4), .val (.long v1), .second, .val (.long v2), .second, .val (.long v3), .second, .val (.long v4), .second, .val (.long lo), .second, .val (.long hi), .second, .val (.long plo), .second, .val (.long phi), .second, .val (.long v6), .second, .val (.long dr), .second, .val (.long v8), .second, .unset, .unset, .unset, .unset, .unset, .unset, .unset, .unset, .unset, .unset, .unset, .unset, .unset] [(.long phi)])
      refine Goes.go (fun _ => XS.lconst S.here B.x rfl (B.d at_141)) ?_
      show Goes _ _ _ _ T (mkF me_ 142 #[.val (.long q0), .second, .val (.long q1), .second, .val (.long q2), .second, .val (.int p3), .val (.int p4), .val (.long v1), .second, .val (.long v2), .second, .val (.long v3), .second, .val (.long v4), .second, .val (.long lo), .second, .val (.long hi), .second, .val (.long plo), .second, .val (.long phi), .second, .val (.long v6), .second, .val (.long dr), .second, .val (.long v8), .second, .unset, .unset, .unset, .unset, .unset, .unset, .unset, .unset, .unset, .unset, .unset, .unset, .unset] [(.long (0 : Int64)), (.long phi)])
      refine Goes.go (fun _ => XS.lload S.here B.x rfl (B.d at_142) rfl) ?_
      show Goes _ _ _ _ T (mkF me_ 144 #[.val (.long q0), .second, .val (.long q1), .second, .val (.long q2), .second, .val (.int p3), .val (.int p4), .val (.long v1), .second, .val (.long v2), .second, .val (.long v3), .second, .val (.long v4), .second, .val (.long lo), .second, .val (.long hi), .second, .val (.long plo), .second, .val (.long phi), .second, .val (.long v6), .second, .val (.long dr), .second, .val (.long v8), .second, .unset, .unset, .unset, .unset, .unset, .unset, .unset, .unset, .unset, .unset, .unset, .unset, .unset] [(.long dr), (.long (0 : Int64)), (.long phi)])
      refine Goes.go (fun _ => XS.lload S.here B.x rfl (B.d at_144) rfl) ?_
      show Goes _ _ _ _ T (mkF me_ 146 #[.val (.long q0), .second, .val (.long q1), .second, .val (.long q2), .second, .val (.int p3), .val (.int p4), .val (.long v1), .second, .val (.long v2), .second, .val (.long v3), .second, .val (.long v4), .second, .val (.long lo), .second, .val (.long hi), .second, .val (.long plo), .second, .val (.long phi), .second, .val (.long v6), .second, .val (.long dr), .second, .val (.long v8), .second, .unset, .unset, .unset, .unset, .unset, .unset, .unset, .unset, .unset, .unset, .unset, .unset, .unset] [(.long plo), (.long dr), (.long (0 : Int64)), (.long phi)])
      refine Goes.go (fun _ => XS.lsub S.here B.x rfl (B.d at_146) rfl) ?_
      show Goes _ _ _ _ T (mkF me_ 147 #[.val (.long q0), .second, .val (.long q1), .second, .val (.long q2), .second, .val (.int p3), .val (.int p4), .val (.long v1), .second, .val (.long v2), .second, .val (.long v3), .second, .val (.long v4), .second, .val (.long lo), .second, .val (.long hi), .second, .val (.long plo), .second, .val (.long phi), .second, .val (.long v6), .second, .val (.long dr), .second, .val (.long v8), .second, .unset, .unset, .unset, .unset, .unset, .unset, .unset, .unset, .unset, .unset, .unset, .unset, .unset] [(.long (dr - plo)), (.long (0 : Int64)), (.long phi)])
      refine Goes.callS (argsL := [(.long (0 : Int64)), (.long (dr - plo))]) (rest := [(.long phi)]) (W := 2) S B (rm_max l Z aw hw (0 : Int64) (dr - plo) _ n0) (w0 hw) (w1 hw) (w2 hw) (w3 hw) (by decide) (by decide) (by decide) (by decide) (by decide) rfl (lenOf pd_6 rfl) rfl (Nat.le_of_eq rfl) at_147 ?_
      intro v T h S hQ
      obtain ⟨rfl, hh⟩ := hQ
      replace hh := hh.symm
      subst hh
      show Goes _ _ _ _ T (mkF me_ 150 #[.val (.long q0), .second, .val (.long q1), .second, .val (.long q2), .second, .val (.int p3), .val (.int p4), .val (.long v1), .second, .val (.long v2), .second, .val (.long v3), .second, .val (.long v4), .second, .val (.long lo), .second, .val (.long hi), .second, .val (.long plo), .second, .val (.long phi), .second, .val (.long v6), .second, .val (.long dr), .second, .val (.long v8), .second, .unset, .unset, .unset, .unset, .unset, .unset, .unset, .unset, .unset, .unset, .unset, .unset, .unset] [(.long (own_max (0 : Int64) (dr - plo))), (.long phi)])
      refine Goes.go (fun _ => XS.lsub S.here B.x rfl (B.d at_150) rfl) ?_
      show Goes _ _ _ _ T (mkF me_ 151 #[.val (.long q0), .second, .val (.long q1), .second, .val (.long q2), .second, .val (.int p3), .val (.int p4), .val (.long v1), .second, .val (.long v2), .second, .val (.long v3), .second, .val (.long v4), .second, .val (.long lo), .second, .val (.long hi), .second, .val (.long plo), .second, .val (.long phi), .second, .val (.long v6), .second, .val (.long dr), .second, .val (.long v8), .second, .unset, .unset, .unset, .unset, .unset, .unset, .unset, .unset, .unset, .unset, .unset, .unset, .unset] [(.long (phi - (own_max (0 : Int64) (dr - plo))))])
      generalize hv9 : (phi - (own_max (0 : Int64) (dr - plo))) = v9
      refine Goes.go (fun _ => XS.lstore (g := (mkF me_ 151 #[.val (.long q0), .second, .val (.long q1), .second, .val (.long q2), .second, .val (.int p3), .val (.int p4), .val (.long v1), .second, .val (.long v2), .second, .val (.long v3), .second, .val (.long v4), .second, .val (.long lo), .second, .val (.long hi), .second, .val (.long plo), .second, .val (.long phi), .second, .val (.long v6), .second, .val (.long dr), .second, .val (.long v8), .second, .unset, .unset, .unset, .unset, .unset, .unset, .unset, .unset, .unset, .unset, .unset, .unset, .unset] [(.long v9)])) S.here B.x rfl (B.d at_151) rfl (l' := #[.val (.long q0), .second, .val (.long q1), .second, .val (.long q2), .second, .val (.int p3), .val (.int p4), .val (.long v1), .second, .val (.long v2), .second, .val (.long v3), .second, .val (.long v4), .second, .val (.long lo), .second, .val (.long hi), .second, .val (.long plo), .second, .val (.long phi), .second, .val (.long v6), .second, .val (.long dr), .second, .val (.long v8), .second, .val (.long v9), .second, .unset, .unset, .unset, .unset, .unset, .unset, .unset, .unset, .unset, .unset, .unset]) rfl) ?_
      show Goes _ _ _ _ T (mkF me_ 153 #[.val (.long q0), .second, .val (.long q1), .second, .val (.long q2), .second, .val (.int p3), .val (.int p4), .val (.long v1), .second, .val (.long v2), .second, .val (.long v3), .second, .val (.long v4), .second, .val (.long lo), .second, .val (.long hi), .second, .val (.long plo), .second, .val (.long phi), .second, .val (.long v6), .second, .val (.long dr), .second, .val (.long v8), .second, .val (.long v9), .second, .unset, .unset, .unset, .unset, .unset, .unset, .unset, .unset, .unset, .unset, .unset] [])
      refine Goes.go (fun _ => XS.lload S.here B.x rfl (B.d at_153) rfl) ?_
      show Goes _ _ _ _ T (mkF me_ 155 #[.val (.long q0), .second, .val (.long q1), .second, .val (.long q2), .second, .val (.int p3), .val (.int p4), .val (.long v1), .second, .val (.long v2), .second, .val (.long v3), .second, .val (.long v4), .second, .val (.long lo), .second, .val (.long hi), .second, .val (.long plo), .second, .val (.long phi), .second, .val (.long v6), .second, .val (.long dr), .second, .val (.long v8), .second, .val (.long v9), .second, .unset, .unset, .unset, .unset, .unset, .unset, .unset, .unset, .unset, .unset, .unset] [(.long v8)])
      refine Goes.go (fun _ => XS.lload S.here B.x rfl (B.d at_155) rfl) ?_
      show Goes _ _ _ _ T (mkF me_ 157 #[.val (.long q0), .second, .val (.long q1), .second, .val (.long q2), .second, .val (.int p3), .val (.int p4), .val (.long v1), .second, .val (.long v2), .second, .val (.long v3), .second, .val (.long v4), .second, .val (.long lo), .second, .val (.long hi), .second, .val (.long plo), .second, .val (.long phi), .second, .val (.long v6), .second, .val (.long dr), .second, .val (.long v8), .second, .val (.long v9), .second, .unset, .unset, .unset, .unset, .unset, .unset, .unset, .unset, .unset, .unset, .unset] [(.long v9), (.long v8)])
      refine Goes.go (fun _ => XS.ladd S.here B.x rfl (B.d at_157) rfl) ?_
      show Goes _ _ _ _ T (mkF me_ 158 #[.val (.long q0), .second, .val (.long q1), .second, .val (.long q2), .second, .val (.int p3), .val (.int p4), .val (.long v1), .second, .val (.long v2), .second, .val (.long v3), .second, .val (.long v4), .second, .val (.long lo), .second, .val (.long hi), .second, .val (.long plo), .second, .val (.long phi), .second, .val (.long v6), .second, .val (.long dr), .second, .val (.long v8), .second, .val (.long v9), .second, .unset, .unset, .unset, .unset, .unset, .unset, .unset, .unset, .unset, .unset, .unset] [(.long (v8 + v9))])
      refine Goes.go (fun _ => XS.lload S.here B.x rfl (B.d at_158) rfl) ?_
      show Goes _ _ _ _ T (mkF me_ 160 #[.val (.long q0), .second, .val (.long q1), .second, .val (.long q2), .second, .val (.int p3), .val (.int p4), .val (.long v1), .second, .val (.long v2), .second, .val (.long v3), .second, .val (.long v4), .second, .val (.long lo), .second, .val (.long hi), .second, .val (.long plo), .second, .val (.long phi), .second, .val (.long v6), .second, .val (.long dr), .second, .val (.long v8), .second, .val (.long v9), .second, .unset, .unset, .unset, .unset, .unset, .unset, .unset, .unset, .unset, .unset, .unset] [(.long v3), (.long (v8 + v9))])
      refine Goes.go (fun _ => XS.ladd S.here B.x rfl (B.d at_160) rfl) ?_
      show Goes _ _ _ _ T (mkF me_ 161 #[.val (.long q0), .second, .val (.long q1), .second, .val (.long q2), .second, .val (.int p3), .val (.int p4), .val (.long v1), .second, .val (.long v2), .second, .val (.long v3), .second, .val (.long v4), .second, .val (.long lo), .second, .val (.long hi), .second, .val (.long plo), .second, .val (.long phi), .second, .val (.long v6), .second, .val (.long dr), .second, .val (.long v8), .second, .val (.long v9), .second, .unset, .unset, .unset, .unset, .unset, .unset, .unset, .unset, .unset, .unset, .unset] [(.long ((v8 + v9) + v3))])
      generalize hv10 : ((v8 + v9) + v3) = v10
      refine Goes.go (fun _ => XS.lstore (g := (mkF me_ 161 #[.val (.long q0), .second, .val (.long q1), .second, .val (.long q2), .second, .val (.int p3), .val (.int p4), .val (.long v1), .second, .val (.long v2), .second, .val (.long v3), .second, .val (.long v4), .second, .val (.long lo), .second, .val (.long hi), .second, .val (.long plo), .second, .val (.long phi), .second, .val (.long v6), .second, .val (.long dr), .second, .val (.long v8), .second, .val (.long v9), .second, .unset, .unset, .unset, .unset, .unset, .unset, .unset, .unset, .unset, .unset, .unset] [(.long v10)])) S.here B.x rfl (B.d at_161) rfl (l' := #[.val (.long q0), .second, .val (.long q1), .second, .val (.long q2), .second, .val (.int p3), .val (.int p4), .val (.long v1), .second, .val (.long v2), .second, .val (.long v3), .second, .val (.long v4), .second, .val (.long lo), .second, .val (.long hi), .second, .val (.long plo), .second, .val (.long phi), .second, .val (.long v6), .second, .val (.long dr), .second, .val (.long v8), .second, .val (.long v9), .second, .val (.long v10), .second, .unset, .unset, .unset, .unset, .unset, .unset, .unset, .unset, .unset]) rfl) ?_
      show Goes _ _ _ _ T (mkF me_ 163 #[.val (.long q0), .second, .val (.long q1), .second, .val (.long q2), .second, .val (.int p3), .val (.int p4), .val (.long v1), .second, .val (.long v2), .second, .val (.long v3), .second, .val (.long v4), .second, .val (.long lo), .second, .val (.long hi), .second, .val (.long plo), .second, .val (.long phi), .second, .val (.long v6), .second, .val (.long dr), .second, .val (.long v8), .second, .val (.long v9), .second, .val (.long v10), .second, .unset, .unset, .unset, .unset, .unset, .unset, .unset, .unset, .unset] [])
      refine Goes.go (fun _ => XS.lload S.here B.x rfl (B.d at_163) rfl) ?_
      show Goes _ _ _ _ T (mkF me_ 165 #[.val (.long q0), .second, .val (.long q1), .second, .val (.long q2), .second, .val (.int p3), .val (.int p4), .val (.long v1), .second, .val (.long v2), .second, .val (.long v3), .second, .val (.long v4), .second, .val (.long lo), .second, .val (.long hi), .second, .val (.long plo), .second, .val (.long phi), .second, .val (.long v6), .second, .val (.long dr), .second, .val (.long v8), .second, .val (.long v9), .second, .val (.long v10), .second, .unset, .unset, .unset, .unset, .unset, .unset, .unset, .unset, .unset] [(.long v10)])
      refine Goes.go (fun _ => XS.lconst S.here B.x rfl (B.d at_165)) ?_
      show Goes _ _ _ _ T (mkF me_ 166 #[.val (.long q0), .second, .val (.long q1), .second, .val (.long q2), .second, .val (.int p3), .val (.int p4), .val (.long v1), .second, .val (.long v2), .second, .val (.long v3), .second, .val (.long v4), .second, .val (.long lo), .second, .val (.long hi), .second, .val (.long plo), .second, .val (.long phi), .second, .val (.long v6), .second, .val (.long dr), .second, .val (.long v8), .second, .val (.long v9), .second, .val (.long v10), .second, .unset, .unset, .unset, .unset, .unset, .unset, .unset, .unset, .unset] [(.long (0 : Int64)), (.long v10)])
      refine Goes.go (fun _ => XS.lcmp S.here B.x rfl (B.d at_166) rfl) ?_
      show Goes _ _ _ _ T (mkF me_ 167 #[.val (.long q0), .second, .val (.long q1), .second, .val (.long q2), .second, .val (.int p3), .val (.int p4), .val (.long v1), .second, .val (.long v2), .second, .val (.long v3), .second, .val (.long v4), .second, .val (.long lo), .second, .val (.long hi), .second, .val (.long plo), .second, .val (.long phi), .second, .val (.long v6), .second, .val (.long dr), .second, .val (.long v8), .second, .val (.long v9), .second, .val (.long v10), .second, .unset, .unset, .unset, .unset, .unset, .unset, .unset, .unset, .unset] [(.int (lcmpW v10 (0 : Int64)))])
      by_cases hc167 : v10 = (0 : Int64)
      · skip
        refine Goes.go (fun _ => XS.ifNo S.here B.x rfl (B.d at_167) rfl ((if0 _ _).trans (teq ((lw_eq v10 (0 : Int64)).mpr hc167)).2)) ?_
        show Goes _ _ _ _ T (mkF me_ 170 #[.val (.long q0), .second, .val (.long q1), .second, .val (.long q2), .second, .val (.int p3), .val (.int p4), .val (.long v1), .second, .val (.long v2), .second, .val (.long v3), .second, .val (.long v4), .second, .val (.long lo), .second, .val (.long hi), .second, .val (.long plo), .second, .val (.long phi), .second, .val (.long v6), .second, .val (.long dr), .second, .val (.long v8), .second, .val (.long v9), .second, .val (.long v10), .second, .unset, .unset, .unset, .unset, .unset, .unset, .unset, .unset, .unset] [])
        refine Goes.go (fun _ => XS.iconst S.here B.x rfl (B.d at_170)) ?_
        show Goes _ _ _ _ T (mkF me_ 171 #[.val (.long q0), .second, .val (.long q1), .second, .val (.long q2), .second, .val (.int p3), .val (.int p4), .val (.long v1), .second, .val (.long v2), .second, .val (.long v3), .second, .val (.long v4), .second, .val (.long lo), .second, .val (.long hi), .second, .val (.long plo), .second, .val (.long phi), .second, .val (.long v6), .second, .val (.long dr), .second, .val (.long v8), .second, .val (.long v9), .second, .val (.long v10), .second, .unset, .unset, .unset, .unset, .unset, .unset, .unset, .unset, .unset] [(.int (1 : Int32))])
        refine Goes.retN S B (by simp) at_171 (by decide) (by decide) ?_
        exact rfl
      · skip
        refine Goes.go (fun _ => XS.ifYes S.here B.x rfl (pc0 := 167) (pc' := 172) rfl (B.d at_167) rfl ((if0 _ _).trans (feq (mt (lw_eq v10 (0 : Int64)).mp hc167)).2) (by decide) (by decide)) ?_
        show Goes _ _ _ _ T (mkF me_ 172 #[.val (.long q0), .second, .val (.long q1), .second, .val (.long q2), .second, .val (.int p3), .val (.int p4), .val (.long v1), .second, .val (.long v2), .second, .val (.long v3), .second, .val (.long v4), .second, .val (.long lo), .second, .val (.long hi), .second, .val (.long plo), .second, .val (.long phi), .second, .val (.long v6), .second, .val (.long dr), .second, .val (.long v8), .second, .val (.long v9), .second, .val (.long v10), .second, .unset, .unset, .unset, .unset, .unset, .unset, .unset, .unset, .unset] [])
        refine Goes.go (fun _ => XS.lconst S.here B.x rfl (B.d at_172)) ?_
        show Goes _ _ _ _ T (mkF me_ 173 #[.val (.long q0), .second, .val (.long q1), .second, .val (.long q2), .second, .val (.int p3), .val (.int p4), .val (.long v1), .second, .val (.long v2), .second, .val (.long v3), .second, .val (.long v4), .second, .val (.long lo), .second, .val (.long hi), .second, .val (.long plo), .second, .val (.long phi), .second, .val (.long v6), .second, .val (.long dr), .second, .val (.long v8), .second, .val (.long v9), .second, .val (.long v10), .second, .unset, .unset, .unset, .unset, .unset, .unset, .unset, .unset, .unset] [(.long (1 : Int64))])
        refine Goes.go (fun _ => XS.iload S.here B.x rfl (B.d at_173) rfl) ?_
        show Goes _ _ _ _ T (mkF me_ 175 #[.val (.long q0), .second, .val (.long q1), .second, .val (.long q2), .second, .val (.int p3), .val (.int p4), .val (.long v1), .second, .val (.long v2), .second, .val (.long v3), .second, .val (.long v4), .second, .val (.long lo), .second, .val (.long hi), .second, .val (.long plo), .second, .val (.long phi), .second, .val (.long v6), .second, .val (.long dr), .second, .val (.long v8), .second, .val (.long v9), .second, .val (.long v10), .second, .unset, .unset, .unset, .unset, .unset, .unset, .unset, .unset, .unset] [(.int p4), (.long (1 : Int64))])
        refine Goes.ldcI S B (w4 hw) at_175 ?_
        show Goes _ _ _ _ T (mkF me_ 177 #[.val (.long q0), .second, .val (.long q1), .second, .val (.long q2), .second, .val (.int p3), .val (.int p4), .val (.long v1), .second, .val (.long v2), .second, .val (.long v3), .second, .val (.long v4), .second, .val (.long lo), .second, .val (.long hi), .second, .val (.long plo), .second, .val (.long phi), .second, .val (.long v6), .second, .val (.long dr), .second, .val (.long v8), .second, .val (.long v9), .second, .val (.long v10), .second, .unset, .unset, .unset, .unset, .unset, .unset, .unset, .unset, .unset] [(.int (2147483647 : Int32)), (.int p4), (.long (1 : Int64))])
        refine Goes.go (fun _ => XS.iand S.here B.x rfl (B.d at_177) rfl) ?_
        show Goes _ _ _ _ T (mkF me_ 178 #[.val (.long q0), .second, .val (.long q1), .second, .val (.long q2), .second, .val (.int p3), .val (.int p4), .val (.long v1), .second, .val (.long v2), .second, .val (.long v3), .second, .val (.long v4), .second, .val (.long lo), .second, .val (.long hi), .second, .val (.long plo), .second, .val (.long phi), .second, .val (.long v6), .second, .val (.long dr), .second, .val (.long v8), .second, .val (.long v9), .second, .val (.long v10), .second, .unset, .unset, .unset, .unset, .unset, .unset, .unset, .unset, .unset] [(.int (p4 &&& (2147483647 : Int32))), (.long (1 : Int64))])
        refine Goes.go (fun _ => XS.i2l S.here B.x rfl (B.d at_178) rfl) ?_
        show Goes _ _ _ _ T (mkF me_ 179 #[.val (.long q0), .second, .val (.long q1), .second, .val (.long q2), .second, .val (.int p3), .val (.int p4), .val (.long v1), .second, .val (.long v2), .second, .val (.long v3), .second, .val (.long v4), .second, .val (.long lo), .second, .val (.long hi), .second, .val (.long plo), .second, .val (.long phi), .second, .val (.long v6), .second, .val (.long dr), .second, .val (.long v8), .second, .val (.long v9), .second, .val (.long v10), .second, .unset, .unset, .unset, .unset, .unset, .unset, .unset, .unset, .unset] [(.long (p4 &&& (2147483647 : Int32)).toInt64), (.long (1 : Int64))])
        refine Goes.go (fun _ => XS.lload S.here B.x rfl (B.d at_179) rfl) ?_
        show Goes _ _ _ _ T (mkF me_ 181 #[.val (.long q0), .second, .val (.long q1), .second, .val (.long q2), .second, .val (.int p3), .val (.int p4), .val (.long v1), .second, .val (.long v2), .second, .val (.long v3), .second, .val (.long v4), .second, .val (.long lo), .second, .val (.long hi), .second, .val (.long plo), .second, .val (.long phi), .second, .val (.long v6), .second, .val (.long dr), .second, .val (.long v8), .second, .val (.long v9), .second, .val (.long v10), .second, .unset, .unset, .unset, .unset, .unset, .unset, .unset, .unset, .unset] [(.long v10), (.long (p4 &&& (2147483647 : Int32)).toInt64), (.long (1 : Int64))])
        refine Goes.lrem S B at_181 hc167 ?_
        show Goes _ _ _ _ T (mkF me_ 182 #[.val (.long q0), .second, .val (.long q1), .second, .val (.long q2), .second, .val (.int p3), .val (.int p4), .val (.long v1), .second, .val (.long v2), .second, .val (.long v3), .second, .val (.long v4), .second, .val (.long lo), .second, .val (.long hi), .second, .val (.long plo), .second, .val (.long phi), .second, .val (.long v6), .second, .val (.long dr), .second, .val (.long v8), .second, .val (.long v9), .second, .val (.long v10), .second, .unset, .unset, .unset, .unset, .unset, .unset, .unset, .unset, .unset] [(.long ((p4 &&& (2147483647 : Int32)).toInt64 % v10)), (.long (1 : Int64))])
        refine Goes.go (fun _ => XS.ladd S.here B.x rfl (B.d at_182) rfl) ?_
        show Goes _ _ _ _ T (mkF me_ 183 #[.val (.long q0), .second, .val (.long q1), .second, .val (.long q2), .second, .val (.int p3), .val (.int p4), .val (.long v1), .second, .val (.long v2), .second, .val (.long v3), .second, .val (.long v4), .second, .val (.long lo), .second, .val (.long hi), .second, .val (.long plo), .second, .val (.long phi), .second, .val (.long v6), .second, .val (.long dr), .second, .val (.long v8), .second, .val (.long v9), .second, .val (.long v10), .second, .unset, .unset, .unset, .unset, .unset, .unset, .unset, .unset, .unset] [(.long ((1 : Int64) + ((p4 &&& (2147483647 : Int32)).toInt64 % v10)))])
        generalize hv11 : ((1 : Int64) + ((p4 &&& (2147483647 : Int32)).toInt64 % v10)) = v11
        refine Goes.go (fun _ => XS.lstore (g := (mkF me_ 183 #[.val (.long q0), .second, .val (.long q1), .second, .val (.long q2), .second, .val (.int p3), .val (.int p4), .val (.long v1), .second, .val (.long v2), .second, .val (.long v3), .second, .val (.long v4), .second, .val (.long lo), .second, .val (.long hi), .second, .val (.long plo), .second, .val (.long phi), .second, .val (.long v6), .second, .val (.long dr), .second, .val (.long v8), .second, .val (.long v9), .second, .val (.long v10), .second, .unset, .unset, .unset, .unset, .unset, .unset, .unset, .unset, .unset] [(.long v11)])) S.here B.x rfl (B.d at_183) rfl (l' := #[.val (.long q0), .second, .val (.long q1), .second, .val (.long q2), .second, .val (.int p3), .val (.int p4), .val (.long v1), .second, .val (.long v2), .second, .val (.long v3), .second, .val (.long v4), .second, .val (.long lo), .second, .val (.long hi), .second, .val (.long plo), .second, .val (.long phi), .second, .val (.long v6), .second, .val (.long dr), .second, .val (.long v8), .second, .val (.long v9), .second, .val (.long v10), .second, .val (.long v11), .second, .unset, .unset, .unset, .unset, .unset, .unset, .unset]) rfl) ?_
        show Goes _ _ _ _ T (mkF me_ 185 #[.val (.long q0), .second, .val (.long q1), .second, .val (.long q2), .second, .val (.int p3), .val (.int p4), .val (.long v1), .second, .val (.long v2), .second, .val (.long v3), .second, .val (.long v4), .second, .val (.long lo), .second, .val (.long hi), .second, .val (.long plo), .second, .val (.long phi), .second, .val (.long v6), .second, .val (.long dr), .second, .val (.long v8), .second, .val (.long v9), .second, .val (.long v10), .second, .val (.long v11), .second, .unset, .unset, .unset, .unset, .unset, .unset, .unset] [])
        refine Goes.newO S B (w5 hw) (w6 hw) (w7 hw) at_185 (by decide) (by decide) ?_
        intro T h b12 S X zb g_b12 E_b12 D
        have F_b12_instants : Fld Z h b12 "com/example/bucket_brigade/bucketbrigade/PermitLog" "instants" "[J" .null := D (Or.inl (w16 hw)) (ty := (.array .long)) (by decide)
        have F_b12_lastNumbers : Fld Z h b12 "com/example/bucket_brigade/bucketbrigade/PermitLog" "lastNumbers" "[J" .null := D (Or.inl (w18 hw)) (ty := (.array .long)) (by decide)
        have F_b12_completeFrom : Fld Z h b12 "com/example/bucket_brigade/bucketbrigade/PermitLog" "completeFrom" "J" (.long (0 : Int64)) := D (Or.inr (w20 hw)) (ty := .long) (by decide)
        have F_b12_size : Fld Z h b12 "com/example/bucket_brigade/bucketbrigade/PermitLog" "size" "I" (.int (0 : Int32)) := D (Or.inl (w31 hw)) (ty := .int) (by decide)
        have F_b12_dropped : Fld Z h b12 "com/example/bucket_brigade/bucketbrigade/PermitLog" "dropped" "J" (.long (0 : Int64)) := D (Or.inl (w37 hw)) (ty := .long) (by decide)
        have F_b12_first : Fld Z h b12 "com/example/bucket_brigade/bucketbrigade/PermitLog" "first" "I" (.int (0 : Int32)) := D (Or.inl (w47 hw)) (ty := .int) (by decide)
        show Goes _ _ _ _ T (mkF me_ 188 #[.val (.long q0), .second, .val (.long q1), .second, .val (.long q2), .second, .val (.int p3), .val (.int p4), .val (.long v1), .second, .val (.long v2), .second, .val (.long v3), .second, .val (.long v4), .second, .val (.long lo), .second, .val (.long hi), .second, .val (.long plo), .second, .val (.long phi), .second, .val (.long v6), .second, .val (.long dr), .second, .val (.long v8), .second, .val (.long v9), .second, .val (.long v10), .second, .val (.long v11), .second, .unset, .unset, .unset, .unset, .unset, .unset, .unset] [(.ref b12)])
        refine Goes.go (fun _ => XS.dup S.here B.x rfl (B.d at_188) rfl rfl) ?_
        show Goes _ _ _ _ T (mkF me_ 189 #[.val (.long q0), .second, .val (.long q1), .second, .val (.long q2), .second, .val (.int p3), .val (.int p4), .val (.long v1), .second, .val (.long v2), .second, .val (.long v3), .second, .val (.long v4), .second, .val (.long lo), .second, .val (.long hi), .second, .val (.long plo), .second, .val (.long phi), .second, .val (.long v6), .second, .val (.long dr), .second, .val (.long v8), .second, .val (.long v9), .second, .val (.long v10), .second, .val (.long v11), .second, .unset, .unset, .unset, .unset, .unset, .unset, .unset] [(.ref b12), (.ref b12)])
        refine Goes.go (fun _ => XS.lconst S.here B.x rfl (B.d at_189)) ?_
        show Goes _ _ _ _ T (mkF me_ 190 #[.val (.long q0), .second, .val (.long q1), .second, .val (.long q2), .second, .val (.int p3), .val (.int p4), .val (.long v1), .second, .val (.long v2), .second, .val (.long v3), .second, .val (.long v4), .second, .val (.long lo), .second, .val (.long hi), .second, .val (.long plo), .second, .val (.long phi), .second, .val (.long v6), .second, .val (.long dr), .second, .val (.long v8), .second, .val (.long v9), .second, .val (.long v10), .second, .val (.long v11), .second, .unset, .unset, .unset, .unset, .unset, .unset, .unset] [(.long (0 : Int64)), (.ref b12), (.ref b12)])
        have zle := S.le
        refine Goes.callI (argsL := [(.long (0 : Int64))]) (rest := [(.ref b12)]) (W := 1) S B (rmI l Z aw hw b12 (0 : Int64) _ n0 E_b12 F_b12_instants F_b12_lastNumbers F_b12_first F_b12_size F_b12_dropped F_b12_completeFrom g_b12) (w8 hw) (w9 hw) (w7 hw) (w10 hw) (by decide) rfl (by decide) (by decide) (by decide) (by decide) rfl (lenOf pd_7 rfl) rfl (Nat.le_of_eq rfl) at_190 ?_
        intro v T h S hQ
        obtain ⟨b13, b14, rfl, zb_b13, zb_b14, ne_b13__b14, Kc, E_b12', F_b12_instants', F_b12_lastNumbers', F_b12_first', F_b12_size', F_b12_dropped', A_b13', A_b14'⟩ := hQ
        have ne_b12__b13 : b12 ≠ b13 := Nat.ne_of_lt (Nat.lt_of_lt_of_le E_b12.lt zb_b13)
        have g_b13 : n0 ≤ b13 := Nat.le_trans zle zb_b13
        have ne_b12__b14 : b12 ≠ b14 := Nat.ne_of_lt (Nat.lt_of_lt_of_le E_b12.lt zb_b14)
        have g_b14 : n0 ≤ b14 := Nat.le_trans zle zb_b14
        replace E_b12 := E_b12'
        replace F_b12_instants := F_b12_instants'
        replace F_b12_lastNumbers := F_b12_lastNumbers'
        replace F_b12_first := F_b12_first'
        replace F_b12_size := F_b12_size'
        replace F_b12_dropped := F_b12_dropped'
        have A_b13 := A_b13'
        have A_b14 := A_b14'
        show Goes _ _ _ _ T (mkF me_ 193 #[.val (.long q0), .second, .val (.long q1), .second, .val (.long q2), .second, .val (.int p3), .val (.int p4), .val (.long v1), .second, .val (.long v2), .second, .val (.long v3), .second, .val (.long v4), .second, .val (.long lo), .second, .val (.long hi), .second, .val (.long plo), .second, .val (.long phi), .second, .val (.long v6), .second, .val (.long dr), .second, .val (.long v8), .second, .val (.long v9), .second, .val (.long v10), .second, .val (.long v11), .second, .unset, .unset, .unset, .unset, .unset, .unset, .unset] [(.ref b12)])
        refine Goes.go (fun _ => XS.astore (g := (mkF me_ 193 #[.val (.long q0), .second, .val (.long q1), .second, .val (.long q2), .second, .val (.int p3), .val (.int p4), .val (.long v1), .second, .val (.long v2), .second, .val (.long v3), .second, .val (.long v4), .second, .val (.long lo), .second, .val (.long hi), .second, .val (.long plo), .second, .val (.long phi), .second, .val (.long v6), .second, .val (.long dr), .second, .val (.long v8), .second, .val (.long v9), .second, .val (.long v10), .second, .val (.long v11), .second, .unset, .unset, .unset, .unset, .unset, .unset, .unset] [(.ref b12)])) S.here B.x rfl (B.d at_193) rfl rfl (l' := #[.val (.long q0), .second, .val (.long q1), .second, .val (.long q2), .second, .val (.int p3), .val (.int p4), .val (.long v1), .second, .val (.long v2), .second, .val (.long v3), .second, .val (.long v4), .second, .val (.long lo), .second, .val (.long hi), .second, .val (.long plo), .second, .val (.long phi), .second, .val (.long v6), .second, .val (.long dr), .second, .val (.long v8), .second, .val (.long v9), .second, .val (.long v10), .second, .val (.long v11), .second, .val (.ref b12), .unset, .unset, .unset, .unset, .unset, .unset]) rfl) ?_
        show Goes _ _ _ _ T (mkF me_ 195 #[.val (.long q0), .second, .val (.long q1), .second, .val (.long q2), .second, .val (.int p3), .val (.int p4), .val (.long v1), .second, .val (.long v2), .second, .val (.long v3), .second, .val (.long v4), .second, .val (.long lo), .second, .val (.long hi), .second, .val (.long plo), .second, .val (.long phi), .second, .val (.long v6), .second, .val (.long dr), .second, .val (.long v8), .second, .val (.long v9), .second, .val (.long v10), .second, .val (.long v11), .second, .val (.ref b12), .unset, .unset, .unset, .unset, .unset, .unset] [])
        refine Goes.go (fun _ => XS.aload S.here B.x rfl (B.d at_195) rfl rfl) ?_
        show Goes _ _ _ _ T (mkF me_ 197 #[.val (.long q0), .second, .val (.long q1), .second, .val (.long q2), .second, .val (.int p3), .val (.int p4), .val (.long v1), .second, .val (.long v2), .second, .val (.long v3), .second, .val (.long v4), .second, .val (.long lo), .second, .val (.long hi), .second, .val (.long plo), .second, .val (.long phi), .second, .val (.long v6), .second, .val (.long dr), .second, .val (.long v8), .second, .val (.long v9), .second, .val (.long v10), .second, .val (.long v11), .second, .val (.ref b12), .unset, .unset, .unset, .unset, .unset, .unset] [(.ref b12)])
        refine Goes.go (fun _ => XS.lloadN S.here B.x rfl (B.d at_197) rfl) ?_
        show Goes _ _ _ _ T (mkF me_ 198 #[.val (.long q0), .second, .val (.long q1), .second, .val (.long q2), .second, .val (.int p3), .val (.int p4), .val (.long v1), .second, .val (.long v2), .second, .val (.long v3), .second, .val (.long v4), .second, .val (.long lo), .second, .val (.long hi), .second, .val (.long plo), .second, .val (.long phi), .second, .val (.long v6), .second, .val (.long dr), .second, .val (.long v8), .second, .val (.long v9), .second, .val (.long v10), .second, .val (.long v11), .second, .val (.ref b12), .unset, .unset, .unset, .unset, .unset, .unset] [(.long q0), (.ref b12)])
        refine Goes.go (fun _ => XS.lload S.here B.x rfl (B.d at_198) rfl) ?_
        show Goes _ _ _ _ T (mkF me_ 200 #[.val (.long q0), .second, .val (.long q1), .second, .val (.long q2), .second, .val (.int p3), .val (.int p4), .val (.long v1), .second, .val (.long v2), .second, .val (.long v3), .second, .val (.long v4), .second, .val (.long lo), .second, .val (.long hi), .second, .val (.long plo), .second, .val (.long phi), .second, .val (.long v6), .second, .val (.long dr), .second, .val (.long v8), .second, .val (.long v9), .second, .val (.long v10), .second, .val (.long v11), .second, .val (.ref b12), .unset, .unset, .unset, .unset, .unset, .unset] [(.long v1), (.long q0), (.ref b12)])
        refine Goes.callV (argsL := [(.long q0), (.long v1)]) (rest := []) (W := 0) S B (rm_add l Z aw hw b12 q0 v1 b13 b14 (fun _ => 0) (fun _ => 0) (0 : Int32) (0 : Int32) (0 : Int64) ([] : List Int64) ([] : List Int64) _ n0 E_b12 F_b12_instants F_b12_lastNumbers F_b12_first F_b12_size F_b12_dropped A_b13 A_b14 g_b12 g_b13 g_b14 ne_b12__b13 ne_b12__b14 ne_b13__b14 own_Q0 own_Q0 own_e0 rfl (by decide) List.Pairwise.nil) E_b12 (w21 hw) (w22 hw) (w24 hw) (w23 hw) (w7 hw) (w25 hw) (by decide) (by decide) (by decide) (by decide) (by decide) rfl (lenOf pd_8 rfl) rfl (Nat.le_of_eq rfl) at_200 ?_
        intro v T h S hQ
        obtain ⟨u15, u16, u17, rfl, Kc, E_b12', F_b12_instants', F_b12_lastNumbers', F_b12_first', F_b12_size', F_b12_dropped', A_b13', A_b14', hQ2_200, hN2_200, hs2_200⟩ := hQ
        replace E_b12 := E_b12'
        replace F_b12_instants := F_b12_instants'
        replace F_b12_lastNumbers := F_b12_lastNumbers'
        replace F_b12_first := F_b12_first'
        replace F_b12_size := F_b12_size'
        replace F_b12_dropped := F_b12_dropped'
        replace A_b13 := A_b13'
        replace A_b14 := A_b14'
        show Goes _ _ _ _ T (mkF me_ 203 #[.val (.long q0), .second, .val (.long q1), .second, .val (.long q2), .second, .val (.int p3), .val (.int p4), .val (.long v1), .second, .val (.long v2), .second, .val (.long v3), .second, .val (.long v4), .second, .val (.long lo), .second, .val (.long hi), .second, .val (.long plo), .second, .val (.long phi), .second, .val (.long v6), .second, .val (.long dr), .second, .val (.long v8), .second, .val (.long v9), .second, .val (.long v10), .second, .val (.long v11), .second, .val (.ref b12), .unset, .unset, .unset, .unset, .unset, .unset] [])
        rw [own_ti0] at hQ2_200 hs2_200
        rw [own_ni0] at hN2_200
        have hb1 := own_mk7 _ hv1
        have hb2 := own_mk7 _ hv2
        have hb3 := own_mk7 _ hv3
        have hb4 := own_mk15 _ hv4
        refine Goes.go (fun _ => XS.aload S.here B.x rfl (B.d at_203) rfl rfl) ?_
        show Goes _ _ _ _ T (mkF me_ 205 #[.val (.long q0), .second, .val (.long q1), .second, .val (.long q2), .second, .val (.int p3), .val (.int p4), .val (.long v1), .second, .val (.long v2), .second, .val (.long v3), .second, .val (.long v4), .second, .val (.long lo), .second, .val (.long hi), .second, .val (.long plo), .second, .val (.long phi), .second, .val (.long v6), .second, .val (.long dr), .second, .val (.long v8), .second, .val (.long v9), .second, .val (.long v10), .second, .val (.long v11), .second, .val (.ref b12), .unset, .unset, .unset, .unset, .unset, .unset] [(.ref b12)])
        refine Goes.go (fun _ => XS.lloadN S.here B.x rfl (B.d at_205) rfl) ?_
        show Goes _ _ _ _ T (mkF me_ 206 #[.val (.long q0), .second, .val (.long q1), .second, .val (.long q2), .second, .val (.int p3), .val (.int p4), .val (.long v1), .second, .val (.long v2), .second, .val (.long v3), .second, .val (.long v4), .second, .val (.long lo), .second, .val (.long hi), .second, .val (.long plo), .second, .val (.long phi), .second, .val (.long v6), .second, .val (.long dr), .second, .val (.long v8), .second, .val (.long v9), .second, .val (.long v10), .second, .val (.long v11), .second, .val (.ref b12), .unset, .unset, .unset, .unset, .unset, .unset] [(.long q1), (.ref b12)])
        refine Goes.go (fun _ => XS.lload S.here B.x rfl (B.d at_206) rfl) ?_
        show Goes _ _ _ _ T (mkF me_ 208 #[.val (.long q0), .second, .val (.long q1), .second, .val (.long q2), .second, .val (.int p3), .val (.int p4), .val (.long v1), .second, .val (.long v2), .second, .val (.long v3), .second, .val (.long v4), .second, .val (.long lo), .second, .val (.long hi), .second, .val (.long plo), .second, .val (.long phi), .second, .val (.long v6), .second, .val (.long dr), .second, .val (.long v8), .second, .val (.long v9), .second, .val (.long v10), .second, .val (.long v11), .second, .val (.ref b12), .unset, .unset, .unset, .unset, .unset, .unset] [(.long v2), (.long q1), (.ref b12)])
        refine Goes.callV (argsL := [(.long q1), (.long v2)]) (rest := []) (W := 0) S B (rm_add l Z aw hw b12 q1 v2 b13 b14 u15 u16 (0 : Int32) u17 (0 : Int64) [q0] [((0 : Int64) + v1)] _ n0 E_b12 F_b12_instants F_b12_lastNumbers F_b12_first F_b12_size F_b12_dropped A_b13 A_b14 g_b12 g_b13 g_b14 ne_b12__b13 ne_b12__b14 ne_b13__b14 hQ2_200 hN2_200 hs2_200 rfl (by simp) (List.pairwise_singleton _ _)) E_b12 (w21 hw) (w22 hw) (w24 hw) (w23 hw) (w7 hw) (w25 hw) (by decide) (by decide) (by decide) (by decide) (by decide) rfl (lenOf pd_8 rfl) rfl (Nat.le_of_eq rfl) at_208 ?_
        intro v T h S hQ
        obtain ⟨u18, u19, u20, rfl, Kc, E_b12', F_b12_instants', F_b12_lastNumbers', F_b12_first', F_b12_size', F_b12_dropped', A_b13', A_b14', hQ2_208, hN2_208, hs2_208⟩ := hQ
        replace E_b12 := E_b12'
        replace F_b12_instants := F_b12_instants'
        replace F_b12_lastNumbers := F_b12_lastNumbers'
        replace F_b12_first := F_b12_first'
        replace F_b12_size := F_b12_size'
        replace F_b12_dropped := F_b12_dropped'
        replace A_b13 := A_b13'
        replace A_b14 := A_b14'
        show Goes _ _ _ _ T (mkF me_ 211 #[.val (.long q0), .second, .val (.long q1), .second, .val (.long q2), .second, .val (.int p3), .val (.int p4), .val (.long v1), .second, .val (.long v2), .second, .val (.long v3), .second, .val (.long v4), .second, .val (.long lo), .second, .val (.long hi), .second, .val (.long plo), .second, .val (.long phi), .second, .val (.long v6), .second, .val (.long dr), .second, .val (.long v8), .second, .val (.long v9), .second, .val (.long v10), .second, .val (.long v11), .second, .val (.ref b12), .unset, .unset, .unset, .unset, .unset, .unset] [])
        obtain ⟨ts2, ns2, et2, en2, hZ2⟩ := own_208 hb1 hb2 hH
        have hHb := own_Hb hb1 hb2 hH
        rw [et2] at hQ2_208 hs2_208
        rw [en2] at hN2_208
        obtain ⟨hM2, hll2, htt2⟩ := own_Zm hZ2 (by omega)
        refine Goes.go (fun _ => XS.aload S.here B.x rfl (B.d at_211) rfl rfl) ?_
        show Goes _ _ _ _ T (mkF me_ 213 #[.val (.long q0), .second, .val (.long q1), .second, .val (.long q2), .second, .val (.int p3), .val (.int p4), .val (.long v1), .second, .val (.long v2), .second, .val (.long v3), .second, .val (.long v4), .second, .val (.long lo), .second, .val (.long hi), .second, .val (.long plo), .second, .val (.long phi), .second, .val (.long v6), .second, .val (.long dr), .second, .val (.long v8), .second, .val (.long v9), .second, .val (.long v10), .second, .val (.long v11), .second, .val (.ref b12), .unset, .unset, .unset, .unset, .unset, .unset] [(.ref b12)])
        refine Goes.go (fun _ => XS.lload S.here B.x rfl (B.d at_213) rfl) ?_
        show Goes _ _ _ _ T (mkF me_ 215 #[.val (.long q0), .second, .val (.long q1), .second, .val (.long q2), .second, .val (.int p3), .val (.int p4), .val (.long v1), .second, .val (.long v2), .second, .val (.long v3), .second, .val (.long v4), .second, .val (.long lo), .second, .val (.long hi), .second, .val (.long plo), .second, .val (.long phi), .second, .val (.long v6), .second, .val (.long dr), .second, .val (.long v8), .second, .val (.long v9), .second, .val (.long v10), .second, .val (.long v11), .second, .val (.ref b12), .unset, .unset, .unset, .unset, .unset, .unset] [(.long v4), (.ref b12)])
        refine Goes.callV (argsL := [(.long v4)]) (rest := []) (W := 0) S B (rm_keep l Z aw hw b12 v4 b13 b14 u18 u19 (0 : Int32) u20 (0 : Int64) ts2 ns2 _ n0 E_b12 F_b12_instants F_b12_lastNumbers F_b12_first F_b12_size F_b12_dropped A_b13 A_b14 g_b12 ne_b12__b13 ne_b12__b14 ne_b13__b14 hQ2_208 hN2_208 hs2_208 hll2 hM2 hb4.1) E_b12 (w52 hw) (w53 hw) (w55 hw) (w54 hw) (w7 hw) (w56 hw) (by decide) (by decide) (by decide) (by decide) (by decide) rfl (lenOf pd_7 rfl) rfl (Nat.le_of_eq rfl) at_215 ?_
        intro v T h S hQ
        obtain ⟨u21, u22, u23, u24, u25, rfl, Kc, E_b12', F_b12_instants', F_b12_lastNumbers', F_b12_first', F_b12_size', F_b12_dropped', A_b13', A_b14', hr_215, hQ2_215, hN2_215, hs2_215, hl2_215, hM2_215⟩ := hQ
        replace E_b12 := E_b12'
        replace F_b12_instants := F_b12_instants'
        replace F_b12_lastNumbers := F_b12_lastNumbers'
        replace F_b12_first := F_b12_first'
        replace F_b12_size := F_b12_size'
        replace F_b12_dropped := F_b12_dropped'
        replace A_b13 := A_b13'
        replace A_b14 := A_b14'
        show Goes _ _ _ _ T (mkF me_ 218 #[.val (.long q0), .second, .val (.long q1), .second, .val (.long q2), .second, .val (.int p3), .val (.int p4), .val (.long v1), .second, .val (.long v2), .second, .val (.long v3), .second, .val (.long v4), .second, .val (.long lo), .second, .val (.long hi), .second, .val (.long plo), .second, .val (.long phi), .second, .val (.long v6), .second, .val (.long dr), .second, .val (.long v8), .second, .val (.long v9), .second, .val (.long v10), .second, .val (.long v11), .second, .val (.ref b12), .unset, .unset, .unset, .unset, .unset, .unset] [])
        obtain ⟨hY, hd3, hq1, hq2⟩ := own_215 hZ2 hHb hb4 hv6 hdr hv8 hv9 hr_215
        have hhv := own_hhv hq1 hq2 hb3 hv10
        have hkb := own_K (by omega) hc167 hv11
        obtain ⟨hY1, hY2, hY3⟩ := own_Yl hY
        refine Goes.go (fun _ => XS.aload S.here B.x rfl (B.d at_218) rfl rfl) ?_
        show Goes _ _ _ _ T (mkF me_ 220 #[.val (.long q0), .second, .val (.long q1), .second, .val (.long q2), .second, .val (.int p3), .val (.int p4), .val (.long v1), .second, .val (.long v2), .second, .val (.long v3), .second, .val (.long v4), .second, .val (.long lo), .second, .val (.long hi), .second, .val (.long plo), .second, .val (.long phi), .second, .val (.long v6), .second, .val (.long dr), .second, .val (.long v8), .second, .val (.long v9), .second, .val (.long v10), .second, .val (.long v11), .second, .val (.ref b12), .unset, .unset, .unset, .unset, .unset, .unset] [(.ref b12)])
        refine Goes.go (fun _ => XS.lload S.here B.x rfl (B.d at_220) rfl) ?_
        show Goes _ _ _ _ T (mkF me_ 222 #[.val (.long q0), .second, .val (.long q1), .second, .val (.long q2), .second, .val (.int p3), .val (.int p4), .val (.long v1), .second, .val (.long v2), .second, .val (.long v3), .second, .val (.long v4), .second, .val (.long lo), .second, .val (.long hi), .second, .val (.long plo), .second, .val (.long phi), .second, .val (.long v6), .second, .val (.long dr), .second, .val (.long v8), .second, .val (.long v9), .second, .val (.long v10), .second, .val (.long v11), .second, .val (.ref b12), .unset, .unset, .unset, .unset, .unset, .unset] [(.long q2), (.ref b12)])
        refine Goes.go (fun _ => XS.lload S.here B.x rfl (B.d at_222) rfl) ?_
        show Goes _ _ _ _ T (mkF me_ 224 #[.val (.long q0), .second, .val (.long q1), .second, .val (.long q2), .second, .val (.int p3), .val (.int p4), .val (.long v1), .second, .val (.long v2), .second, .val (.long v3), .second, .val (.long v4), .second, .val (.long lo), .second, .val (.long hi), .second, .val (.long plo), .second, .val (.long phi), .second, .val (.long v6), .second, .val (.long dr), .second, .val (.long v8), .second, .val (.long v9), .second, .val (.long v10), .second, .val (.long v11), .second, .val (.ref b12), .unset, .unset, .unset, .unset, .unset, .unset] [(.long v3), (.long q2), (.ref b12)])
        refine Goes.callV (argsL := [(.long q2), (.long v3)]) (rest := []) (W := 0) S B (rm_add l Z aw hw b12 q2 v3 b13 b14 u18 u19 u21 u22 u23 u24 u25 _ n0 E_b12 F_b12_instants F_b12_lastNumbers F_b12_first F_b12_size F_b12_dropped A_b13 A_b14 g_b12 g_b13 g_b14 ne_b12__b13 ne_b12__b14 ne_b13__b14 hQ2_215 hN2_215 hs2_215 hl2_215 hY1 hY2) E_b12 (w21 hw) (w22 hw) (w24 hw) (w23 hw) (w7 hw) (w25 hw) (by decide) (by decide) (by decide) (by decide) (by decide) rfl (lenOf pd_8 rfl) rfl (Nat.le_of_eq rfl) at_224 ?_
        intro v T h S hQ
        obtain ⟨u26, u27, u28, rfl, Kc, E_b12', F_b12_instants', F_b12_lastNumbers', F_b12_first', F_b12_size', F_b12_dropped', A_b13', A_b14', hQ2_224, hN2_224, hs2_224⟩ := hQ
        replace E_b12 := E_b12'
        replace F_b12_instants := F_b12_instants'
        replace F_b12_lastNumbers := F_b12_lastNumbers'
        replace F_b12_first := F_b12_first'
        replace F_b12_size := F_b12_size'
        replace F_b12_dropped := F_b12_dropped'
        replace A_b13 := A_b13'
        replace A_b14 := A_b14'
        show Goes _ _ _ _ T (mkF me_ 227 #[.val (.long q0), .second, .val (.long q1), .second, .val (.long q2), .second, .val (.int p3), .val (.int p4), .val (.long v1), .second, .val (.long v2), .second, .val (.long v3), .second, .val (.long v4), .second, .val (.long lo), .second, .val (.long hi), .second, .val (.long plo), .second, .val (.long phi), .second, .val (.long v6), .second, .val (.long dr), .second, .val (.long v8), .second, .val (.long v9), .second, .val (.long v10), .second, .val (.long v11), .second, .val (.ref b12), .unset, .unset, .unset, .unset, .unset, .unset] [])
        obtain ⟨ts4, ns4, et4, en4, hP4⟩ := own_224 (c := q2) hY hd3 hq1 hq2 hb3
        rw [et4] at hQ2_224 hs2_224
        rw [en4] at hN2_224
        have hsn := own_sn hs2_224 (own_Plen hP4)
        obtain ⟨tr, ht4, hp4, hg4, hh4⟩ := own_231 hP4 hN2_224 hsn (by omega) (k := v11) (by omega)
        refine Goes.go (fun _ => XS.aload S.here B.x rfl (B.d at_227) rfl rfl) ?_
        show Goes _ _ _ _ T (mkF me_ 229 #[.val (.long q0), .second, .val (.long q1), .second, .val (.long q2), .second, .val (.int p3), .val (.int p4), .val (.long v1), .second, .val (.long v2), .second, .val (.long v3), .second, .val (.long v4), .second, .val (.long lo), .second, .val (.long hi), .second, .val (.long plo), .second, .val (.long phi), .second, .val (.long v6), .second, .val (.long dr), .second, .val (.long v8), .second, .val (.long v9), .second, .val (.long v10), .second, .val (.long v11), .second, .val (.ref b12), .unset, .unset, .unset, .unset, .unset, .unset] [(.ref b12)])
        refine Goes.go (fun _ => XS.lload S.here B.x rfl (B.d at_229) rfl) ?_
        show Goes _ _ _ _ T (mkF me_ 231 #[.val (.long q0), .second, .val (.long q1), .second, .val (.long q2), .second, .val (.int p3), .val (.int p4), .val (.long v1), .second, .val (.long v2), .second, .val (.long v3), .second, .val (.long v4), .second, .val (.long lo), .second, .val (.long hi), .second, .val (.long plo), .second, .val (.long phi), .second, .val (.long v6), .second, .val (.long dr), .second, .val (.long v8), .second, .val (.long v9), .second, .val (.long v10), .second, .val (.long v11), .second, .val (.ref b12), .unset, .unset, .unset, .unset, .unset, .unset] [(.long v11), (.ref b12)])
        refine Goes.callV (argsL := [(.long v11)]) (rest := []) (W := 0) S B (rm_newest l Z aw hw b12 v11 b13 b14 u26 u27 u21 u28 ns4 _ n0 E_b12 F_b12_instants F_b12_lastNumbers F_b12_first F_b12_size A_b13 A_b14 hN2_224 hsn (own_Pge hP4).2.1 hp4) E_b12 (w70 hw) (w71 hw) (w73 hw) (w72 hw) (w7 hw) (w74 hw) (by decide) (by decide) (by decide) (by decide) (by decide) rfl (lenOf pd_9 rfl) rfl (Nat.le_of_eq rfl) at_231 ?_
        intro v T h S hQ
        obtain ⟨rfl, hh⟩ := hQ
        replace hh := hh.symm
        subst hh
        show Goes _ _ _ _ T (mkF me_ 234 #[.val (.long q0), .second, .val (.long q1), .second, .val (.long q2), .second, .val (.int p3), .val (.int p4), .val (.long v1), .second, .val (.long v2), .second, .val (.long v3), .second, .val (.long v4), .second, .val (.long lo), .second, .val (.long hi), .second, .val (.long plo), .second, .val (.long phi), .second, .val (.long v6), .second, .val (.long dr), .second, .val (.long v8), .second, .val (.long v9), .second, .val (.long v10), .second, .val (.long v11), .second, .val (.ref b12), .unset, .unset, .unset, .unset, .unset, .unset] [(.long (u26 ((u21 + (Int32.ofNat (own_pos ns4 (((u27 ((u21 + (u28 - (1 : Int32))) &&& (3 : Int32)).toNatClampNeg) - v11) + (1 : Int64))))) &&& (3 : Int32)).toNatClampNeg))])
        rw [show (u26 ((u21 + (Int32.ofNat (own_pos ns4 (((u27 ((u21 + (u28 - (1 : Int32))) &&& (3 : Int32)).toNatClampNeg) - v11) + (1 : Int64))))) &&& (3 : Int32)).toNatClampNeg) = tr from own_get hQ2_224 (own_o8 hN2_224 hp4) ht4]
        show Goes _ _ _ _ T (mkF me_ 234 #[.val (.long q0), .second, .val (.long q1), .second, .val (.long q2), .second, .val (.int p3), .val (.int p4), .val (.long v1), .second, .val (.long v2), .second, .val (.long v3), .second, .val (.long v4), .second, .val (.long lo), .second, .val (.long hi), .second, .val (.long plo), .second, .val (.long phi), .second, .val (.long v6), .second, .val (.long dr), .second, .val (.long v8), .second, .val (.long v9), .second, .val (.long v10), .second, .val (.long v11), .second, .val (.ref b12), .unset, .unset, .unset, .unset, .unset, .unset] [(.long tr)])
        refine Goes.go (fun _ => XS.lstore (g := (mkF me_ 234 #[.val (.long q0), .second, .val (.long q1), .second, .val (.long q2), .second, .val (.int p3), .val (.int p4), .val (.long v1), .second, .val (.long v2), .second, .val (.long v3), .second, .val (.long v4), .second, .val (.long lo), .second, .val (.long hi), .second, .val (.long plo), .second, .val (.long phi), .second, .val (.long v6), .second, .val (.long dr), .second, .val (.long v8), .second, .val (.long v9), .second, .val (.long v10), .second, .val (.long v11), .second, .val (.ref b12), .unset, .unset, .unset, .unset, .unset, .unset] [(.long tr)])) S.here B.x rfl (B.d at_234) rfl (l' := #[.val (.long q0), .second, .val (.long q1), .second, .val (.long q2), .second, .val (.int p3), .val (.int p4), .val (.long v1), .second, .val (.long v2), .second, .val (.long v3), .second, .val (.long v4), .second, .val (.long lo), .second, .val (.long hi), .second, .val (.long plo), .second, .val (.long phi), .second, .val (.long v6), .second, .val (.long dr), .second, .val (.long v8), .second, .val (.long v9), .second, .val (.long v10), .second, .val (.long v11), .second, .val (.ref b12), .val (.long tr), .second, .unset, .unset, .unset, .unset]) rfl) ?_
        show Goes _ _ _ _ T (mkF me_ 236 #[.val (.long q0), .second, .val (.long q1), .second, .val (.long q2), .second, .val (.int p3), .val (.int p4), .val (.long v1), .second, .val (.long v2), .second, .val (.long v3), .second, .val (.long v4), .second, .val (.long lo), .second, .val (.long hi), .second, .val (.long plo), .second, .val (.long phi), .second, .val (.long v6), .second, .val (.long dr), .second, .val (.long v8), .second, .val (.long v9), .second, .val (.long v10), .second, .val (.long v11), .second, .val (.ref b12), .val (.long tr), .second, .unset, .unset, .unset, .unset] [])
        refine Goes.go (fun _ => XS.lload S.here B.x rfl (B.d at_236) rfl) ?_
        show Goes _ _ _ _ T (mkF me_ 238 #[.val (.long q0), .second, .val (.long q1), .second, .val (.long q2), .second, .val (.int p3), .val (.int p4), .val (.long v1), .second, .val (.long v2), .second, .val (.long v3), .second, .val (.long v4), .second, .val (.long lo), .second, .val (.long hi), .second, .val (.long plo), .second, .val (.long phi), .second, .val (.long v6), .second, .val (.long dr), .second, .val (.long v8), .second, .val (.long v9), .second, .val (.long v10), .second, .val (.long v11), .second, .val (.ref b12), .val (.long tr), .second, .unset, .unset, .unset, .unset] [(.long tr)])
        refine Goes.go (fun _ => XS.lload S.here B.x rfl (B.d at_238) rfl) ?_
        show Goes _ _ _ _ T (mkF me_ 240 #[.val (.long q0), .second, .val (.long q1), .second, .val (.long q2), .second, .val (.int p3), .val (.int p4), .val (.long v1), .second, .val (.long v2), .second, .val (.long v3), .second, .val (.long v4), .second, .val (.long lo), .second, .val (.long hi), .second, .val (.long plo), .second, .val (.long phi), .second, .val (.long v6), .second, .val (.long dr), .second, .val (.long v8), .second, .val (.long v9), .second, .val (.long v10), .second, .val (.long v11), .second, .val (.ref b12), .val (.long tr), .second, .unset, .unset, .unset, .unset] [(.long lo), (.long tr)])
        refine Goes.go (fun _ => XS.lload S.here B.x rfl (B.d at_240) rfl) ?_
        show Goes _ _ _ _ T (mkF me_ 242 #[.val (.long q0), .second, .val (.long q1), .second, .val (.long q2), .second, .val (.int p3), .val (.int p4), .val (.long v1), .second, .val (.long v2), .second, .val (.long v3), .second, .val (.long v4), .second, .val (.long lo), .second, .val (.long hi), .second, .val (.long plo), .second, .val (.long phi), .second, .val (.long v6), .second, .val (.long dr), .second, .val (.long v8), .second, .val (.long v9), .second, .val (.long v10), .second, .val (.long v11), .second, .val (.ref b12), .val (.long tr), .second, .unset, .unset, .unset, .unset] [(.long v8), (.long lo), (.long tr)])
        refine Goes.go (fun _ => XS.lload S.here B.x rfl (B.d at_242) rfl) ?_
        show Goes _ _ _ _ T (mkF me_ 244 #[.val (.long q0), .second, .val (.long q1), .second, .val (.long q2), .second, .val (.int p3), .val (.int p4), .val (.long v1), .second, .val (.long v2), .second, .val (.long v3), .second, .val (.long v4), .second, .val (.long lo), .second, .val (.long hi), .second, .val (.long plo), .second, .val (.long phi), .second, .val (.long v6), .second, .val (.long dr), .second, .val (.long v8), .second, .val (.long v9), .second, .val (.long v10), .second, .val (.long v11), .second, .val (.ref b12), .val (.long tr), .second, .unset, .unset, .unset, .unset] [(.long hi), (.long v8), (.long lo), (.long tr)])
        refine Goes.go (fun _ => XS.lload S.here B.x rfl (B.d at_244) rfl) ?_
        show Goes _ _ _ _ T (mkF me_ 246 #[.val (.long q0), .second, .val (.long q1), .second, .val (.long q2), .second, .val (.int p3), .val (.int p4), .val (.long v1), .second, .val (.long v2), .second, .val (.long v3), .second, .val (.long v4), .second, .val (.long lo), .second, .val (.long hi), .second, .val (.long plo), .second, .val (.long phi), .second, .val (.long v6), .second, .val (.long dr), .second, .val (.long v8), .second, .val (.long v9), .second, .val (.long v10), .second, .val (.long v11), .second, .val (.ref b12), .val (.long tr), .second, .unset, .unset, .unset, .unset] [(.long v9), (.long hi), (.long v8), (.long lo), (.long tr)])
        refine Goes.go (fun _ => XS.lload S.here B.x rfl (B.d at_246) rfl) ?_
        show Goes _ _ _ _ T (mkF me_ 248 #[.val (.long q0), .second, .val (.long q1), .second, .val (.long q2), .second, .val (.int p3), .val (.int p4), .val (.long v1), .second, .val (.long v2), .second, .val (.long v3), .second, .val (.long v4), .second, .val (.long lo), .second, .val (.long hi), .second, .val (.long plo), .second, .val (.long phi), .second, .val (.long v6), .second, .val (.long dr), .second, .val (.long v8), .second, .val (.long v9), .second, .val (.long v10), .second, .val (.long v11), .second, .val (.ref b12), .val (.long tr), .second, .unset, .unset, .unset, .unset] [(.long q2), (.long v9), (.long hi), (.long v8), (.long lo), (.long tr)])
        refine Goes.go (fun _ => XS.lload S.here B.x rfl (B.d at_248) rfl) ?_
        show Goes _ _ _ _ T (mkF me_ 250 #[.val (.long q0), .second, .val (.long q1), .second, .val (.long q2), .second, .val (.int p3), .val (.int p4), .val (.long v1), .second, .val (.long v2), .second, .val (.long v3), .second, .val (.long v4), .second, .val (.long lo), .second, .val (.long hi), .second, .val (.long plo), .second, .val (.long phi), .second, .val (.long v6), .second, .val (.long dr), .second, .val (.long v8), .second, .val (.long v9), .second, .val (.long v10), .second, .val (.long v11), .second, .val (.ref b12), .val (.long tr), .second, .unset, .unset, .unset, .unset] [(.long v3), (.long q2), (.long v9), (.long hi), (.long v8), (.long lo), (.long tr)])
        refine Goes.callS (argsL := [(.long tr), (.long lo), (.long v8), (.long hi), (.long v9), (.long q2), (.long v3)]) (rest := []) (W := 0) S B (rm_ge l Z aw hw tr lo v8 hi v9 q2 v3 _ n0) (w75 hw) (w76 hw) (w77 hw) (w78 hw) (by decide) (by decide) (by decide) (by decide) (by decide) rfl (lenOf pd_10 rfl) rfl (Nat.le_of_eq rfl) at_250 ?_
        intro v T h S hQ
        obtain ⟨rfl, hh⟩ := hQ
        replace hh := hh.symm
        subst hh
        show Goes _ _ _ _ T (mkF me_ 253 #[.val (.long q0), .second, .val (.long q1), .second, .val (.long q2), .second, .val (.int p3), .val (.int p4), .val (.long v1), .second, .val (.long v2), .second, .val (.long v3), .second, .val (.long v4), .second, .val (.long lo), .second, .val (.long hi), .second, .val (.long plo), .second, .val (.long phi), .second, .val (.long v6), .second, .val (.long dr), .second, .val (.long v8), .second, .val (.long v9), .second, .val (.long v10), .second, .val (.long v11), .second, .val (.ref b12), .val (.long tr), .second, .unset, .unset, .unset, .unset] [(.long (own_ge tr lo v8 hi v9 q2 v3))])
        generalize hv29 : (own_ge tr lo v8 hi v9 q2 v3) = v29
        refine Goes.go (fun _ => XS.lstore (g := (mkF me_ 253 #[.val (.long q0), .second, .val (.long q1), .second, .val (.long q2), .second, .val (.int p3), .val (.int p4), .val (.long v1), .second, .val (.long v2), .second, .val (.long v3), .second, .val (.long v4), .second, .val (.long lo), .second, .val (.long hi), .second, .val (.long plo), .second, .val (.long phi), .second, .val (.long v6), .second, .val (.long dr), .second, .val (.long v8), .second, .val (.long v9), .second, .val (.long v10), .second, .val (.long v11), .second, .val (.ref b12), .val (.long tr), .second, .unset, .unset, .unset, .unset] [(.long v29)])) S.here B.x rfl (B.d at_253) rfl (l' := #[.val (.long q0), .second, .val (.long q1), .second, .val (.long q2), .second, .val (.int p3), .val (.int p4), .val (.long v1), .second, .val (.long v2), .second, .val (.long v3), .second, .val (.long v4), .second, .val (.long lo), .second, .val (.long hi), .second, .val (.long plo), .second, .val (.long phi), .second, .val (.long v6), .second, .val (.long dr), .second, .val (.long v8), .second, .val (.long v9), .second, .val (.long v10), .second, .val (.long v11), .second, .val (.ref b12), .val (.long tr), .second, .val (.long v29), .second, .unset, .unset]) rfl) ?_
        show Goes _ _ _ _ T (mkF me_ 255 #[.val (.long q0), .second, .val (.long q1), .second, .val (.long q2), .second, .val (.int p3), .val (.int p4), .val (.long v1), .second, .val (.long v2), .second, .val (.long v3), .second, .val (.long v4), .second, .val (.long lo), .second, .val (.long hi), .second, .val (.long plo), .second, .val (.long phi), .second, .val (.long v6), .second, .val (.long dr), .second, .val (.long v8), .second, .val (.long v9), .second, .val (.long v10), .second, .val (.long v11), .second, .val (.ref b12), .val (.long tr), .second, .val (.long v29), .second, .unset, .unset] [])
        refine Goes.go (fun _ => XS.lload S.here B.x rfl (B.d at_255) rfl) ?_
        show Goes _ _ _ _ T (mkF me_ 257 #[.val (.long q0), .second, .val (.long q1), .second, .val (.long q2), .second, .val (.int p3), .val (.int p4), .val (.long v1), .second, .val (.long v2), .second, .val (.long v3), .second, .val (.long v4), .second, .val (.long lo), .second, .val (.long hi), .second, .val (.long plo), .second, .val (.long phi), .second, .val (.long v6), .second, .val (.long dr), .second, .val (.long v8), .second, .val (.long v9), .second, .val (.long v10), .second, .val (.long v11), .second, .val (.ref b12), .val (.long tr), .second, .val (.long v29), .second, .unset, .unset] [(.long tr)])
        refine Goes.go (fun _ => XS.lload S.here B.x rfl (B.d at_257) rfl) ?_
        show Goes _ _ _ _ T (mkF me_ 259 #[.val (.long q0), .second, .val (.long q1), .second, .val (.long q2), .second, .val (.int p3), .val (.int p4), .val (.long v1), .second, .val (.long v2), .second, .val (.long v3), .second, .val (.long v4), .second, .val (.long lo), .second, .val (.long hi), .second, .val (.long plo), .second, .val (.long phi), .second, .val (.long v6), .second, .val (.long dr), .second, .val (.long v8), .second, .val (.long v9), .second, .val (.long v10), .second, .val (.long v11), .second, .val (.ref b12), .val (.long tr), .second, .val (.long v29), .second, .unset, .unset] [(.long lo), (.long tr)])
        refine Goes.go (fun _ => XS.lload S.here B.x rfl (B.d at_259) rfl) ?_
        show Goes _ _ _ _ T (mkF me_ 261 #[.val (.long q0), .second, .val (.long q1), .second, .val (.long q2), .second, .val (.int p3), .val (.int p4), .val (.long v1), .second, .val (.long v2), .second, .val (.long v3), .second, .val (.long v4), .second, .val (.long lo), .second, .val (.long hi), .second, .val (.long plo), .second, .val (.long phi), .second, .val (.long v6), .second, .val (.long dr), .second, .val (.long v8), .second, .val (.long v9), .second, .val (.long v10), .second, .val (.long v11), .second, .val (.ref b12), .val (.long tr), .second, .val (.long v29), .second, .unset, .unset] [(.long v8), (.long lo), (.long tr)])
        refine Goes.go (fun _ => XS.lload S.here B.x rfl (B.d at_261) rfl) ?_
        show Goes _ _ _ _ T (mkF me_ 263 #[.val (.long q0), .second, .val (.long q1), .second, .val (.long q2), .second, .val (.int p3), .val (.int p4), .val (.long v1), .second, .val (.long v2), .second, .val (.long v3), .second, .val (.long v4), .second, .val (.long lo), .second, .val (.long hi), .second, .val (.long plo), .second, .val (.long phi), .second, .val (.long v6), .second, .val (.long dr), .second, .val (.long v8), .second, .val (.long v9), .second, .val (.long v10), .second, .val (.long v11), .second, .val (.ref b12), .val (.long tr), .second, .val (.long v29), .second, .unset, .unset] [(.long hi), (.long v8), (.long lo), (.long tr)])
        refine Goes.go (fun _ => XS.lload S.here B.x rfl (B.d at_263) rfl) ?_
        show Goes _ _ _ _ T (mkF me_ 265 #[.val (.long q0), .second, .val (.long q1), .second, .val (.long q2), .second, .val (.int p3), .val (.int p4), .val (.long v1), .second, .val (.long v2), .second, .val (.long v3), .second, .val (.long v4), .second, .val (.long lo), .second, .val (.long hi), .second, .val (.long plo), .second, .val (.long phi), .second, .val (.long v6), .second, .val (.long dr), .second, .val (.long v8), .second, .val (.long v9), .second, .val (.long v10), .second, .val (.long v11), .second, .val (.ref b12), .val (.long tr), .second, .val (.long v29), .second, .unset, .unset] [(.long v9), (.long hi), (.long v8), (.long lo), (.long tr)])
        refine Goes.go (fun _ => XS.lload S.here B.x rfl (B.d at_265) rfl) ?_
        show Goes _ _ _ _ T (mkF me_ 267 #[.val (.long q0), .second, .val (.long q1), .second, .val (.long q2), .second, .val (.int p3), .val (.int p4), .val (.long v1), .second, .val (.long v2), .second, .val (.long v3), .second, .val (.long v4), .second, .val (.long lo), .second, .val (.long hi), .second, .val (.long plo), .second, .val (.long phi), .second, .val (.long v6), .second, .val (.long dr), .second, .val (.long v8), .second, .val (.long v9), .second, .val (.long v10), .second, .val (.long v11), .second, .val (.ref b12), .val (.long tr), .second, .val (.long v29), .second, .unset, .unset] [(.long q2), (.long v9), (.long hi), (.long v8), (.long lo), (.long tr)])
        refine Goes.go (fun _ => XS.lload S.here B.x rfl (B.d at_267) rfl) ?_
        show Goes _ _ _ _ T (mkF me_ 269 #[.val (.long q0), .second, .val (.long q1), .second, .val (.long q2), .second, .val (.int p3), .val (.int p4), .val (.long v1), .second, .val (.long v2), .second, .val (.long v3), .second, .val (.long v4), .second, .val (.long lo), .second, .val (.long hi), .second, .val (.long plo), .second, .val (.long phi), .second, .val (.long v6), .second, .val (.long dr), .second, .val (.long v8), .second, .val (.long v9), .second, .val (.long v10), .second, .val (.long v11), .second, .val (.ref b12), .val (.long tr), .second, .val (.long v29), .second, .unset, .unset] [(.long v3), (.long q2), (.long v9), (.long hi), (.long v8), (.long lo), (.long tr)])
        refine Goes.callS (argsL := [(.long tr), (.long lo), (.long v8), (.long hi), (.long v9), (.long q2), (.long v3)]) (rest := []) (W := 0) S B (rm_gt l Z aw hw tr lo v8 hi v9 q2 v3 _ n0) (w79 hw) (w80 hw) (w77 hw) (w81 hw) (by decide) (by decide) (by decide) (by decide) (by decide) rfl (lenOf pd_10 rfl) rfl (Nat.le_of_eq rfl) at_269 ?_
        intro v T h S hQ
        obtain ⟨rfl, hh⟩ := hQ
        replace hh := hh.symm
        subst hh
        show Goes _ _ _ _ T (mkF me_ 272 #[.val (.long q0), .second, .val (.long q1), .second, .val (.long q2), .second, .val (.int p3), .val (.int p4), .val (.long v1), .second, .val (.long v2), .second, .val (.long v3), .second, .val (.long v4), .second, .val (.long lo), .second, .val (.long hi), .second, .val (.long plo), .second, .val (.long phi), .second, .val (.long v6), .second, .val (.long dr), .second, .val (.long v8), .second, .val (.long v9), .second, .val (.long v10), .second, .val (.long v11), .second, .val (.ref b12), .val (.long tr), .second, .val (.long v29), .second, .unset, .unset] [(.long (own_gt tr lo v8 hi v9 q2 v3))])
        generalize hv30 : (own_gt tr lo v8 hi v9 q2 v3) = v30
        refine Goes.go (fun _ => XS.lstore (g := (mkF me_ 272 #[.val (.long q0), .second, .val (.long q1), .second, .val (.long q2), .second, .val (.int p3), .val (.int p4), .val (.long v1), .second, .val (.long v2), .second, .val (.long v3), .second, .val (.long v4), .second, .val (.long lo), .second, .val (.long hi), .second, .val (.long plo), .second, .val (.long phi), .second, .val (.long v6), .second, .val (.long dr), .second, .val (.long v8), .second, .val (.long v9), .second, .val (.long v10), .second, .val (.long v11), .second, .val (.ref b12), .val (.long tr), .second, .val (.long v29), .second, .unset, .unset] [(.long v30)])) S.here B.x rfl (B.d at_272) rfl (l' := #[.val (.long q0), .second, .val (.long q1), .second, .val (.long q2), .second, .val (.int p3), .val (.int p4), .val (.long v1), .second, .val (.long v2), .second, .val (.long v3), .second, .val (.long v4), .second, .val (.long lo), .second, .val (.long hi), .second, .val (.long plo), .second, .val (.long phi), .second, .val (.long v6), .second, .val (.long dr), .second, .val (.long v8), .second, .val (.long v9), .second, .val (.long v10), .second, .val (.long v11), .second, .val (.ref b12), .val (.long tr), .second, .val (.long v29), .second, .val (.long v30), .second]) rfl) ?_
        show Goes _ _ _ _ T (mkF me_ 274 #[.val (.long q0), .second, .val (.long q1), .second, .val (.long q2), .second, .val (.int p3), .val (.int p4), .val (.long v1), .second, .val (.long v2), .second, .val (.long v3), .second, .val (.long v4), .second, .val (.long lo), .second, .val (.long hi), .second, .val (.long plo), .second, .val (.long phi), .second, .val (.long v6), .second, .val (.long dr), .second, .val (.long v8), .second, .val (.long v9), .second, .val (.long v10), .second, .val (.long v11), .second, .val (.ref b12), .val (.long tr), .second, .val (.long v29), .second, .val (.long v30), .second] [])
        refine Goes.go (fun _ => XS.lload S.here B.x rfl (B.d at_274) rfl) ?_
        show Goes _ _ _ _ T (mkF me_ 276 #[.val (.long q0), .second, .val (.long q1), .second, .val (.long q2), .second, .val (.int p3), .val (.int p4), .val (.long v1), .second, .val (.long v2), .second, .val (.long v3), .second, .val (.long v4), .second, .val (.long lo), .second, .val (.long hi), .second, .val (.long plo), .second, .val (.long phi), .second, .val (.long v6), .second, .val (.long dr), .second, .val (.long v8), .second, .val (.long v9), .second, .val (.long v10), .second, .val (.long v11), .second, .val (.ref b12), .val (.long tr), .second, .val (.long v29), .second, .val (.long v30), .second] [(.long v30)])
        refine Goes.go (fun _ => XS.lload S.here B.x rfl (B.d at_276) rfl) ?_
        show Goes _ _ _ _ T (mkF me_ 278 #[.val (.long q0), .second, .val (.long q1), .second, .val (.long q2), .second, .val (.int p3), .val (.int p4), .val (.long v1), .second, .val (.long v2), .second, .val (.long v3), .second, .val (.long v4), .second, .val (.long lo), .second, .val (.long hi), .second, .val (.long plo), .second, .val (.long phi), .second, .val (.long v6), .second, .val (.long dr), .second, .val (.long v8), .second, .val (.long v9), .second, .val (.long v10), .second, .val (.long v11), .second, .val (.ref b12), .val (.long tr), .second, .val (.long v29), .second, .val (.long v30), .second] [(.long v11), (.long v30)])
        refine Goes.go (fun _ => XS.lcmp S.here B.x rfl (B.d at_278) rfl) ?_
        show Goes _ _ _ _ T (mkF me_ 279 #[.val (.long q0), .second, .val (.long q1), .second, .val (.long q2), .second, .val (.int p3), .val (.int p4), .val (.long v1), .second, .val (.long v2), .second, .val (.long v3), .second, .val (.long v4), .second, .val (.long lo), .second, .val (.long hi), .second, .val (.long plo), .second, .val (.long phi), .second, .val (.long v6), .second, .val (.long dr), .second, .val (.long v8), .second, .val (.long v9), .second, .val (.long v10), .second, .val (.long v11), .second, .val (.ref b12), .val (.long tr), .second, .val (.long v29), .second, .val (.long v30), .second] [(.int (lcmpW v30 v11))])
        refine Goes.go (fun _ => XS.ifNo S.here B.x rfl (B.d at_279) rfl ((if0 _ _).trans (tlt ((lw_lt v30 v11).mpr (show v30 < v11 from own_c279 hq1 hq2 hb3 hv30 hh4))).2.1)) ?_
        show Goes _ _ _ _ T (mkF me_ 282 #[.val (.long q0), .second, .val (.long q1), .second, .val (.long q2), .second, .val (.int p3), .val (.int p4), .val (.long v1), .second, .val (.long v2), .second, .val (.long v3), .second, .val (.long v4), .second, .val (.long lo), .second, .val (.long hi), .second, .val (.long plo), .second, .val (.long phi), .second, .val (.long v6), .second, .val (.long dr), .second, .val (.long v8), .second, .val (.long v9), .second, .val (.long v10), .second, .val (.long v11), .second, .val (.ref b12), .val (.long tr), .second, .val (.long v29), .second, .val (.long v30), .second] [])
        refine Goes.go (fun _ => XS.lload S.here B.x rfl (B.d at_282) rfl) ?_
        show Goes _ _ _ _ T (mkF me_ 284 #[.val (.long q0), .second, .val (.long q1), .second, .val (.long q2), .second, .val (.int p3), .val (.int p4), .val (.long v1), .second, .val (.long v2), .second, .val (.long v3), .second, .val (.long v4), .second, .val (.long lo), .second, .val (.long hi), .second, .val (.long plo), .second, .val (.long phi), .second, .val (.long v6), .second, .val (.long dr), .second, .val (.long v8), .second, .val (.long v9), .second, .val (.long v10), .second, .val (.long v11), .second, .val (.ref b12), .val (.long tr), .second, .val (.long v29), .second, .val (.long v30), .second] [(.long v11)])
        refine Goes.go (fun _ => XS.lload S.here B.x rfl (B.d at_284) rfl) ?_
        show Goes _ _ _ _ T (mkF me_ 286 #[.val (.long q0), .second, .val (.long q1), .second, .val (.long q2), .second, .val (.int p3), .val (.int p4), .val (.long v1), .second, .val (.long v2), .second, .val (.long v3), .second, .val (.long v4), .second, .val (.long lo), .second, .val (.long hi), .second, .val (.long plo), .second, .val (.long phi), .second, .val (.long v6), .second, .val (.long dr), .second, .val (.long v8), .second, .val (.long v9), .second, .val (.long v10), .second, .val (.long v11), .second, .val (.ref b12), .val (.long tr), .second, .val (.long v29), .second, .val (.long v30), .second] [(.long v29), (.long v11)])
        refine Goes.go (fun _ => XS.lcmp S.here B.x rfl (B.d at_286) rfl) ?_
        show Goes _ _ _ _ T (mkF me_ 287 #[.val (.long q0), .second, .val (.long q1), .second, .val (.long q2), .second, .val (.int p3), .val (.int p4), .val (.long v1), .second, .val (.long v2), .second, .val (.long v3), .second, .val (.long v4), .second, .val (.long lo), .second, .val (.long hi), .second, .val (.long plo), .second, .val (.long phi), .second, .val (.long v6), .second, .val (.long dr), .second, .val (.long v8), .second, .val (.long v9), .second, .val (.long v10), .second, .val (.long v11), .second, .val (.ref b12), .val (.long tr), .second, .val (.long v29), .second, .val (.long v30), .second] [(.int (lcmpW v11 v29))])
        refine Goes.go (fun _ => XS.ifNo S.here B.x rfl (B.d at_287) rfl ((if0 _ _).trans (flt (mt (lw_gt v11 v29).mp (show ¬ (v29 < v11) from own_c287 hq1 hq2 hb3 hv29 hg4))).2.2.1)) ?_
        show Goes _ _ _ _ T (mkF me_ 290 #[.val (.long q0), .second, .val (.long q1), .second, .val (.long q2), .second, .val (.int p3), .val (.int p4), .val (.long v1), .second, .val (.long v2), .second, .val (.long v3), .second, .val (.long v4), .second, .val (.long lo), .second, .val (.long hi), .second, .val (.long plo), .second, .val (.long phi), .second, .val (.long v6), .second, .val (.long dr), .second, .val (.long v8), .second, .val (.long v9), .second, .val (.long v10), .second, .val (.long v11), .second, .val (.ref b12), .val (.long tr), .second, .val (.long v29), .second, .val (.long v30), .second] [])
        refine Goes.go (fun _ => XS.iconst S.here B.x rfl (B.d at_290)) ?_
        show Goes _ _ _ _ T (mkF me_ 291 #[.val (.long q0), .second, .val (.long q1), .second, .val (.long q2), .second, .val (.int p3), .val (.int p4), .val (.long v1), .second, .val (.long v2), .second, .val (.long v3), .second, .val (.long v4), .second, .val (.long lo), .second, .val (.long hi), .second, .val (.long plo), .second, .val (.long phi), .second, .val (.long v6), .second, .val (.long dr), .second, .val (.long v8), .second, .val (.long v9), .second, .val (.long v10), .second, .val (.long v11), .second, .val (.ref b12), .val (.long tr), .second, .val (.long v29), .second, .val (.long v30), .second] [(.int (1 : Int32))])
        refine Goes.go (fun _ => XS.goto S.here B.x rfl (pc0 := 291) (pc' := 295) rfl (B.d at_291) (by decide) (by decide)) ?_
        show Goes _ _ _ _ T (mkF me_ 295 #[.val (.long q0), .second, .val (.long q1), .second, .val (.long q2), .second, .val (.int p3), .val (.int p4), .val (.long v1), .second, .val (.long v2), .second, .val (.long v3), .second, .val (.long v4), .second, .val (.long lo), .second, .val (.long hi), .second, .val (.long plo), .second, .val (.long phi), .second, .val (.long v6), .second, .val (.long dr), .second, .val (.long v8), .second, .val (.long v9), .second, .val (.long v10), .second, .val (.long v11), .second, .val (.ref b12), .val (.long tr), .second, .val (.long v29), .second, .val (.long v30), .second] [(.int (1 : Int32))])
        refine Goes.retN S B (by simp) at_295 (by decide) (by decide) ?_
        exact rfl
    refine Goes.go (fun _ => XS.lload S.here B.x rfl (B.d at_109) rfl) ?_
    show Goes _ _ _ _ T (mkF me_ 111 #[.val (.long q0), .second, .val (.long q1), .second, .val (.long q2), .second, .val (.int p3), .val (.int p4), .val (.long v1), .second, .val (.long v2), .second, .val (.long v3), .second, .val (.long v4), .second, .val (.long lo), .second, .val (.long hi), .second, .val (.long plo), .second, .val (.long phi), .second, .val (.long v6), .second, .unset, .unset, .unset, .unset, .unset, .unset, .unset, .unset, .unset, .unset, .unset, .unset, .unset, .unset, .unset, .unset, .unset] [(.long v6)])
    refine Goes.go (fun _ => XS.lload S.here B.x rfl (B.d at_111) rfl) ?_
    show Goes _ _ _ _ T (mkF me_ 113 #[.val (.long q0), .second, .val (.long q1), .second, .val (.long q2), .second, .val (.int p3), .val (.int p4), .val (.long v1), .second, .val (.long v2), .second, .val (.long v3), .second, .val (.long v4), .second, .val (.long lo), .second, .val (.long hi), .second, .val (.long plo), .second, .val (.long phi), .second, .val (.long v6), .second, .unset, .unset, .unset, .unset, .unset, .unset, .unset, .unset, .unset, .unset, .unset, .unset, .unset, .unset, .unset, .unset, .unset] [(.long v4), (.long v6)])
    refine Goes.go (fun _ => XS.lcmp S.here B.x rfl (B.d at_113) rfl) ?_
    show Goes _ _ _ _ T (mkF me_ 114 #[.val (.long q0), .second, .val (.long q1), .second, .val (.long q2), .second, .val (.int p3), .val (.int p4), .val (.long v1), .second, .val (.long v2), .second, .val (.long v3), .second, .val (.long v4), .second, .val (.long lo), .second, .val (.long hi), .second, .val (.long plo), .second, .val (.long phi), .second, .val (.long v6), .second, .unset, .unset, .unset, .unset, .unset, .unset, .unset, .unset, .unset, .unset, .unset, .unset, .unset, .unset, .unset, .unset, .unset] [(.int (lcmpW v6 v4))])
    by_cases hc114 : v4 < v6
    · skip
      refine Goes.go (fun _ => XS.ifNo S.here B.x rfl (B.d at_114) rfl ((if0 _ _).trans (tlt ((lw_gt v6 v4).mpr hc114)).2.2.2)) ?_
      show Goes _ _ _ _ T (mkF me_ 117 #[.val (.long q0), .second, .val (.long q1), .second, .val (.long q2), .second, .val (.int p3), .val (.int p4), .val (.long v1), .second, .val (.long v2), .second, .val (.long v3), .second, .val (.long v4), .second, .val (.long lo), .second, .val (.long hi), .second, .val (.long plo), .second, .val (.long phi), .second, .val (.long v6), .second, .unset, .unset, .unset, .unset, .unset, .unset, .unset, .unset, .unset, .unset, .unset, .unset, .unset, .unset, .unset, .unset, .unset] [])
      refine Goes.go (fun _ => XS.lload S.here B.x rfl (B.d at_117) rfl) ?_
      show Goes _ _ _ _ T (mkF me_ 119 #[.val (.long q0), .second, .val (.long q1), .second, .val (.long q2), .second, .val (.int p3), .val (.int p4), .val (.long v1), .second, .val (.long v2), .second, .val (.long v3), .second, .val (.long v4), .second, .val (.long lo), .second, .val (.long hi), .second, .val (.long plo), .second, .val (.long phi), .second, .val (.long v6), .second, .unset, .unset, .unset, .unset, .unset, .unset, .unset, .unset, .unset, .unset, .unset, .unset, .unset, .unset, .unset, .unset, .unset] [(.long v6)])
      refine Goes.go (fun _ => XS.lload S.here B.x rfl (B.d at_119) rfl) ?_
      show Goes _ _ _ _ T (mkF me_ 121 #[.val (.long q0), .second, .val (.long q1), .second, .val (.long q2), .second, .val (.int p3), .val (.int p4), .val (.long v1), .second, .val (.long v2), .second, .val (.long v3), .second, .val (.long v4), .second, .val (.long lo), .second, .val (.long hi), .second, .val (.long plo), .second, .val (.long phi), .second, .val (.long v6), .second, .unset, .unset, .unset, .unset, .unset, .unset, .unset, .unset, .unset, .unset, .unset, .unset, .unset, .unset, .unset, .unset, .unset] [(.long v4), (.long v6)])
      refine Goes.go (fun _ => XS.lsub S.here B.x rfl (B.d at_121) rfl) ?_
      show Goes _ _ _ _ T (mkF me_ 122 #[.val (.long q0), .second, .val (.long q1), .second, .val (.long q2), .second, .val (.int p3), .val (.int p4), .val (.long v1), .second, .val (.long v2), .second, .val (.long v3), .second, .val (.long v4), .second, .val (.long lo), .second, .val (.long hi), .second, .val (.long plo), .second, .val (.long phi), .second, .val (.long v6), .second, .unset, .unset, .unset, .unset, .unset, .unset, .unset, .unset, .unset, .unset, .unset, .unset, .unset, .unset, .unset, .unset, .unset] [(.long (v6 - v4))])
      refine Goes.go (fun _ => XS.goto S.here B.x rfl (pc0 := 122) (pc' := 126) rfl (B.d at_122) (by decide) (by decide)) ?_
      show Goes _ _ _ _ T (mkF me_ 126 #[.val (.long q0), .second, .val (.long q1), .second, .val (.long q2), .second, .val (.int p3), .val (.int p4), .val (.long v1), .second, .val (.long v2), .second, .val (.long v3), .second, .val (.long v4), .second, .val (.long lo), .second, .val (.long hi), .second, .val (.long plo), .second, .val (.long phi), .second, .val (.long v6), .second, .unset, .unset, .unset, .unset, .unset, .unset, .unset, .unset, .unset, .unset, .unset, .unset, .unset, .unset, .unset, .unset, .unset] [(.long (v6 - v4))])
      exact J7 T (v6 - v4) S (Or.inl ⟨hc114, rfl⟩)
    · skip
      refine Goes.go (fun _ => XS.ifYes S.here B.x rfl (pc0 := 114) (pc' := 125) rfl (B.d at_114) rfl ((if0 _ _).trans (flt (mt (lw_gt v6 v4).mp hc114)).2.2.2) (by decide) (by decide)) ?_
      show Goes _ _ _ _ T (mkF me_ 125 #[.val (.long q0), .second, .val (.long q1), .second, .val (.long q2), .second, .val (.int p3), .val (.int p4), .val (.long v1), .second, .val (.long v2), .second, .val (.long v3), .second, .val (.long v4), .second, .val (.long lo), .second, .val (.long hi), .second, .val (.long plo), .second, .val (.long phi), .second, .val (.long v6), .second, .unset, .unset, .unset, .unset, .unset, .unset, .unset, .unset, .unset, .unset, .unset, .unset, .unset, .unset, .unset, .unset, .unset] [])
      refine Goes.go (fun _ => XS.lconst S.here B.x rfl (B.d at_125)) ?_
      show Goes _ _ _ _ T (mkF me_ 126 #[.val (.long q0), .second, .val (.long q1), .second, .val (.long q2), .second, .val (.int p3), .val (.int p4), .val (.long v1), .second, .val (.long v2), .second, .val (.long v3), .second, .val (.long v4), .second, .val (.long lo), .second, .val (.long hi), .second, .val (.long plo), .second, .val (.long phi), .second, .val (.long v6), .second, .unset, .unset, .unset, .unset, .unset, .unset, .unset, .unset, .unset, .unset, .unset, .unset, .unset, .unset, .unset, .unset, .unset] [(.long (0 : Int64))])
      exact J7 T (0 : Int64) S (Or.inr ⟨hc114, rfl⟩)
  refine Goes.go (fun _ => XS.lloadN S.here B.x rfl (B.d at_40) rfl) ?_
  show Goes _ _ _ _ T (mkF me_ 41 #[.val (.long q0), .second, .val (.long q1), .second, .val (.long q2), .second, .val (.int p3), .val (.int p4), .val (.long v1), .second, .val (.long v2), .second, .val (.long v3), .second, .val (.long v4), .second, .unset, .unset, .unset, .unset, .unset, .unset, .unset, .unset, .unset, .unset, .unset, .unset, .unset, .unset, .unset, .unset, .unset, .unset, .unset, .unset, .unset, .unset, .unset, .unset, .unset, .unset, .unset] [(.long q0)])
  refine Goes.go (fun _ => XS.lloadN S.here B.x rfl (B.d at_41) rfl) ?_
  show Goes _ _ _ _ T (mkF me_ 42 #[.val (.long q0), .second, .val (.long q1), .second, .val (.long q2), .second, .val (.int p3), .val (.int p4), .val (.long v1), .second, .val (.long v2), .second, .val (.long v3), .second, .val (.long v4), .second, .unset, .unset, .unset, .unset, .unset, .unset, .unset, .unset, .unset, .unset, .unset, .unset, .unset, .unset, .unset, .unset, .unset, .unset, .unset, .unset, .unset, .unset, .unset, .unset, .unset, .unset, .unset] [(.long q1), (.long q0)])
  refine Goes.go (fun _ => XS.lcmp S.here B.x rfl (B.d at_42) rfl) ?_
  show Goes _ _ _ _ T (mkF me_ 43 #[.val (.long q0), .second, .val (.long q1), .second, .val (.long q2), .second, .val (.int p3), .val (.int p4), .val (.long v1), .second, .val (.long v2), .second, .val (.long v3), .second, .val (.long v4), .second, .unset, .unset, .unset, .unset, .unset, .unset, .unset, .unset, .unset, .unset, .unset, .unset, .unset, .unset, .unset, .unset, .unset, .unset, .unset, .unset, .unset, .unset, .unset, .unset, .unset, .unset, .unset] [(.int (lcmpW q0 q1))])
  by_cases hc43 : q0 < q1
  · skip
    refine Goes.go (fun _ => XS.ifNo S.here B.x rfl (B.d at_43) rfl ((if0 _ _).trans (tlt ((lw_lt q0 q1).mpr hc43)).2.1)) ?_
    show Goes _ _ _ _ T (mkF me_ 46 #[.val (.long q0), .second, .val (.long q1), .second, .val (.long q2), .second, .val (.int p3), .val (.int p4), .val (.long v1), .second, .val (.long v2), .second, .val (.long v3), .second, .val (.long v4), .second, .unset, .unset, .unset, .unset, .unset, .unset, .unset, .unset, .unset, .unset, .unset, .unset, .unset, .unset, .unset, .unset, .unset, .unset, .unset, .unset, .unset, .unset, .unset, .unset, .unset, .unset, .unset] [])
    refine Goes.go (fun _ => XS.lloadN S.here B.x rfl (B.d at_46) rfl) ?_
    show Goes _ _ _ _ T (mkF me_ 47 #[.val (.long q0), .second, .val (.long q1), .second, .val (.long q2), .second, .val (.int p3), .val (.int p4), .val (.long v1), .second, .val (.long v2), .second, .val (.long v3), .second, .val (.long v4), .second, .unset, .unset, .unset, .unset, .unset, .unset, .unset, .unset, .unset, .unset, .unset, .unset, .unset, .unset, .unset, .unset, .unset, .unset, .unset, .unset, .unset, .unset, .unset, .unset, .unset, .unset, .unset] [(.long q0)])
    refine Goes.go (fun _ => XS.lstore (g := (mkF me_ 47 #[.val (.long q0), .second, .val (.long q1), .second, .val (.long q2), .second, .val (.int p3), .val (.int p4), .val (.long v1), .second, .val (.long v2), .second, .val (.long v3), .second, .val (.long v4), .second, .unset, .unset, .unset, .unset, .unset, .unset, .unset, .unset, .unset, .unset, .unset, .unset, .unset, .unset, .unset, .unset, .unset, .unset, .unset, .unset, .unset, .unset, .unset, .unset, .unset, .unset, .unset] [(.long q0)])) S.here B.x rfl (B.d at_47) rfl (l' := #[.val (.long q0), .second, .val (.long q1), .second, .val (.long q2), .second, .val (.int p3), .val (.int p4), .val (.long v1), .second, .val (.long v2), .second, .val (.long v3), .second, .val (.long v4), .second, .val (.long q0), .second, .unset, .unset, .unset, .unset, .unset, .unset, .unset, .unset, .unset, .unset, .unset, .unset, .unset, .unset, .unset, .unset, .unset, .unset, .unset, .unset, .unset, .unset, .unset, .unset, .unset]) rfl) ?_
    show Goes _ _ _ _ T (mkF me_ 49 #[.val (.long q0), .second, .val (.long q1), .second, .val (.long q2), .second, .val (.int p3), .val (.int p4), .val (.long v1), .second, .val (.long v2), .second, .val (.long v3), .second, .val (.long v4), .second, .val (.long q0), .second, .unset, .unset, .unset, .unset, .unset, .unset, .unset, .unset, .unset, .unset, .unset, .unset, .unset, .unset, .unset, .unset, .unset, .unset, .unset, .unset, .unset, .unset, .unset, .unset, .unset] [])
    refine Goes.go (fun _ => XS.lloadN S.here B.x rfl (B.d at_49) rfl) ?_
    show Goes _ _ _ _ T (mkF me_ 50 #[.val (.long q0), .second, .val (.long q1), .second, .val (.long q2), .second, .val (.int p3), .val (.int p4), .val (.long v1), .second, .val (.long v2), .second, .val (.long v3), .second, .val (.long v4), .second, .val (.long q0), .second, .unset, .unset, .unset, .unset, .unset, .unset, .unset, .unset, .unset, .unset, .unset, .unset, .unset, .unset, .unset, .unset, .unset, .unset, .unset, .unset, .unset, .unset, .unset, .unset, .unset] [(.long q1)])
    refine Goes.go (fun _ => XS.lstore (g := (mkF me_ 50 #[.val (.long q0), .second, .val (.long q1), .second, .val (.long q2), .second, .val (.int p3), .val (.int p4), .val (.long v1), .second, .val (.long v2), .second, .val (.long v3), .second, .val (.long v4), .second, .val (.long q0), .second, .unset, .unset, .unset, .unset, .unset, .unset, .unset, .unset, .unset, .unset, .unset, .unset, .unset, .unset, .unset, .unset, .unset, .unset, .unset, .unset, .unset, .unset, .unset, .unset, .unset] [(.long q1)])) S.here B.x rfl (B.d at_50) rfl (l' := #[.val (.long q0), .second, .val (.long q1), .second, .val (.long q2), .second, .val (.int p3), .val (.int p4), .val (.long v1), .second, .val (.long v2), .second, .val (.long v3), .second, .val (.long v4), .second, .val (.long q0), .second, .val (.long q1), .second, .unset, .unset, .unset, .unset, .unset, .unset, .unset, .unset, .unset, .unset, .unset, .unset, .unset, .unset, .unset, .unset, .unset, .unset, .unset, .unset, .unset, .unset, .unset]) rfl) ?_
    show Goes _ _ _ _ T (mkF me_ 52 #[.val (.long q0), .second, .val (.long q1), .second, .val (.long q2), .second, .val (.int p3), .val (.int p4), .val (.long v1), .second, .val (.long v2), .second, .val (.long v3), .second, .val (.long v4), .second, .val (.long q0), .second, .val (.long q1), .second, .unset, .unset, .unset, .unset, .unset, .unset, .unset, .unset, .unset, .unset, .unset, .unset, .unset, .unset, .unset, .unset, .unset, .unset, .unset, .unset, .unset, .unset, .unset] [])
    refine Goes.go (fun _ => XS.lload S.here B.x rfl (B.d at_52) rfl) ?_
    show Goes _ _ _ _ T (mkF me_ 54 #[.val (.long q0), .second, .val (.long q1), .second, .val (.long q2), .second, .val (.int p3), .val (.int p4), .val (.long v1), .second, .val (.long v2), .second, .val (.long v3), .second, .val (.long v4), .second, .val (.long q0), .second, .val (.long q1), .second, .unset, .unset, .unset, .unset, .unset, .unset, .unset, .unset, .unset, .unset, .unset, .unset, .unset, .unset, .unset, .unset, .unset, .unset, .unset, .unset, .unset, .unset, .unset] [(.long v1)])
    refine Goes.go (fun _ => XS.lstore (g := (mkF me_ 54 #[.val (.long q0), .second, .val (.long q1), .second, .val (.long q2), .second, .val (.int p3), .val (.int p4), .val (.long v1), .second, .val (.long v2), .second, .val (.long v3), .second, .val (.long v4), .second, .val (.long q0), .second, .val (.long q1), .second, .unset, .unset, .unset, .unset, .unset, .unset, .unset, .unset, .unset, .unset, .unset, .unset, .unset, .unset, .unset, .unset, .unset, .unset, .unset, .unset, .unset, .unset, .unset] [(.long v1)])) S.here B.x rfl (B.d at_54) rfl (l' := #[.val (.long q0), .second, .val (.long q1), .second, .val (.long q2), .second, .val (.int p3), .val (.int p4), .val (.long v1), .second, .val (.long v2), .second, .val (.long v3), .second, .val (.long v4), .second, .val (.long q0), .second, .val (.long q1), .second, .val (.long v1), .second, .unset, .unset, .unset, .unset, .unset, .unset, .unset, .unset, .unset, .unset, .unset, .unset, .unset, .unset, .unset, .unset, .unset, .unset, .unset, .unset, .unset]) rfl) ?_
    show Goes _ _ _ _ T (mkF me_ 56 #[.val (.long q0), .second, .val (.long q1), .second, .val (.long q2), .second, .val (.int p3), .val (.int p4), .val (.long v1), .second, .val (.long v2), .second, .val (.long v3), .second, .val (.long v4), .second, .val (.long q0), .second, .val (.long q1), .second, .val (.long v1), .second, .unset, .unset, .unset, .unset, .unset, .unset, .unset, .unset, .unset, .unset, .unset, .unset, .unset, .unset, .unset, .unset, .unset, .unset, .unset, .unset, .unset] [])
    refine Goes.go (fun _ => XS.lload S.here B.x rfl (B.d at_56) rfl) ?_
    show Goes _ _ _ _ T (mkF me_ 58 #[.val (.long q0), .second, .val (.long q1), .second, .val (.long q2), .second, .val (.int p3), .val (.int p4), .val (.long v1), .second, .val (.long v2), .second, .val (.long v3), .second, .val (.long v4), .second, .val (.long q0), .second, .val (.long q1), .second, .val (.long v1), .second, .unset, .unset, .unset, .unset, .unset, .unset, .unset, .unset, .unset, .unset, .unset, .unset, .unset, .unset, .unset, .unset, .unset, .unset, .unset, .unset, .unset] [(.long v2)])
    refine Goes.go (fun _ => XS.lstore (g := (mkF me_ 58 #[.val (.long q0), .second, .val (.long q1), .second, .val (.long q2), .second, .val (.int p3), .val (.int p4), .val (.long v1), .second, .val (.long v2), .second, .val (.long v3), .second, .val (.long v4), .second, .val (.long q0), .second, .val (.long q1), .second, .val (.long v1), .second, .unset, .unset, .unset, .unset, .unset, .unset, .unset, .unset, .unset, .unset, .unset, .unset, .unset, .unset, .unset, .unset, .unset, .unset, .unset, .unset, .unset] [(.long v2)])) S.here B.x rfl (B.d at_58) rfl (l' := #[.val (.long q0), .second, .val (.long q1), .second, .val (.long q2), .second, .val (.int p3), .val (.int p4), .val (.long v1), .second, .val (.long v2), .second, .val (.long v3), .second, .val (.long v4), .second, .val (.long q0), .second, .val (.long q1), .second, .val (.long v1), .second, .val (.long v2), .second, .unset, .unset, .unset, .unset, .unset, .unset, .unset, .unset, .unset, .unset, .unset, .unset, .unset, .unset, .unset, .unset, .unset, .unset, .unset]) rfl) ?_
    show Goes _ _ _ _ T (mkF me_ 60 #[.val (.long q0), .second, .val (.long q1), .second, .val (.long q2), .second, .val (.int p3), .val (.int p4), .val (.long v1), .second, .val (.long v2), .second, .val (.long v3), .second, .val (.long v4), .second, .val (.long q0), .second, .val (.long q1), .second, .val (.long v1), .second, .val (.long v2), .second, .unset, .unset, .unset, .unset, .unset, .unset, .unset, .unset, .unset, .unset, .unset, .unset, .unset, .unset, .unset, .unset, .unset, .unset, .unset] [])
    refine Goes.go (fun _ => XS.goto S.here B.x rfl (pc0 := 60) (pc' := 102) rfl (B.d at_60) (by decide) (by decide)) ?_
    show Goes _ _ _ _ T (mkF me_ 102 #[.val (.long q0), .second, .val (.long q1), .second, .val (.long q2), .second, .val (.int p3), .val (.int p4), .val (.long v1), .second, .val (.long v2), .second, .val (.long v3), .second, .val (.long v4), .second, .val (.long q0), .second, .val (.long q1), .second, .val (.long v1), .second, .val (.long v2), .second, .unset, .unset, .unset, .unset, .unset, .unset, .unset, .unset, .unset, .unset, .unset, .unset, .unset, .unset, .unset, .unset, .unset, .unset, .unset] [])
    exact J5 T q0 q1 v1 v2 S (Or.inl ⟨hc43, rfl, rfl, rfl, rfl⟩)
  · skip
    refine Goes.go (fun _ => XS.ifYes S.here B.x rfl (pc0 := 43) (pc' := 63) rfl (B.d at_43) rfl ((if0 _ _).trans (flt (mt (lw_lt q0 q1).mp hc43)).2.1) (by decide) (by decide)) ?_
    show Goes _ _ _ _ T (mkF me_ 63 #[.val (.long q0), .second, .val (.long q1), .second, .val (.long q2), .second, .val (.int p3), .val (.int p4), .val (.long v1), .second, .val (.long v2), .second, .val (.long v3), .second, .val (.long v4), .second, .unset, .unset, .unset, .unset, .unset, .unset, .unset, .unset, .unset, .unset, .unset, .unset, .unset, .unset, .unset, .unset, .unset, .unset, .unset, .unset, .unset, .unset, .unset, .unset, .unset, .unset, .unset] [])
    refine Goes.go (fun _ => XS.lloadN S.here B.x rfl (B.d at_63) rfl) ?_
    show Goes _ _ _ _ T (mkF me_ 64 #[.val (.long q0), .second, .val (.long q1), .second, .val (.long q2), .second, .val (.int p3), .val (.int p4), .val (.long v1), .second, .val (.long v2), .second, .val (.long v3), .second, .val (.long v4), .second, .unset, .unset, .unset, .unset, .unset, .unset, .unset, .unset, .unset, .unset, .unset, .unset, .unset, .unset, .unset, .unset, .unset, .unset, .unset, .unset, .unset, .unset, .unset, .unset, .unset, .unset, .unset] [(.long q0)])
    refine Goes.go (fun _ => XS.lloadN S.here B.x rfl (B.d at_64) rfl) ?_
    show Goes _ _ _ _ T (mkF me_ 65 #[.val (.long q0), .second, .val (.long q1), .second, .val (.long q2), .second, .val (.int p3), .val (.int p4), .val (.long v1), .second, .val (.long v2), .second, .val (.long v3), .second, .val (.long v4), .second, .unset, .unset, .unset, .unset, .unset, .unset, .unset, .unset, .unset, .unset, .unset, .unset, .unset, .unset, .unset, .unset, .unset, .unset, .unset, .unset, .unset, .unset, .unset, .unset, .unset, .unset, .unset] [(.long q1), (.long q0)])
    refine Goes.go (fun _ => XS.lcmp S.here B.x rfl (B.d at_65) rfl) ?_
    show Goes _ _ _ _ T (mkF me_ 66 #[.val (.long q0), .second, .val (.long q1), .second, .val (.long q2), .second, .val (.int p3), .val (.int p4), .val (.long v1), .second, .val (.long v2), .second, .val (.long v3), .second, .val (.long v4), .second, .unset, .unset, .unset, .unset, .unset, .unset, .unset, .unset, .unset, .unset, .unset, .unset, .unset, .unset, .unset, .unset, .unset, .unset, .unset, .unset, .unset, .unset, .unset, .unset, .unset, .unset, .unset] [(.int (lcmpW q0 q1))])
    by_cases hc66 : q1 < q0
    · skip
      refine Goes.go (fun _ => XS.ifNo S.here B.x rfl (B.d at_66) rfl ((if0 _ _).trans (tlt ((lw_gt q0 q1).mpr hc66)).2.2.2)) ?_
      show Goes _ _ _ _ T (mkF me_ 69 #[.val (.long q0), .second, .val (.long q1), .second, .val (.long q2), .second, .val (.int p3), .val (.int p4), .val (.long v1), .second, .val (.long v2), .second, .val (.long v3), .second, .val (.long v4), .second, .unset, .unset, .unset, .unset, .unset, .unset, .unset, .unset, .unset, .unset, .unset, .unset, .unset, .unset, .unset, .unset, .unset, .unset, .unset, .unset, .unset, .unset, .unset, .unset, .unset, .unset, .unset] [])
      refine Goes.go (fun _ => XS.lloadN S.here B.x rfl (B.d at_69) rfl) ?_
      show Goes _ _ _ _ T (mkF me_ 70 #[.val (.long q0), .second, .val (.long q1), .second, .val (.long q2), .second, .val (.int p3), .val (.int p4), .val (.long v1), .second, .val (.long v2), .second, .val (.long v3), .second, .val (.long v4), .second, .unset, .unset, .unset, .unset, .unset, .unset, .unset, .unset, .unset, .unset, .unset, .unset, .unset, .unset, .unset, .unset, .unset, .unset, .unset, .unset, .unset, .unset, .unset, .unset, .unset, .unset, .unset] [(.long q1)])
      refine Goes.go (fun _ => XS.lstore (g := (mkF me_ 70 #[.val (.long q0), .second, .val (.long q1), .second, .val (.long q2), .second, .val (.int p3), .val (.int p4), .val (.long v1), .second, .val (.long v2), .second, .val (.long v3), .second, .val (.long v4), .second, .unset, .unset, .unset, .unset, .unset, .unset, .unset, .unset, .unset, .unset, .unset, .unset, .unset, .unset, .unset, .unset, .unset, .unset, .unset, .unset, .unset, .unset, .unset, .unset, .unset, .unset, .unset] [(.long q1)])) S.here B.x rfl (B.d at_70) rfl (l' := #[.val (.long q0), .second, .val (.long q1), .second, .val (.long q2), .second, .val (.int p3), .val (.int p4), .val (.long v1), .second, .val (.long v2), .second, .val (.long v3), .second, .val (.long v4), .second, .val (.long q1), .second, .unset, .unset, .unset, .unset, .unset, .unset, .unset, .unset, .unset, .unset, .unset, .unset, .unset, .unset, .unset, .unset, .unset, .unset, .unset, .unset, .unset, .unset, .unset, .unset, .unset]) rfl) ?_
      show Goes _ _ _ _ T (mkF me_ 72 #[.val (.long q0), .second, .val (.long q1), .second, .val (.long q2), .second, .val (.int p3), .val (.int p4), .val (.long v1), .second, .val (.long v2), .second, .val (.long v3), .second, .val (.long v4), .second, .val (.long q1), .second, .unset, .unset, .unset, .unset, .unset, .unset, .unset, .unset, .unset, .unset, .unset, .unset, .unset, .unset, .unset, .unset, .unset, .unset, .unset, .unset, .unset, .unset, .unset, .unset, .unset] [])
      refine Goes.go (fun _ => XS.lloadN S.here B.x rfl (B.d at_72) rfl) ?_
      show Goes _ _ _ _ T (mkF me_ 73 #[.val (.long q0), .second, .val (.long q1), .second, .val (.long q2), .second, .val (.int p3), .val (.int p4), .val (.long v1), .second, .val (.long v2), .second, .val (.long v3), .second, .val (.long v4), .second, .val (.long q1), .second, .unset, .unset, .unset, .unset, .unset, .unset, .unset, .unset, .unset, .unset, .unset, .unset, .unset, .unset, .unset, .unset, .unset, .unset, .unset, .unset, .unset, .unset, .unset, .unset, .unset] [(.long q0)])
      refine Goes.go (fun _ => XS.lstore (g := (mkF me_ 73 #[.val (.long q0), .second, .val (.long q1), .second, .val (.long q2), .second, .val (.int p3), .val (.int p4), .val (.long v1), .second, .val (.long v2), .second, .val (.long v3), .second, .val (.long v4), .second, .val (.long q1), .second, .unset, .unset, .unset, .unset, .unset, .unset, .unset, .unset, .unset, .unset, .unset, .unset, .unset, .unset, .unset, .unset, .unset, .unset, .unset, .unset, .unset, .unset, .unset, .unset, .unset] [(.long q0)])) S.here B.x rfl (B.d at_73) rfl (l' := #[.val (.long q0), .second, .val (.long q1), .second, .val (.long q2), .second, .val (.int p3), .val (.int p4), .val (.long v1), .second, .val (.long v2), .second, .val (.long v3), .second, .val (.long v4), .second, .val (.long q1), .second, .val (.long q0), .second, .unset, .unset, .unset, .unset, .unset, .unset, .unset, .unset, .unset, .unset, .unset, .unset, .unset, .unset, .unset, .unset, .unset, .unset, .unset, .unset, .unset, .unset, .unset]) rfl) ?_
      show Goes _ _ _ _ T (mkF me_ 75 #[.val (.long q0), .second, .val (.long q1), .second, .val (.long q2), .second, .val (.int p3), .val (.int p4), .val (.long v1), .second, .val (.long v2), .second, .val (.long v3), .second, .val (.long v4), .second, .val (.long q1), .second, .val (.long q0), .second, .unset, .unset, .unset, .unset, .unset, .unset, .unset, .unset, .unset, .unset, .unset, .unset, .unset, .unset, .unset, .unset, .unset, .unset, .unset, .unset, .unset, .unset, .unset] [])
      refine Goes.go (fun _ => XS.lload S.here B.x rfl (B.d at_75) rfl) ?_
      show Goes _ _ _ _ T (mkF me_ 77 #[.val (.long q0), .second, .val (.long q1), .second, .val (.long q2), .second, .val (.int p3), .val (.int p4), .val (.long v1), .second, .val (.long v2), .second, .val (.long v3), .second, .val (.long v4), .second, .val (.long q1), .second, .val (.long q0), .second, .unset, .unset, .unset, .unset, .unset, .unset, .unset, .unset, .unset, .unset, .unset, .unset, .unset, .unset, .unset, .unset, .unset, .unset, .unset, .unset, .unset, .unset, .unset] [(.long v2)])
      refine Goes.go (fun _ => XS.lstore (g := (mkF me_ 77 #[.val (.long q0), .second, .val (.long q1), .second, .val (.long q2), .second, .val (.int p3), .val (.int p4), .val (.long v1), .second, .val (.long v2), .second, .val (.long v3), .second, .val (.long v4), .second, .val (.long q1), .second, .val (.long q0), .second, .unset, .unset, .unset, .unset, .unset, .unset, .unset, .unset, .unset, .unset, .unset, .unset, .unset, .unset, .unset, .unset, .unset, .unset, .unset, .unset, .unset, .unset, .unset] [(.long v2)])) S.here B.x rfl (B.d at_77) rfl (l' := #[.val (.long q0), .second, .val (.long q1), .second, .val (.long q2), .second, .val (.int p3), .val (.int p4), .val (.long v1), .second, .val (.long v2), .second, .val (.long v3), .second, .val (.long v4), .second, .val (.long q1), .second, .val (.long q0), .second, .val (.long v2), .second, .unset, .unset, .unset, .unset, .unset, .unset, .unset, .unset, .unset, .unset, .unset, .unset, .unset, .unset, .unset, .unset, .unset, .unset, .unset, .unset, .unset]) rfl) ?_
      show Goes _ _ _ _ T (mkF me_ 79 #[.val (.long q0), .second, .val (.long q1), .second, .val (.long q2), .second, .val (.int p3), .val (.int p4), .val (.long v1), .second, .val (.long v2), .second, .val (.long v3), .second, .val (.long v4), .second, .val (.long q1), .second, .val (.long q0), .second, .val (.long v2), .second, .unset, .unset, .unset, .unset, .unset, .unset, .unset, .unset, .unset, .unset, .unset, .unset, .unset, .unset, .unset, .unset, .unset, .unset, .unset, .unset, .unset] [])
      refine Goes.go (fun _ => XS.lload S.here B.x rfl (B.d at_79) rfl) ?_
      show Goes _ _ _ _ T (mkF me_ 81 #[.val (.long q0), .second, .val (.long q1), .second, .val (.long q2), .second, .val (.int p3), .val (.int p4), .val (.long v1), .second, .val (.long v2), .second, .val (.long v3), .second, .val (.long v4), .second, .val (.long q1), .second, .val (.long q0), .second, .val (.long v2), .second, .unset, .unset, .unset, .unset, .unset, .unset, .unset, .unset, .unset, .unset, .unset, .unset, .unset, .unset, .unset, .unset, .unset, .unset, .unset, .unset, .unset] [(.long v1)])
      refine Goes.go (fun _ => XS.lstore (g := (mkF me_ 81 #[.val (.long q0), .second, .val (.long q1), .second, .val (.long q2), .second, .val (.int p3), .val (.int p4), .val (.long v1), .second, .val (.long v2), .second, .val (.long v3), .second, .val (.long v4), .second, .val (.long q1), .second, .val (.long q0), .second, .val (.long v2), .second, .unset, .unset, .unset, .unset, .unset, .unset, .unset, .unset, .unset, .unset, .unset, .unset, .unset, .unset, .unset, .unset, .unset, .unset, .unset, .unset, .unset] [(.long v1)])) S.here B.x rfl (B.d at_81) rfl (l' := #[.val (.long q0), .second, .val (.long q1), .second, .val (.long q2), .second, .val (.int p3), .val (.int p4), .val (.long v1), .second, .val (.long v2), .second, .val (.long v3), .second, .val (.long v4), .second, .val (.long q1), .second, .val (.long q0), .second, .val (.long v2), .second, .val (.long v1), .second, .unset, .unset, .unset, .unset, .unset, .unset, .unset, .unset, .unset, .unset, .unset, .unset, .unset, .unset, .unset, .unset, .unset, .unset, .unset]) rfl) ?_
      show Goes _ _ _ _ T (mkF me_ 83 #[.val (.long q0), .second, .val (.long q1), .second, .val (.long q2), .second, .val (.int p3), .val (.int p4), .val (.long v1), .second, .val (.long v2), .second, .val (.long v3), .second, .val (.long v4), .second, .val (.long q1), .second, .val (.long q0), .second, .val (.long v2), .second, .val (.long v1), .second, .unset, .unset, .unset, .unset, .unset, .unset, .unset, .unset, .unset, .unset, .unset, .unset, .unset, .unset, .unset, .unset, .unset, .unset, .unset] [])
      refine Goes.go (fun _ => XS.goto S.here B.x rfl (pc0 := 83) (pc' := 102) rfl (B.d at_83) (by decide) (by decide)) ?_
      show Goes _ _ _ _ T (mkF me_ 102 #[.val (.long q0), .second, .val (.long q1), .second, .val (.long q2), .second, .val (.int p3), .val (.int p4), .val (.long v1), .second, .val (.long v2), .second, .val (.long v3), .second, .val (.long v4), .second, .val (.long q1), .second, .val (.long q0), .second, .val (.long v2), .second, .val (.long v1), .second, .unset, .unset, .unset, .unset, .unset, .unset, .unset, .unset, .unset, .unset, .unset, .unset, .unset, .unset, .unset, .unset, .unset, .unset, .unset] [])
      exact J5 T q1 q0 v2 v1 S (Or.inr (Or.inl ⟨hc66, rfl, rfl, rfl, rfl⟩))
    · skip
      refine Goes.go (fun _ => XS.ifYes S.here B.x rfl (pc0 := 66) (pc' := 86) rfl (B.d at_66) rfl ((if0 _ _).trans (flt (mt (lw_gt q0 q1).mp hc66)).2.2.2) (by decide) (by decide)) ?_
      show Goes _ _ _ _ T (mkF me_ 86 #[.val (.long q0), .second, .val (.long q1), .second, .val (.long q2), .second, .val (.int p3), .val (.int p4), .val (.long v1), .second, .val (.long v2), .second, .val (.long v3), .second, .val (.long v4), .second, .unset, .unset, .unset, .unset, .unset, .unset, .unset, .unset, .unset, .unset, .unset, .unset, .unset, .unset, .unset, .unset, .unset, .unset, .unset, .unset, .unset, .unset, .unset, .unset, .unset, .unset, .unset] [])
      refine Goes.go (fun _ => XS.lloadN S.here B.x rfl (B.d at_86) rfl) ?_
      show Goes _ _ _ _ T (mkF me_ 87 #[.val (.long q0), .second, .val (.long q1), .second, .val (.long q2), .second, .val (.int p3), .val (.int p4), .val (.long v1), .second, .val (.long v2), .second, .val (.long v3), .second, .val (.long v4), .second, .unset, .unset, .unset, .unset, .unset, .unset, .unset, .unset, .unset, .unset, .unset, .unset, .unset, .unset, .unset, .unset, .unset, .unset, .unset, .unset, .unset, .unset, .unset, .unset, .unset, .unset, .unset] [(.long q0)])
      refine Goes.go (fun _ => XS.lstore (g := (mkF me_ 87 #[.val (.long q0), .second, .val (.long q1), .second, .val (.long q2), .second, .val (.int p3), .val (.int p4), .val (.long v1), .second, .val (.long v2), .second, .val (.long v3), .second, .val (.long v4), .second, .unset, .unset, .unset, .unset, .unset, .unset, .unset, .unset, .unset, .unset, .unset, .unset, .unset, .unset, .unset, .unset, .unset, .unset, .unset, .unset, .unset, .unset, .unset, .unset, .unset, .unset, .unset] [(.long q0)])) S.here B.x rfl (B.d at_87) rfl (l' := #[.val (.long q0), .second, .val (.long q1), .second, .val (.long q2), .second, .val (.int p3), .val (.int p4), .val (.long v1), .second, .val (.long v2), .second, .val (.long v3), .second, .val (.long v4), .second, .val (.long q0), .second, .unset, .unset, .unset, .unset, .unset, .unset, .unset, .unset, .unset, .unset, .unset, .unset, .unset, .unset, .unset, .unset, .unset, .unset, .unset, .unset, .unset, .unset, .unset, .unset, .unset]) rfl) ?_
      show Goes _ _ _ _ T (mkF me_ 89 #[.val (.long q0), .second, .val (.long q1), .second, .val (.long q2), .second, .val (.int p3), .val (.int p4), .val (.long v1), .second, .val (.long v2), .second, .val (.long v3), .second, .val (.long v4), .second, .val (.long q0), .second, .unset, .unset, .unset, .unset, .unset, .unset, .unset, .unset, .unset, .unset, .unset, .unset, .unset, .unset, .unset, .unset, .unset, .unset, .unset, .unset, .unset, .unset, .unset, .unset, .unset] [])
      refine Goes.go (fun _ => XS.lloadN S.here B.x rfl (B.d at_89) rfl) ?_
      show Goes _ _ _ _ T (mkF me_ 90 #[.val (.long q0), .second, .val (.long q1), .second, .val (.long q2), .second, .val (.int p3), .val (.int p4), .val (.long v1), .second, .val (.long v2), .second, .val (.long v3), .second, .val (.long v4), .second, .val (.long q0), .second, .unset, .unset, .unset, .unset, .unset, .unset, .unset, .unset, .unset, .unset, .unset, .unset, .unset, .unset, .unset, .unset, .unset, .unset, .unset, .unset, .unset, .unset, .unset, .unset, .unset] [(.long q0)])
      refine Goes.go (fun _ => XS.lstore (g := (mkF me_ 90 #[.val (.long q0), .second, .val (.long q1), .second, .val (.long q2), .second, .val (.int p3), .val (.int p4), .val (.long v1), .second, .val (.long v2), .second, .val (.long v3), .second, .val (.long v4), .second, .val (.long q0), .second, .unset, .unset, .unset, .unset, .unset, .unset, .unset, .unset, .unset, .unset, .unset, .unset, .unset, .unset, .unset, .unset, .unset, .unset, .unset, .unset, .unset, .unset, .unset, .unset, .unset] [(.long q0)])) S.here B.x rfl (B.d at_90) rfl (l' := #[.val (.long q0), .second, .val (.long q1), .second, .val (.long q2), .second, .val (.int p3), .val (.int p4), .val (.long v1), .second, .val (.long v2), .second, .val (.long v3), .second, .val (.long v4), .second, .val (.long q0), .second, .val (.long q0), .second, .unset, .unset, .unset, .unset, .unset, .unset, .unset, .unset, .unset, .unset, .unset, .unset, .unset, .unset, .unset, .unset, .unset, .unset, .unset, .unset, .unset, .unset, .unset]) rfl) ?_
      show Goes _ _ _ _ T (mkF me_ 92 #[.val (.long q0), .second, .val (.long q1), .second, .val (.long q2), .second, .val (.int p3), .val (.int p4), .val (.long v1), .second, .val (.long v2), .second, .val (.long v3), .second, .val (.long v4), .second, .val (.long q0), .second, .val (.long q0), .second, .unset, .unset, .unset, .unset, .unset, .unset, .unset, .unset, .unset, .unset, .unset, .unset, .unset, .unset, .unset, .unset, .unset, .unset, .unset, .unset, .unset, .unset, .unset] [])
      refine Goes.go (fun _ => XS.lconst S.here B.x rfl (B.d at_92)) ?_
      show Goes _ _ _ _ T (mkF me_ 93 #[.val (.long q0), .second, .val (.long q1), .second, .val (.long q2), .second, .val (.int p3), .val (.int p4), .val (.long v1), .second, .val (.long v2), .second, .val (.long v3), .second, .val (.long v4), .second, .val (.long q0), .second, .val (.long q0), .second, .unset, .unset, .unset, .unset, .unset, .unset, .unset, .unset, .unset, .unset, .unset, .unset, .unset, .unset, .unset, .unset, .unset, .unset, .unset, .unset, .unset, .unset, .unset] [(.long (0 : Int64))])
      refine Goes.go (fun _ => XS.lstore (g := (mkF me_ 93 #[.val (.long q0), .second, .val (.long q1), .second, .val (.long q2), .second, .val (.int p3), .val (.int p4), .val (.long v1), .second, .val (.long v2), .second, .val (.long v3), .second, .val (.long v4), .second, .val (.long q0), .second, .val (.long q0), .second, .unset, .unset, .unset, .unset, .unset, .unset, .unset, .unset, .unset, .unset, .unset, .unset, .unset, .unset, .unset, .unset, .unset, .unset, .unset, .unset, .unset, .unset, .unset] [(.long (0 : Int64))])) S.here B.x rfl (B.d at_93) rfl (l' := #[.val (.long q0), .second, .val (.long q1), .second, .val (.long q2), .second, .val (.int p3), .val (.int p4), .val (.long v1), .second, .val (.long v2), .second, .val (.long v3), .second, .val (.long v4), .second, .val (.long q0), .second, .val (.long q0), .second, .val (.long (0 : Int64)), .second, .unset, .unset, .unset, .unset, .unset, .unset, .unset, .unset, .unset, .unset, .unset, .unset, .unset, .unset, .unset, .unset, .unset, .unset, .unset, .unset, .unset]) rfl) ?_
      show Goes _ _ _ _ T (mkF me_ 95 #[.val (.long q0), .second, .val (.long q1), .second, .val (.long q2), .second, .val (.int p3), .val (.int p4), .val (.long v1), .second, .val (.long v2), .second, .val (.long v3), .second, .val (.long v4), .second, .val (.long q0), .second, .val (.long q0), .second, .val (.long (0 : Int64)), .second, .unset, .unset, .unset, .unset, .unset, .unset, .unset, .unset, .unset, .unset, .unset, .unset, .unset, .unset, .unset, .unset, .unset, .unset, .unset, .unset, .unset] [])
      refine Goes.go (fun _ => XS.lload S.here B.x rfl (B.d at_95) rfl) ?_
      show Goes _ _ _ _ T (mkF me_ 97 #[.val (.long q0), .second, .val (.long q1), .second, .val (.long q2), .second, .val (.int p3), .val (.int p4), .val (.long v1), .second, .val (.long v2), .second, .val (.long v3), .second, .val (.long v4), .second, .val (.long q0), .second, .val (.long q0), .second, .val (.long (0 : Int64)), .second, .unset, .unset, .unset, .unset, .unset, .unset, .unset, .unset, .unset, .unset, .unset, .unset, .unset, .unset, .unset, .unset, .unset, .unset, .unset, .unset, .unset] [(.long v1)])
      refine Goes.go (fun _ => XS.lload S.here B.x rfl (B.d at_97) rfl) ?_
      show Goes _ _ _ _ T (mkF me_ 99 #[.val (.long q0), .second, .val (.long q1), .second, .val (.long q2), .second, .val (.int p3), .val (.int p4), .val (.long v1), .second, .val (.long v2), .second, .val (.long v3), .second, .val (.long v4), .second, .val (.long q0), .second, .val (.long q0), .second, .val (.long (0 : Int64)), .second, .unset, .unset, .unset, .unset, .unset, .unset, .unset, .unset, .unset, .unset, .unset, .unset, .unset, .unset, .unset, .unset, .unset, .unset, .unset, .unset, .unset] [(.long v2), (.long v1)])
      refine Goes.go (fun _ => XS.ladd S.here B.x rfl (B.d at_99) rfl) ?_
      show Goes _ _ _ _ T (mkF me_ 100 #[.val (.long q0), .second, .val (.long q1), .second, .val (.long q2), .second, .val (.int p3), .val (.int p4), .val (.long v1), .second, .val (.long v2), .second, .val (.long v3), .second, .val (.long v4), .second, .val (.long q0), .second, .val (.long q0), .second, .val (.long (0 : Int64)), .second, .unset, .unset, .unset, .unset, .unset, .unset, .unset, .unset, .unset, .unset, .unset, .unset, .unset, .unset, .unset, .unset, .unset, .unset, .unset, .unset, .unset] [(.long (v1 + v2))])
      refine Goes.go (fun _ => XS.lstore (g := (mkF me_ 100 #[.val (.long q0), .second, .val (.long q1), .second, .val (.long q2), .second, .val (.int p3), .val (.int p4), .val (.long v1), .second, .val (.long v2), .second, .val (.long v3), .second, .val (.long v4), .second, .val (.long q0), .second, .val (.long q0), .second, .val (.long (0 : Int64)), .second, .unset, .unset, .unset, .unset, .unset, .unset, .unset, .unset, .unset, .unset, .unset, .unset, .unset, .unset, .unset, .unset, .unset, .unset, .unset, .unset, .unset] [(.long (v1 + v2))])) S.here B.x rfl (B.d at_100) rfl (l' := #[.val (.long q0), .second, .val (.long q1), .second, .val (.long q2), .second, .val (.int p3), .val (.int p4), .val (.long v1), .second, .val (.long v2), .second, .val (.long v3), .second, .val (.long v4), .second, .val (.long q0), .second, .val (.long q0), .second, .val (.long (0 : Int64)), .second, .val (.long (v1 + v2)), .second, .unset, .unset, .unset, .unset, .unset, .unset, .unset, .unset, .unset, .unset, .unset, .unset, .unset, .unset, .unset, .unset, .unset, .unset, .unset]) rfl) ?_
      show Goes _ _ _ _ T (mkF me_ 102 #[.val (.long q0), .second, .val (.long q1), .second, .val (.long q2), .second, .val (.int p3), .val (.int p4), .val (.long v1), .second, .val (.long v2), .second, .val (.long v3), .second, .val (.long v4), .second, .val (.long q0), .second, .val (.long q0), .second, .val (.long (0 : Int64)), .second, .val (.long (v1 + v2)), .second, .unset, .unset, .unset, .unset, .unset, .unset, .unset, .unset, .unset, .unset, .unset, .unset, .unset, .unset, .unset, .unset, .unset, .unset, .unset] [])
      exact J5 T q0 q0 (0 : Int64) (v1 + v2) S (own_H3 hc43 hc66)
set_option maxRecDepth 65536 in
set_option maxHeartbeats 40000000 in
theorem comes_1 {Post : Tables → Env → Array Value → State → Outcome → State → Prop} (hpost : ∀ tb e args s v u, (limb_1_1.after args s (.returned v) u = true ∧ limb_1_2.after args s (.returned v) u = true ∧ True) → FrameEnd s (.returned v) u (Jvm.fieldLocs frame_1_writes args s ++ Jvm.arrayLocs frame_1_arrays args s ++ Jvm.staticLocs frame_1_statics s) 16 128 → Post tb e args s (.returned v) u) :
    ArmFor flags0 classFile x code maxLocals ret World_1 tables_1 room_1 Calls_1 rest_1 Pre_1 Post := by
  intro l hfl _ _ p e ha hc hk s m args below hf hA hF happ hP
  obtain ⟨hcalls, hrest, hpre⟩ := hP
  obtain ⟨-, -, -, hnamed, -, -, -, hat⟩ := (Spec.applies_iff hf).mp happ
  obtain ⟨hg, hn⟩ := and_e (Cond.before_iff.mp (show (Jvm.Cond.and given_1 narrow_1).before args s = true from hpre))
  obtain ⟨g0, k0⟩ := and_e hg
  obtain ⟨g1, k1⟩ := and_e k0
  obtain ⟨g2, k2⟩ := and_e k1
  obtain ⟨g3, k3⟩ := and_e k2
  obtain ⟨g4, k4⟩ := and_e k3
  have g5 := k4
  obtain ⟨w0, w1, w2, w3, w4, rfl⟩ : ∃ w0 w1 w2 w3 w4 : Value, args = #[w0, w1, w2, w3, w4] := by
    have hs : args.size = 5 := by simpa [Cond.value, given_1] using g0
    obtain ⟨L⟩ := args
    match L, hs with
    | [w0, w1, w2, w3, w4], _ => exact ⟨w0, w1, w2, w3, w4, rfl⟩
  have hw := fun d (hd : d ∈ tables_1) => atoms_spec (ws := Jvm.Cond.code x code maxLocals ret :: tables_1) hat d (List.mem_cons_of_mem _ hd)
  obtain ⟨i0, ei0⟩ := isL_v g1
  obtain rfl : w0 = (.long i0) := Option.some.inj ei0
  obtain ⟨i1, ei1⟩ := isL_v g2
  obtain rfl : w1 = (.long i1) := Option.some.inj ei1
  obtain ⟨i2, ei2⟩ := isL_v g3
  obtain rfl : w2 = (.long i2) := Option.some.inj ei2
  obtain ⟨i3, ei3⟩ := is_v g4
  obtain rfl : w3 = (.int i3) := Option.some.inj ei3
  obtain ⟨i4, ei4⟩ := is_v g5
  obtain rfl : w4 = (.int i4) := Option.some.inj ei4
  obtain ⟨n, o, h1, h2, h3, _, L, rfl, ⟨N, rfl⟩, hq⟩ := rm0 l s _ hw i0 i1 i2 i3 i4 s.heap s.heap.size (Nat.le_refl _) tables_1 p e ha hc hk s m _ below hf ((Spec.applies_iff_loose hf).mp happ).1 ⟨rfl, State.Warmed39.refl s, rfl⟩ trivial
  refine ⟨n, _, h1, h2, h3, hpost _ _ _ _ _ _ ⟨Cond.after_iff.mpr rfl, Cond.after_iff.mpr (eq_i res_at (Term.int_eval (1)) rfl), trivial⟩ ⟨hq.1, hq.2.1, (hq.2.2.sift fun y hy => Or.inr (N y hy)).mono (by decide) (by decide)⟩⟩
theorem main_1_1 : Claimed_1_1 := comes_1 fun _ _ _ _ _ _ h hF => ⟨h.1, hF⟩
theorem main_1_2 : Claimed_1_2 := comes_1 fun _ _ _ _ _ _ h hF => ⟨h.2.1, hF⟩
end Jvm.Pilot.@@N@@
namespace Jvm.Pilot.@@N@@
open Jvm Jvm.ClassFile Sem Op Lib Jvm.Free Jvm.Stand Jvm.Pilot.@@N@@.Jvm.D
/-! MADE BY PROGRAM (witnessworld.py) out of the Statement's table words and the real class files: 10 classes; the members and pool entries that the words name. The judged class is class 1, her method 1. -/
namespace start1
open Jvm.ClassFile
def u (s : String) : CpInfo := .utf8 (stringToUtf16 s)
/-- a pool by its gaps: so many unusable entries, then the entry; so many at the end -/
def gap : Nat → List CpInfo → List CpInfo
  | 0, r => r
  | n + 1, r => .unusable :: gap n r
def poolList (es : List (Nat × CpInfo)) (last : Nat) : List CpInfo := es.foldr (fun e r => gap e.1 (e.2 :: r)) (gap last [])
def pool (es : List (Nat × CpInfo)) (last : Nat) : Array CpInfo := ⟨poolList es last⟩
def fileOf (pool : Array CpInfo) (this : Nat) (attrs : Array Attribute := #[]) (ms : Array MethodInfo := #[]) (fl : Nat := 33) (sup : Nat := 0) (ifs : Array Nat := #[]) (fds : Array FieldInfo := #[]) : ClassFile where
  minorVersion := 0
  majorVersion := 65
  constantPool := pool
  accessFlags := fl
  thisClass := this
  superClass := sup
  interfaces := ifs
  fields := fds
  methods := ms
  attributes := attrs
def plain (name : String) (sup : Option ClassId) : Class where
  name := name
  kind := .ordinary
  loader := none
  accessFlags := 33
  super := sup
  interfaces := #[]
  cf := none
  fields := #[]
  methods := #[]
  instanceTypes := #[]
  staticTypes := #[]
  resolved := #[]
  callSites := []
  init := .initialized
  statics := none
  mirror := none

def pool0 : Array CpInfo := pool [(5, u "<init>"), (0, u "()V"), (1, .class_ 10), (1, u "java/lang/Object")] 113

def k0c0 : Code := { maxStack := 0, maxLocals := 1, code := object_method_1_code, exceptionTable := #[], attributes := #[] }
def k0m0 : Method := { name := "<init>", desc := "()V", sig := { parameters := [], returnType := none }, accessFlags := 1, code := some k0c0 }
/-- java/lang/Object -/
def k0 : Class := { plain "java/lang/Object" none with
  accessFlags := 33
  interfaces := #[]
  cf := some (fileOf pool0 8 #[] #[{ accessFlags := 1, nameIndex := 5, descriptorIndex := 6, attributes := #[] }] 33 0 #[] #[])
  fields := #[]
  methods := #[k0m0]
  instanceTypes := #[]
  staticTypes := #[]
  resolved := Array.replicate 124 none
  statics := none }

def pool1 : Array CpInfo := pool [(2, .class_ 4), (1, u "java/lang/Object"), (0, u "<init>"), (0, u "()V"), (0, .methodref 8 9), (0, .class_ 10), (0, .nameAndType 11 12), (0, u "java/lang/Math"), (0, u "max"), (0, u "(JJ)J"), (0, .integer 2147483647), (0, .class_ 15), (0, u "com/example/bucket_brigade/bucketbrigade/PermitLog"), (0, .methodref 14 17), (0, .nameAndType 5 18), (0, u "(J)V"), (0, .methodref 14 20), (0, .nameAndType 21 22), (0, u "add"), (0, u "(JJ)V"), (0, .methodref 14 24), (0, .nameAndType 25 18), (0, u "keepNewest"), (0, .methodref 14 27), (0, .nameAndType 28 29), (0, u "newest"), (0, u "(J)J"), (0, .methodref 31 32), (0, .class_ 33), (0, .nameAndType 34 35), (0, u "com/example/bucket_brigade/bucketbrigade/PermitLogNewestPinLaw"), (0, u "atOrAfter"), (0, u "(JJJJJJJ)J"), (0, .methodref 31 37), (0, .nameAndType 38 35), (0, u "after"), (2, u "law"), (0, u "(JJJII)Z")] 3

def k1m0 : Method := { name := "<init>", desc := "()V", sig := { parameters := [], returnType := none }, accessFlags := 1, code := none }
def k1c1 : Code := { maxStack := 14, maxLocals := 43, code := code, exceptionTable := #[], attributes := #[] }
def k1m1 : Method := { name := "law", desc := "(JJJII)Z", sig := { parameters := [.long, .long, .long, .int, .int], returnType := some .boolean }, accessFlags := 9, code := some k1c1 }
def k1c2 : Code := { maxStack := 4, maxLocals := 16, code := method_3_code, exceptionTable := #[], attributes := #[] }
def k1m2 : Method := { name := "atOrAfter", desc := "(JJJJJJJ)J", sig := { parameters := [.long, .long, .long, .long, .long, .long, .long], returnType := some .long }, accessFlags := 10, code := some k1c2 }
def k1c3 : Code := { maxStack := 4, maxLocals := 16, code := method_4_code, exceptionTable := #[], attributes := #[] }
def k1m3 : Method := { name := "after", desc := "(JJJJJJJ)J", sig := { parameters := [.long, .long, .long, .long, .long, .long, .long], returnType := some .long }, accessFlags := 10, code := some k1c3 }
/-- com/example/bucket_brigade/bucketbrigade/PermitLogNewestPinLaw -/
def k1 : Class := { plain "com/example/bucket_brigade/bucketbrigade/PermitLogNewestPinLaw" (some 0) with
  accessFlags := 49
  interfaces := #[]
  cf := some (fileOf pool1 31 #[] #[{ accessFlags := 1, nameIndex := 5, descriptorIndex := 6, attributes := #[] }, { accessFlags := 9, nameIndex := 41, descriptorIndex := 42, attributes := #[] }, { accessFlags := 10, nameIndex := 34, descriptorIndex := 35, attributes := #[] }, { accessFlags := 10, nameIndex := 38, descriptorIndex := 35, attributes := #[] }] 49 2 #[] #[])
  fields := #[]
  methods := #[k1m0, k1m1, k1m2, k1m3]
  instanceTypes := #[]
  staticTypes := #[]
  resolved := Array.replicate 46 none
  statics := none }

def pool2 : Array CpInfo := pool [(1, .class_ 2), (0, u "java/lang/Math"), (1, .class_ 6), (1, u "java/lang/Object"), (0, u "<init>"), (0, u "()V"), (89, .class_ 100), (1, u "java/lang/Math$RandomNumberGeneratorHolder"), (20, u "(JJ)J"), (50, u "negativeZeroFloatBits"), (0, u "J"), (2, u "negativeZeroDoubleBits"), (21, u "max"), (46, u "$assertionsDisabled"), (0, u "Z"), (91, u "twoToTheDoubleScaleDown"), (0, u "D"), (4, u "twoToTheDoubleScaleUp"), (9, u "E"), (3, u "PI"), (2, u "TAU"), (2, u "DEGREES_TO_RADIANS"), (0, u "RADIANS_TO_DEGREES")] 94

def k2m0 : Method := { name := "<init>", desc := "()V", sig := { parameters := [], returnType := none }, accessFlags := 2, code := none }
def k2c1 : Code := { maxStack := 4, maxLocals := 4, code := jdk_29_method_66_code, exceptionTable := #[], attributes := #[] }
def k2m1 : Method := { name := "max", desc := "(JJ)J", sig := { parameters := [.long, .long], returnType := some .long }, accessFlags := 9, code := some k2c1 }
/-- java/lang/Math -/
def k2 : Class := { plain "java/lang/Math" (some 0) with
  accessFlags := 49
  interfaces := #[]
  cf := some (fileOf pool2 1 #[.nestMembers #[98]] #[{ accessFlags := 2, nameIndex := 7, descriptorIndex := 8, attributes := #[] }, { accessFlags := 9, nameIndex := 198, descriptorIndex := 121, attributes := #[] }] 49 4 #[] #[{ accessFlags := 25, nameIndex := 354, descriptorIndex := 339, attributes := #[] }, { accessFlags := 25, nameIndex := 358, descriptorIndex := 339, attributes := #[] }, { accessFlags := 25, nameIndex := 361, descriptorIndex := 339, attributes := #[] }, { accessFlags := 26, nameIndex := 364, descriptorIndex := 339, attributes := #[] }, { accessFlags := 26, nameIndex := 365, descriptorIndex := 339, attributes := #[] }, { accessFlags := 26, nameIndex := 172, descriptorIndex := 173, attributes := #[] }, { accessFlags := 26, nameIndex := 176, descriptorIndex := 173, attributes := #[] }, { accessFlags := 8, nameIndex := 344, descriptorIndex := 339, attributes := #[] }, { accessFlags := 8, nameIndex := 338, descriptorIndex := 339, attributes := #[] }, { accessFlags := 4120, nameIndex := 245, descriptorIndex := 246, attributes := #[] }])
  fields := #[{ name := "E", type := .double, accessFlags := 25, slot := 0, constantValue := 0 }, { name := "PI", type := .double, accessFlags := 25, slot := 1, constantValue := 0 }, { name := "TAU", type := .double, accessFlags := 25, slot := 2, constantValue := 0 }, { name := "DEGREES_TO_RADIANS", type := .double, accessFlags := 26, slot := 3, constantValue := 0 }, { name := "RADIANS_TO_DEGREES", type := .double, accessFlags := 26, slot := 4, constantValue := 0 }, { name := "negativeZeroFloatBits", type := .long, accessFlags := 26, slot := 5, constantValue := 0 }, { name := "negativeZeroDoubleBits", type := .long, accessFlags := 26, slot := 6, constantValue := 0 }, { name := "twoToTheDoubleScaleUp", type := .double, accessFlags := 8, slot := 7, constantValue := 0 }, { name := "twoToTheDoubleScaleDown", type := .double, accessFlags := 8, slot := 8, constantValue := 0 }, { name := "$assertionsDisabled", type := .boolean, accessFlags := 4120, slot := 9, constantValue := 0 }]
  methods := #[k2m0, k2m1]
  instanceTypes := #[]
  staticTypes := #[.double, .double, .double, .double, .double, .long, .long, .double, .double, .boolean]
  resolved := Array.replicate 460 none
  statics := none }

def pool3 : Array CpInfo := pool [(1, .methodref 2 3), (0, .class_ 4), (0, .nameAndType 5 6), (0, u "java/lang/Object"), (0, u "<init>"), (0, u "()V"), (0, .class_ 8), (0, u "com/example/bucket_brigade/bucketbrigade/PermitLog"), (0, .fieldref 7 10), (0, .nameAndType 11 12), (0, u "instants"), (0, u "[J"), (0, .fieldref 7 14), (0, .nameAndType 15 12), (0, u "lastNumbers"), (0, .fieldref 7 17), (0, .nameAndType 18 19), (0, u "completeFrom"), (0, u "J"), (0, .fieldref 7 21), (0, .nameAndType 22 23), (0, u "size"), (0, u "I"), (0, .methodref 7 25), (0, .nameAndType 26 27), (0, u "lastNumber"), (0, u "(I)J"), (0, .fieldref 7 29), (0, .nameAndType 30 19), (0, u "dropped"), (0, .methodref 7 32), (0, .nameAndType 33 27), (0, u "instant"), (3, u "(J)I"), (0, .methodref 7 39), (0, .nameAndType 40 37), (0, u "firstAtOrAfter"), (0, .methodref 7 42), (0, .nameAndType 43 27), (0, u "numberBefore"), (0, .methodref 7 45), (0, .nameAndType 46 47), (0, u "insert"), (0, u "(IJJ)V"), (0, .methodref 7 49), (0, .nameAndType 50 51), (0, u "slot"), (0, u "(I)I"), (0, .methodref 7 53), (0, .nameAndType 54 55), (0, u "permits"), (0, u "()J"), (0, .methodref 7 57), (0, .nameAndType 58 6), (0, u "dropOldest"), (0, .fieldref 7 60), (0, .nameAndType 61 23), (0, u "first"), (7, u "FIRST_CAPACITY"), (2, u "(J)V"), (5, u "newest"), (0, u "(J)J"), (2, u "add"), (0, u "(JJ)V"), (0, u "keepNewest")] 4

def k3c0 : Code := { maxStack := 3, maxLocals := 3, code := prog_25_method_1_code, exceptionTable := #[], attributes := #[] }
def k3m0 : Method := { name := "<init>", desc := "(J)V", sig := { parameters := [.long], returnType := none }, accessFlags := 0, code := some k3c0 }
def k3c1 : Code := { maxStack := 4, maxLocals := 1, code := prog_25_method_4_code, exceptionTable := #[], attributes := #[] }
def k3m1 : Method := { name := "permits", desc := "()J", sig := { parameters := [], returnType := some .long }, accessFlags := 0, code := some k3c1 }
def k3c2 : Code := { maxStack := 4, maxLocals := 8, code := prog_25_method_7_code, exceptionTable := #[], attributes := #[] }
def k3m2 : Method := { name := "newest", desc := "(J)J", sig := { parameters := [.long], returnType := some .long }, accessFlags := 0, code := some k3c2 }
def k3c3 : Code := { maxStack := 6, maxLocals := 7, code := prog_25_method_9_code, exceptionTable := #[], attributes := #[] }
def k3m3 : Method := { name := "add", desc := "(JJ)V", sig := { parameters := [.long, .long], returnType := none }, accessFlags := 0, code := some k3c3 }
def k3c4 : Code := { maxStack := 5, maxLocals := 7, code := prog_25_method_10_code, exceptionTable := #[], attributes := #[] }
def k3m4 : Method := { name := "keepNewest", desc := "(J)V", sig := { parameters := [.long], returnType := none }, accessFlags := 0, code := some k3c4 }
def k3c5 : Code := { maxStack := 3, maxLocals := 1, code := prog_25_method_12_code, exceptionTable := #[], attributes := #[] }
def k3m5 : Method := { name := "dropOldest", desc := "()V", sig := { parameters := [], returnType := none }, accessFlags := 2, code := some k3c5 }
def k3c6 : Code := { maxStack := 6, maxLocals := 7, code := prog_25_method_13_code, exceptionTable := #[], attributes := #[] }
def k3m6 : Method := { name := "insert", desc := "(IJJ)V", sig := { parameters := [.int, .long, .long], returnType := none }, accessFlags := 2, code := some k3c6 }
def k3c7 : Code := { maxStack := 4, maxLocals := 6, code := prog_25_method_16_code, exceptionTable := #[], attributes := #[] }
def k3m7 : Method := { name := "firstAtOrAfter", desc := "(J)I", sig := { parameters := [.long], returnType := some .int }, accessFlags := 2, code := some k3c7 }
def k3c8 : Code := { maxStack := 3, maxLocals := 2, code := prog_25_method_17_code, exceptionTable := #[], attributes := #[] }
def k3m8 : Method := { name := "numberBefore", desc := "(I)J", sig := { parameters := [.int], returnType := some .long }, accessFlags := 2, code := some k3c8 }
def k3c9 : Code := { maxStack := 3, maxLocals := 2, code := prog_25_method_18_code, exceptionTable := #[], attributes := #[] }
def k3m9 : Method := { name := "instant", desc := "(I)J", sig := { parameters := [.int], returnType := some .long }, accessFlags := 2, code := some k3c9 }
def k3c10 : Code := { maxStack := 3, maxLocals := 2, code := prog_25_method_19_code, exceptionTable := #[], attributes := #[] }
def k3m10 : Method := { name := "lastNumber", desc := "(I)J", sig := { parameters := [.int], returnType := some .long }, accessFlags := 2, code := some k3c10 }
def k3c11 : Code := { maxStack := 3, maxLocals := 2, code := prog_25_method_20_code, exceptionTable := #[], attributes := #[] }
def k3m11 : Method := { name := "slot", desc := "(I)I", sig := { parameters := [.int], returnType := some .int }, accessFlags := 2, code := some k3c11 }
/-- com/example/bucket_brigade/bucketbrigade/PermitLog -/
def k3 : Class := { plain "com/example/bucket_brigade/bucketbrigade/PermitLog" (some 0) with
  accessFlags := 48
  interfaces := #[]
  cf := some (fileOf pool3 7 #[] #[{ accessFlags := 0, nameIndex := 5, descriptorIndex := 72, attributes := #[] }, { accessFlags := 0, nameIndex := 54, descriptorIndex := 55, attributes := #[] }, { accessFlags := 0, nameIndex := 78, descriptorIndex := 79, attributes := #[] }, { accessFlags := 0, nameIndex := 82, descriptorIndex := 83, attributes := #[] }, { accessFlags := 0, nameIndex := 84, descriptorIndex := 72, attributes := #[] }, { accessFlags := 2, nameIndex := 58, descriptorIndex := 6, attributes := #[] }, { accessFlags := 2, nameIndex := 46, descriptorIndex := 47, attributes := #[] }, { accessFlags := 2, nameIndex := 40, descriptorIndex := 37, attributes := #[] }, { accessFlags := 2, nameIndex := 43, descriptorIndex := 27, attributes := #[] }, { accessFlags := 2, nameIndex := 33, descriptorIndex := 27, attributes := #[] }, { accessFlags := 2, nameIndex := 26, descriptorIndex := 27, attributes := #[] }, { accessFlags := 2, nameIndex := 50, descriptorIndex := 51, attributes := #[] }] 48 2 #[] #[{ accessFlags := 26, nameIndex := 69, descriptorIndex := 23, attributes := #[] }, { accessFlags := 18, nameIndex := 18, descriptorIndex := 19, attributes := #[] }, { accessFlags := 2, nameIndex := 11, descriptorIndex := 12, attributes := #[] }, { accessFlags := 2, nameIndex := 15, descriptorIndex := 12, attributes := #[] }, { accessFlags := 2, nameIndex := 61, descriptorIndex := 23, attributes := #[] }, { accessFlags := 2, nameIndex := 22, descriptorIndex := 23, attributes := #[] }, { accessFlags := 2, nameIndex := 30, descriptorIndex := 19, attributes := #[] }])
  fields := #[{ name := "FIRST_CAPACITY", type := .int, accessFlags := 26, slot := 0, constantValue := 0 }, { name := "completeFrom", type := .long, accessFlags := 18, slot := 0, constantValue := 0 }, { name := "instants", type := (.array .long), accessFlags := 2, slot := 1, constantValue := 0 }, { name := "lastNumbers", type := (.array .long), accessFlags := 2, slot := 2, constantValue := 0 }, { name := "first", type := .int, accessFlags := 2, slot := 3, constantValue := 0 }, { name := "size", type := .int, accessFlags := 2, slot := 4, constantValue := 0 }, { name := "dropped", type := .long, accessFlags := 2, slot := 5, constantValue := 0 }]
  methods := #[k3m0, k3m1, k3m2, k3m3, k3m4, k3m5, k3m6, k3m7, k3m8, k3m9, k3m10, k3m11]
  instanceTypes := #[.long, (.array .long), (.array .long), .int, .int, .long]
  staticTypes := #[.int]
  resolved := Array.replicate 89 none
  statics := none }

def pool4 : Array CpInfo := pool [(1, u "java/lang/Cloneable"), (0, .class_ 1), (0, u "java/lang/Object"), (0, .class_ 3)] 3

/-- java/lang/Cloneable -/
def k4 : Class := { plain "java/lang/Cloneable" (some 0) with
  accessFlags := 1537
  interfaces := #[]
  cf := some (fileOf pool4 2 #[] #[] 1537 4 #[] #[])
  fields := #[]
  methods := #[]
  instanceTypes := #[]
  staticTypes := #[]
  resolved := Array.replicate 8 none
  statics := none }

def pool5 : Array CpInfo := pool [(1, u "java/io/Serializable"), (0, .class_ 1), (0, u "java/lang/Object"), (0, .class_ 3)] 3

/-- java/io/Serializable -/
def k5 : Class := { plain "java/io/Serializable" (some 0) with
  accessFlags := 1537
  interfaces := #[]
  cf := some (fileOf pool5 2 #[] #[] 1537 4 #[] #[])
  fields := #[]
  methods := #[]
  instanceTypes := #[]
  staticTypes := #[]
  resolved := Array.replicate 8 none
  statics := none }

/-- the primitive byte -/
def k6 : Class := { plain "byte" none with kind := .primitive 'B', accessFlags := 0x411 }
/-- [B -/
def k7 : Class := { plain "[B" (some 0) with kind := .array 6 .byte, interfaces := #[4, 5], accessFlags := 1041 }

/-- the primitive long -/
def k8 : Class := { plain "long" none with kind := .primitive 'J', accessFlags := 0x411 }
/-- [J -/
def k9 : Class := { plain "[J" (some 0) with kind := .array 8 .long, interfaces := #[4, 5], accessFlags := 1041 }

def heap : Heap := #[]
def classes : Array Class := #[k0, k1, k2, k3, k4, k5, k6, k7, k8, k9]
def interned : List (Array UInt16 × Addr) := []
def slotsUsed : Nat := 0
def theMethod : MethodId := ⟨1, 1⟩
def args0 : Array Value := #[.long 5, .long 7, .long 6, .int 1234, .int 3]
def aboutOver (below : List Frame) : State where
  vm := { classes := classes, interned := interned.toArray }
  heap := heap
  slotsUsed := slotsUsed
  threads := #[{ frames := .invoking theMethod args0 :: below }]
def below0 : List Frame := [.native { method := ⟨0, 0⟩, args := #[] }]
def about1 : State := aboutOver below0
def p0 : Program := .bare "" "" ""
def e0 : Env := launch0.env 0 0 0
theorem w_frames : about1.frames = Frame.invoking theMethod args0 :: below0 := rfl
set_option maxRecDepth 65536 in
theorem w_args : argsFit about1.vm theMethod args0 = true := by decide +kernel
set_option maxRecDepth 65536 in
theorem w_heap : heapFits about1 = true := by decide +kernel
set_option maxRecDepth 65536 in
theorem w_runnable : about1.curStatus? = some .runnable := by decide +kernel
set_option maxRecDepth 65536 in
theorem w_alone : about1.alone = true := by decide +kernel
set_option maxRecDepth 65536 in
theorem w_named : about1.methodNamed? x = some theMethod := by decide +kernel
set_option maxRecDepth 65536 in
theorem w_hears : about1.hears theMethod below0 = true := by decide +kernel
set_option maxRecDepth 65536 in
theorem w_ripe : about1.ripe theMethod args0 below0 = true := by decide +kernel
theorem w_running : about1.status = .running := rfl
set_option maxRecDepth 65536 in
theorem w_room : about1.hasRoom e0.platform room_1 = true :=
  launch0.hasRoom_least _ room_1 (by decide +kernel) (by decide +kernel) (by decide +kernel) (by decide +kernel) (by decide +kernel) (by decide +kernel)
theorem allAtoms_all (ts : List Jvm.Cond) (a : Array Jvm.Value) (st : Jvm.State) : (allAtoms ts).before a st = ts.all (fun c => c.before a st) := by
  induction ts with
  | nil => rfl
  | cons c t ih =>
    show (Jvm.Cond.and c (allAtoms t)).before a st = _
    rw [Jvm.Cond.before_and, ih, List.all_cons]
def words1 : List Jvm.Cond := Jvm.Cond.code x code maxLocals ret :: tables_1
/-- a 'code' word, met by the world's own term for the bytes: nothing is compared byte by byte -/
theorem code_word {y : MethodName} {bytes : ByteArray} {mx : Nat} {rt : Option FieldType} {a : Array Value} {s : State} {m : MethodId} {meth : Method} {c : Code} (h1 : s.methodNamed? y = some m) (h2 : s.vm.method? m = some meth) (h3 : meth.code = some c) (h4 : c.code = bytes)
    (h5 : (c.maxLocals == mx && c.exceptionTable.isEmpty && decide (c.maxStack ≤ mostOperands) && decide (meth.sig.returnType = rt) && !meth.locks && decide (parseMethodDescriptor y.desc = some meth.sig)) = true) : (Jvm.Cond.code y bytes mx rt).before a s = true := by
  simp only [Bool.and_eq_true, beq_iff_eq, Bool.not_eq_true', decide_eq_true_eq] at h5
  obtain ⟨⟨⟨⟨⟨g1, g2⟩, g3⟩, g4⟩, g5⟩, g6⟩ := h5
  simp [Cond.before, Cond.holds, Cond.value, h1, h2, h3, h4, g1, g2, g3, g4, g5, g6]
def isCode : Jvm.Cond → Bool
  | .code _ _ _ _ => true
  | _ => false
theorem all_split {L : List Jvm.Cond} {P : Jvm.Cond → Bool} (h1 : L.all (fun c => isCode c || P c) = true) (h2 : ∀ c ∈ L.filter isCode, P c = true) : L.all P = true := by
  refine List.all_eq_true.mpr fun c hc => ?_
  have h := List.all_eq_true.mp h1 c hc
  rcases Bool.eq_false_or_eq_true (isCode c) with hi | hi
  · exact h2 c (List.mem_filter.mpr ⟨hc, hi⟩)
  · simpa [hi] using h
set_option maxRecDepth 65536 in
theorem w_c0 : (Jvm.Cond.code x code maxLocals ret).before args0 about1 = true := code_word (m := ⟨1, 1⟩) (meth := k1m1) (c := k1c1) (by decide +kernel) rfl rfl rfl (by decide +kernel)
set_option maxRecDepth 65536 in
theorem w_c1 : (Jvm.Cond.code ({ cls := "java/lang/Math", name := "max", desc := "(JJ)J" } : Jvm.MethodName) jdk_29_method_66_code (4 : Nat) (Option.some Jvm.ClassFile.FieldType.long)).before args0 about1 = true := code_word (m := ⟨2, 1⟩) (meth := k2m1) (c := k2c1) (by decide +kernel) rfl rfl rfl (by decide +kernel)
set_option maxRecDepth 65536 in
theorem w_c2 : (Jvm.Cond.code ({ cls := "com/example/bucket_brigade/bucketbrigade/PermitLog", name := "<init>", desc := "(J)V" } : Jvm.MethodName) prog_25_method_1_code (3 : Nat) (Option.none : Option Jvm.ClassFile.FieldType)).before args0 about1 = true := code_word (m := ⟨3, 0⟩) (meth := k3m0) (c := k3c0) (by decide +kernel) rfl rfl rfl (by decide +kernel)
set_option maxRecDepth 65536 in
theorem w_c3 : (Jvm.Cond.code ({ cls := "java/lang/Object", name := "<init>", desc := "()V" } : Jvm.MethodName) object_method_1_code (1 : Nat) (Option.none : Option Jvm.ClassFile.FieldType)).before args0 about1 = true := code_word (m := ⟨0, 0⟩) (meth := k0m0) (c := k0c0) (by decide +kernel) rfl rfl rfl (by decide +kernel)
set_option maxRecDepth 65536 in
theorem w_c4 : (Jvm.Cond.code ({ cls := "com/example/bucket_brigade/bucketbrigade/PermitLog", name := "add", desc := "(JJ)V" } : Jvm.MethodName) prog_25_method_9_code (7 : Nat) (Option.none : Option Jvm.ClassFile.FieldType)).before args0 about1 = true := code_word (m := ⟨3, 3⟩) (meth := k3m3) (c := k3c3) (by decide +kernel) rfl rfl rfl (by decide +kernel)
set_option maxRecDepth 65536 in
theorem w_c5 : (Jvm.Cond.code ({ cls := "com/example/bucket_brigade/bucketbrigade/PermitLog", name := "firstAtOrAfter", desc := "(J)I" } : Jvm.MethodName) prog_25_method_16_code (6 : Nat) (Option.some Jvm.ClassFile.FieldType.int)).before args0 about1 = true := code_word (m := ⟨3, 7⟩) (meth := k3m7) (c := k3c7) (by decide +kernel) rfl rfl rfl (by decide +kernel)
set_option maxRecDepth 65536 in
theorem w_c6 : (Jvm.Cond.code ({ cls := "com/example/bucket_brigade/bucketbrigade/PermitLog", name := "numberBefore", desc := "(I)J" } : Jvm.MethodName) prog_25_method_17_code (2 : Nat) (Option.some Jvm.ClassFile.FieldType.long)).before args0 about1 = true := code_word (m := ⟨3, 8⟩) (meth := k3m8) (c := k3c8) (by decide +kernel) rfl rfl rfl (by decide +kernel)
set_option maxRecDepth 65536 in
theorem w_c7 : (Jvm.Cond.code ({ cls := "com/example/bucket_brigade/bucketbrigade/PermitLog", name := "insert", desc := "(IJJ)V" } : Jvm.MethodName) prog_25_method_13_code (7 : Nat) (Option.none : Option Jvm.ClassFile.FieldType)).before args0 about1 = true := code_word (m := ⟨3, 6⟩) (meth := k3m6) (c := k3c6) (by decide +kernel) rfl rfl rfl (by decide +kernel)
set_option maxRecDepth 65536 in
theorem w_c8 : (Jvm.Cond.code ({ cls := "com/example/bucket_brigade/bucketbrigade/PermitLog", name := "slot", desc := "(I)I" } : Jvm.MethodName) prog_25_method_20_code (2 : Nat) (Option.some Jvm.ClassFile.FieldType.int)).before args0 about1 = true := code_word (m := ⟨3, 11⟩) (meth := k3m11) (c := k3c11) (by decide +kernel) rfl rfl rfl (by decide +kernel)
set_option maxRecDepth 65536 in
theorem w_c9 : (Jvm.Cond.code ({ cls := "com/example/bucket_brigade/bucketbrigade/PermitLog", name := "instant", desc := "(I)J" } : Jvm.MethodName) prog_25_method_18_code (2 : Nat) (Option.some Jvm.ClassFile.FieldType.long)).before args0 about1 = true := code_word (m := ⟨3, 9⟩) (meth := k3m9) (c := k3c9) (by decide +kernel) rfl rfl rfl (by decide +kernel)
set_option maxRecDepth 65536 in
theorem w_c10 : (Jvm.Cond.code ({ cls := "com/example/bucket_brigade/bucketbrigade/PermitLog", name := "keepNewest", desc := "(J)V" } : Jvm.MethodName) prog_25_method_10_code (7 : Nat) (Option.none : Option Jvm.ClassFile.FieldType)).before args0 about1 = true := code_word (m := ⟨3, 4⟩) (meth := k3m4) (c := k3c4) (by decide +kernel) rfl rfl rfl (by decide +kernel)
set_option maxRecDepth 65536 in
theorem w_c11 : (Jvm.Cond.code ({ cls := "com/example/bucket_brigade/bucketbrigade/PermitLog", name := "permits", desc := "()J" } : Jvm.MethodName) prog_25_method_4_code (1 : Nat) (Option.some Jvm.ClassFile.FieldType.long)).before args0 about1 = true := code_word (m := ⟨3, 1⟩) (meth := k3m1) (c := k3c1) (by decide +kernel) rfl rfl rfl (by decide +kernel)
set_option maxRecDepth 65536 in
theorem w_c12 : (Jvm.Cond.code ({ cls := "com/example/bucket_brigade/bucketbrigade/PermitLog", name := "lastNumber", desc := "(I)J" } : Jvm.MethodName) prog_25_method_19_code (2 : Nat) (Option.some Jvm.ClassFile.FieldType.long)).before args0 about1 = true := code_word (m := ⟨3, 10⟩) (meth := k3m10) (c := k3c10) (by decide +kernel) rfl rfl rfl (by decide +kernel)
set_option maxRecDepth 65536 in
theorem w_c13 : (Jvm.Cond.code ({ cls := "com/example/bucket_brigade/bucketbrigade/PermitLog", name := "dropOldest", desc := "()V" } : Jvm.MethodName) prog_25_method_12_code (1 : Nat) (Option.none : Option Jvm.ClassFile.FieldType)).before args0 about1 = true := code_word (m := ⟨3, 5⟩) (meth := k3m5) (c := k3c5) (by decide +kernel) rfl rfl rfl (by decide +kernel)
set_option maxRecDepth 65536 in
theorem w_c14 : (Jvm.Cond.code ({ cls := "com/example/bucket_brigade/bucketbrigade/PermitLog", name := "newest", desc := "(J)J" } : Jvm.MethodName) prog_25_method_7_code (8 : Nat) (Option.some Jvm.ClassFile.FieldType.long)).before args0 about1 = true := code_word (m := ⟨3, 2⟩) (meth := k3m2) (c := k3c2) (by decide +kernel) rfl rfl rfl (by decide +kernel)
set_option maxRecDepth 65536 in
theorem w_c15 : (Jvm.Cond.code ({ cls := "com/example/bucket_brigade/bucketbrigade/PermitLogNewestPinLaw", name := "atOrAfter", desc := "(JJJJJJJ)J" } : Jvm.MethodName) method_3_code (16 : Nat) (Option.some Jvm.ClassFile.FieldType.long)).before args0 about1 = true := code_word (m := ⟨1, 2⟩) (meth := k1m2) (c := k1c2) (by decide +kernel) rfl rfl rfl (by decide +kernel)
set_option maxRecDepth 65536 in
theorem w_c16 : (Jvm.Cond.code ({ cls := "com/example/bucket_brigade/bucketbrigade/PermitLogNewestPinLaw", name := "after", desc := "(JJJJJJJ)J" } : Jvm.MethodName) method_4_code (16 : Nat) (Option.some Jvm.ClassFile.FieldType.long)).before args0 about1 = true := code_word (m := ⟨1, 3⟩) (meth := k1m3) (c := k1c3) (by decide +kernel) rfl rfl rfl (by decide +kernel)
def codes1 : List Jvm.Cond := [Jvm.Cond.code x code maxLocals ret, Jvm.Cond.code ({ cls := "java/lang/Math", name := "max", desc := "(JJ)J" } : Jvm.MethodName) jdk_29_method_66_code (4 : Nat) (Option.some Jvm.ClassFile.FieldType.long), Jvm.Cond.code ({ cls := "com/example/bucket_brigade/bucketbrigade/PermitLog", name := "<init>", desc := "(J)V" } : Jvm.MethodName) prog_25_method_1_code (3 : Nat) (Option.none : Option Jvm.ClassFile.FieldType), Jvm.Cond.code ({ cls := "java/lang/Object", name := "<init>", desc := "()V" } : Jvm.MethodName) object_method_1_code (1 : Nat) (Option.none : Option Jvm.ClassFile.FieldType), Jvm.Cond.code ({ cls := "com/example/bucket_brigade/bucketbrigade/PermitLog", name := "add", desc := "(JJ)V" } : Jvm.MethodName) prog_25_method_9_code (7 : Nat) (Option.none : Option Jvm.ClassFile.FieldType), Jvm.Cond.code ({ cls := "com/example/bucket_brigade/bucketbrigade/PermitLog", name := "firstAtOrAfter", desc := "(J)I" } : Jvm.MethodName) prog_25_method_16_code (6 : Nat) (Option.some Jvm.ClassFile.FieldType.int), Jvm.Cond.code ({ cls := "com/example/bucket_brigade/bucketbrigade/PermitLog", name := "numberBefore", desc := "(I)J" } : Jvm.MethodName) prog_25_method_17_code (2 : Nat) (Option.some Jvm.ClassFile.FieldType.long), Jvm.Cond.code ({ cls := "com/example/bucket_brigade/bucketbrigade/PermitLog", name := "insert", desc := "(IJJ)V" } : Jvm.MethodName) prog_25_method_13_code (7 : Nat) (Option.none : Option Jvm.ClassFile.FieldType), Jvm.Cond.code ({ cls := "com/example/bucket_brigade/bucketbrigade/PermitLog", name := "slot", desc := "(I)I" } : Jvm.MethodName) prog_25_method_20_code (2 : Nat) (Option.some Jvm.ClassFile.FieldType.int), Jvm.Cond.code ({ cls := "com/example/bucket_brigade/bucketbrigade/PermitLog", name := "instant", desc := "(I)J" } : Jvm.MethodName) prog_25_method_18_code (2 : Nat) (Option.some Jvm.ClassFile.FieldType.long), Jvm.Cond.code ({ cls := "com/example/bucket_brigade/bucketbrigade/PermitLog", name := "keepNewest", desc := "(J)V" } : Jvm.MethodName) prog_25_method_10_code (7 : Nat) (Option.none : Option Jvm.ClassFile.FieldType), Jvm.Cond.code ({ cls := "com/example/bucket_brigade/bucketbrigade/PermitLog", name := "permits", desc := "()J" } : Jvm.MethodName) prog_25_method_4_code (1 : Nat) (Option.some Jvm.ClassFile.FieldType.long), Jvm.Cond.code ({ cls := "com/example/bucket_brigade/bucketbrigade/PermitLog", name := "lastNumber", desc := "(I)J" } : Jvm.MethodName) prog_25_method_19_code (2 : Nat) (Option.some Jvm.ClassFile.FieldType.long), Jvm.Cond.code ({ cls := "com/example/bucket_brigade/bucketbrigade/PermitLog", name := "dropOldest", desc := "()V" } : Jvm.MethodName) prog_25_method_12_code (1 : Nat) (Option.none : Option Jvm.ClassFile.FieldType), Jvm.Cond.code ({ cls := "com/example/bucket_brigade/bucketbrigade/PermitLog", name := "newest", desc := "(J)J" } : Jvm.MethodName) prog_25_method_7_code (8 : Nat) (Option.some Jvm.ClassFile.FieldType.long), Jvm.Cond.code ({ cls := "com/example/bucket_brigade/bucketbrigade/PermitLogNewestPinLaw", name := "atOrAfter", desc := "(JJJJJJJ)J" } : Jvm.MethodName) method_3_code (16 : Nat) (Option.some Jvm.ClassFile.FieldType.long), Jvm.Cond.code ({ cls := "com/example/bucket_brigade/bucketbrigade/PermitLogNewestPinLaw", name := "after", desc := "(JJJJJJJ)J" } : Jvm.MethodName) method_4_code (16 : Nat) (Option.some Jvm.ClassFile.FieldType.long)]
set_option maxRecDepth 65536 in
theorem codes_eq : words1.filter isCode = codes1 := rfl
theorem w_codes : ∀ c ∈ words1.filter isCode, c.before args0 about1 = true := by
  rw [codes_eq]
  intro c hc
  simp only [codes1, List.mem_cons, List.not_mem_nil, or_false] at hc
  rcases hc with rfl | rfl | rfl | rfl | rfl | rfl | rfl | rfl | rfl | rfl | rfl | rfl | rfl | rfl | rfl | rfl | rfl
  · exact w_c0
  · exact w_c1
  · exact w_c2
  · exact w_c3
  · exact w_c4
  · exact w_c5
  · exact w_c6
  · exact w_c7
  · exact w_c8
  · exact w_c9
  · exact w_c10
  · exact w_c11
  · exact w_c12
  · exact w_c13
  · exact w_c14
  · exact w_c15
  · exact w_c16
set_option maxRecDepth 65536 in
theorem w_t1 : (words1.take 24).all (fun c => isCode c || c.before args0 about1) = true := by decide +kernel
set_option maxRecDepth 65536 in
theorem w_t2 : ((words1.drop 24).take 24).all (fun c => isCode c || c.before args0 about1) = true := by decide +kernel
set_option maxRecDepth 65536 in
theorem w_t3 : (((words1.drop 24).drop 24).take 24).all (fun c => isCode c || c.before args0 about1) = true := by decide +kernel
set_option maxRecDepth 65536 in
theorem w_t4 : (((words1.drop 24).drop 24).drop 24).all (fun c => isCode c || c.before args0 about1) = true := by decide +kernel
theorem w_tables : (allAtoms (Jvm.Cond.code x code maxLocals ret :: tables_1)).before args0 about1 = true := by
  rw [allAtoms_all]
  show words1.all (fun c => c.before args0 about1) = true
  refine all_split ?_ w_codes
  rw [← List.take_append_drop 24 words1, List.all_append, w_t1, ← List.take_append_drop 24 (words1.drop 24), List.all_append, w_t2, ← List.take_append_drop 24 ((words1.drop 24).drop 24), List.all_append, w_t3, w_t4]
  rfl
set_option maxRecDepth 65536 in
theorem w_case : (Jvm.Cond.and given_1 narrow_1).before args0 about1 = true := by decide +kernel
theorem w_applies : (headSpec (Jvm.Cond.code x code maxLocals ret :: tables_1) room_1).applies x e0.platform about1 = true :=
  (Spec.applies_iff w_frames).mpr ⟨w_running, w_runnable, w_alone, w_named, w_hears, w_ripe, w_room, w_tables⟩
theorem atStart : AtStart classFile x code maxLocals ret World_1 tables_1 room_1 Calls_1 rest_1 Pre_1 launch0 p0 e0 about1 theMethod args0 below0 :=
  ⟨lists_1, trivial, launch0.admits_env _ _ _, launch0.least_env, fairChoices_fair.cas, fairChoices_fair.clock, w_frames, w_args, w_heap, w_applies, trivial, trivial, w_case⟩
end start1
theorem witness_1 : WitnessClaimed_1 := ⟨start1.p0, start1.e0, start1.about1, start1.theMethod, start1.args0, start1.below0, start1.atStart⟩
end Jvm.Pilot.@@N@@
