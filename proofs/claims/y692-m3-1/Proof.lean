import JvmDerived
import JvmDerived.Pilot.@@N@@Statement
import JvmDerived.Pilot.@@N@@Code
set_option linter.unusedVariables false
set_option linter.unusedSimpArgs false
namespace Jvm.OwnKit
open Sem ClassFile Op Lib Jvm.Stand Jvm.Free Jvm.LawKit Jvm.RoadKit
/-! A small layer of my own over the library's laws: 'Goes': from this frame the body comes to its end; each law turned so that it reads backwards. -/
def Goes (tb : Tables) (e : Env) (below : List Frame) (Φ : Outcome → State → Prop) (T : State) (f : JFrame) : Prop :=
  ∃ s₂ o, Steps tb e below (T.setTop f) s₂ ∧ s₂.status = .running ∧ Ended s₂ below o ∧ Φ o s₂
def Fine (s : State) (n0 : Nat) (Q : Option Value → Heap → Prop) (rc rs : Nat) (o : Outcome) (U : State) : Prop :=
  ∃ v L, o = .returned v ∧ (Fr n0 L ∧ Q v U.heap) ∧ FrameEnd s o U L rc rs
def Base (p : Program) (s : State) (m : MethodId) (meth : Method) (c : Code) (Z : State) (y : MethodName) (bytes : ByteArray) (maxL : Nat) (ret : Option FieldType) : Prop :=
  p.tables.exec = Jvm.exec ∧ Z.Warmed39 s.vm ∧ c.code = bytes ∧ c.maxLocals = maxL ∧ s.vm.findClass y.cls = some m.cls ∧ meth.name = y.name ∧ meth.sig.returnType = ret ∧ meth.locks = false
def Sd (p : Program) (l : Launch) (e : Env) (R : Room) (s : State) (m : MethodId) (args : Array Value) (below : List Frame) (meth : Method) (c : Code) (T : State) (h : Heap) (n0 cells slots : Nat) : Prop :=
  ∃ locs, Stand p l e R s m args below meth c T locs cells slots ∧ T.heap = h ∧ Fr n0 locs ∧ n0 ≤ s.heap.size
def Con (l : Launch) (Z : State) (y : MethodName) (bytes : ByteArray) (maxL : Nat) (ret : Option FieldType) (rm : Room) (as' : Array Value) (h0 : Heap) (n0 : Nat) (Q : Option Value → Heap → Prop) : Prop :=
  n0 ≤ h0.size → ∀ ws : List Cond, MetFree l y (head1 (Cond.code y bytes maxL ret :: ws) rm) (fun a U => a = as' ∧ Z.Warmed39 U.vm ∧ U.heap = h0) (fun _ _ _ _ _ => True) (fun _ U o U' => ∃ v L, o = .returned v ∧ (Fr n0 L ∧ Q v U'.heap) ∧ FrameEnd U o U' L rm.cells rm.slots)
/-! a condition as 1 or 0 -/
def bi (P : Prop) [Decidable P] : Int32 := if P then 1 else 0
theorem bi_pos {P : Prop} [Decidable P] (h : P) : bi P = 1 := if_pos h
theorem bi_neg {P : Prop} [Decidable P] (h : ¬ P) : bi P = 0 := if_neg h
theorem bi_ne {P : Prop} [Decidable P] (h : P) : ¬ bi P = 0 := by rw [bi_pos h]; decide
theorem bi_congr {P P' : Prop} [Decidable P] [Decidable P'] (h : P ↔ P') : bi P = bi P' := by by_cases q : P <;> simp [bi, q, h.mp, ← h]
theorem bi_one {P : Prop} [Decidable P] : bi P = 1 ↔ P := by by_cases q : P <;> simp [bi, q]
theorem bi_zero {P : Prop} [Decidable P] : bi P = 0 ↔ ¬ P := by by_cases q : P <;> simp [bi, q]
theorem bi_inj {P P' : Prop} [Decidable P] [Decidable P'] : bi P = bi P' ↔ (P ↔ P') := by by_cases q : P <;> by_cases q' : P' <;> simp [bi, q, q']
theorem bi_or {P : Prop} [Decidable P] : bi P = 0 ∨ bi P = 1 := by by_cases q : P <;> simp [bi, q]
theorem nar_bi {P : Prop} [Decidable P] : nar .boolean (bi P) = bi P := by by_cases q : P <;> simp [bi, q, nar]
theorem fits_bi {P : Prop} [Decidable P] : fits .boolean (.int (bi P)) = true := by by_cases q : P <;> simp [bi, q] <;> decide
theorem narrow_bi {P : Prop} [Decidable P] : narrow .boolean (.int (bi P)) = .int (bi P) := by by_cases q : P <;> simp [bi, q] <;> rfl
section Lay
variable {p : Program} {l : Launch} {e : Env} {R : Room} {s : State} {m : MethodId} {args : Array Value} {below : List Frame} {meth : Method} {c : Code} {T : State} {h : Heap} {n0 cells slots : Nat} {Z : State} {a0 : Array Value} {Φ : Outcome → State → Prop} {y0 : MethodName} {bytes0 : ByteArray} {maxL0 : Nat} {ret0 : Option FieldType} {pc : Nat} {Ls : Array Slot} {st rest : List Value}
theorem Goes.go {tb : Tables} {T' : State} {f f' : JFrame} (k : ∀ t, Steps tb e below (T'.setTop f') t → Steps tb e below (T.setTop f) t) (g : Goes tb e below Φ T' f') : Goes tb e below Φ T f := by
  obtain ⟨s2, o, h1, h2⟩ := g
  exact ⟨s2, o, k _ h1, h2⟩
theorem Goes.dia {tb : Tables} {P : Prop} [Decidable P] {f : JFrame} {mk : Int32 → JFrame} (h1 : P → Goes tb e below Φ T (mk 1) → Goes tb e below Φ T f) (h0 : ¬ P → Goes tb e below Φ T (mk 0) → Goes tb e below Φ T f) (k : Goes tb e below Φ T (mk (bi P))) : Goes tb e below Φ T f := by
  by_cases q : P
  · rw [bi_pos q] at k; exact h1 q k
  · rw [bi_neg q] at k; exact h0 q k
theorem Goes.cast {tb : Tables} {f f' : JFrame} (q : f = f') (g : Goes tb e below Φ T f') : Goes tb e below Φ T f := q ▸ g
theorem Sd.here (S : Sd p l e R s m args below meth c T h n0 cells slots) : At T m c below := by obtain ⟨_, X, -⟩ := S; exact X.here
theorem Sd.le (S : Sd p l e R s m args below meth c T h n0 cells slots) : n0 ≤ h.size := by
  obtain ⟨_, X, e, -, q⟩ := S
  have h1 := X.same.2.1
  have h2 : s.heap.size ≤ T.heap.size := h1
  rw [e] at h2
  exact Nat.le_trans q h2
theorem Base.x (B : Base p s m meth c Z y0 bytes0 maxL0 ret0) : p.tables.exec = Jvm.exec := B.1
theorem Base.d (B : Base p s m meth c Z y0 bytes0 maxL0 ret0) {r : Except DecodeError (Instr × Nat)} (hd : decode bytes0 pc = r) : decode c.code pc = r := B.2.2.1 ▸ hd
theorem Con.body {y : MethodName} {bytes : ByteArray} {maxL : Nat} {ret : Option FieldType} {rm : Room} {as' : Array Value} {h0 : Heap} {Q : Option Value → Heap → Prop} (hpl : plainFor y = true)
    (k : ∀ (p : Program) (e : Env) (s : State) (m : MethodId) (below : List Frame) (meth : Method) (c : Code) (T : State), Base p s m meth c Z y bytes maxL ret → Sd p l e rm s m as' below meth c T h0 n0 0 0 → Goes p.tables e below (Fine s n0 Q rm.cells rm.slots) T (entryFrame m as' maxL)) :
    Con l Z y bytes maxL ret rm as' h0 n0 Q := by
  intro hn ws
  refine MetFree.of_bodySF hpl hisR ?_
  intro p e s m args below meth c s₁ Bd hml0 hP hK
  obtain ⟨rfl, hZ, hh⟩ := hP
  have e0 : s₁.heap = h0 := by rw [← hh, Bd.state]; rfl
  exact k p e s m below meth c s₁ ⟨Bd.exec, hZ, Bd.bytes, hml0, findClass_of_methodNamed Bd.named, (name_of_methodNamed Bd.named Bd.method).1, Bd.returns, Bd.notSynchronized⟩ ⟨[], Stand.of_body Bd, e0, Fr.nil n0, by rw [hh]; exact hn⟩
theorem Goes.acmp {cd : ACond} {x y : Value} {o : Int} {pc' : Nat} {same : Bool} (S : Sd p l e R s m args below meth c T h n0 cells slots) (B : Base p s m meth c Z y0 bytes0 maxL0 ret0) (h1 : x.isRef = true) (h2 : y.isRef = true) (hd : decode bytes0 pc = .ok (.if_acmp cd o, 3)) (hq : decide (x = y) = same) (ho : 0 ≤ (pc : Int) + o) (hp : pc' = if acV cd same = true then ((pc : Int) + o).toNat else pc + 3)
    (k : Goes p.tables e below Φ T (mkF m pc' Ls rest)) : Goes p.tables e below Φ T (mkF m pc Ls (y :: x :: rest)) := by
  obtain ⟨locs, X, eT, N, hn⟩ := S
  exact Goes.go (fun t => RoadKit.acmp X B.1 (g := mkF m pc Ls (y :: x :: rest)) rfl h1 h2 (pc0 := pc) (pc' := pc') (same := same) rfl (B.d hd) rfl hq ho hp) k
theorem Goes.pop2L {z : Int64} (S : Sd p l e R s m args below meth c T h n0 cells slots) (B : Base p s m meth c Z y0 bytes0 maxL0 ret0) (hd : decode bytes0 pc = .ok (.pop2, 1)) (k : Goes p.tables e below Φ T (mkF m (pc + 1) Ls rest)) : Goes p.tables e below Φ T (mkF m pc Ls (.long z :: rest)) := by
  obtain ⟨locs, X, eT, N, hn⟩ := S
  refine Goes.go (fun t kk => ?_) k
  have hx := B.1
  have hd' := B.d hd
  show Steps p.tables e below (T.setTop { method := m, pc := pc, locals := Ls, stack := _ :: rest, locked := none }) _
  jvm_step X.here [X.here.top, hx, hd', Value.category]
  exact kk
theorem Goes.irem {x y : Int32} (S : Sd p l e R s m args below meth c T h n0 cells slots) (B : Base p s m meth c Z y0 bytes0 maxL0 ret0) (hd : decode bytes0 pc = .ok (.irem, 1)) (hy : y ≠ 0) (k : Goes p.tables e below Φ T (mkF m (pc + 1) Ls (.int (x % y) :: rest))) : Goes p.tables e below Φ T (mkF m pc Ls (.int y :: .int x :: rest)) := by
  obtain ⟨locs, X, eT, N, hn⟩ := S
  exact Goes.go (fun t => RoadKit.iremM X B.1 (g := mkF m pc Ls (.int y :: .int x :: rest)) rfl (B.d hd) rfl hy) k
theorem Goes.lrem {x y : Int64} (S : Sd p l e R s m args below meth c T h n0 cells slots) (B : Base p s m meth c Z y0 bytes0 maxL0 ret0) (hd : decode bytes0 pc = .ok (.lrem, 1)) (hy : y ≠ 0) (k : Goes p.tables e below Φ T (mkF m (pc + 1) Ls (.long (x % y) :: rest))) : Goes p.tables e below Φ T (mkF m pc Ls (.long y :: .long x :: rest)) := by
  obtain ⟨locs, X, eT, N, hn⟩ := S
  refine Goes.go (fun t kk => XS.lrem X.here B.1 (g := mkF m pc Ls (.long y :: .long x :: rest)) rfl (B.d hd) rfl hy ?_) k
  rw [lrem_mod]
  exact kk
/-! the ends -/
section Ends
variable {Q : Option Value → Heap → Prop} {rc rs : Nat}
theorem Goes.retV (S : Sd p l e R s m args below meth c T h n0 cells slots) (B : Base p s m meth c Z y0 bytes0 maxL0 none) (hd : decode bytes0 pc = .ok (.return_, 1)) (hc : cells ≤ rc) (hs : slots ≤ rs) (hq : Q none h) :
    Goes p.tables e below (Fine s n0 Q rc rs) T (mkF m pc Ls []) := by
  obtain ⟨locs, X, eT, N, -⟩ := S
  obtain ⟨fs, hr, hrun, hended, hW, hsame⟩ := X.leave (v := none) (fun _ => rfl) B.2.2.2.2.2.2.2
  subst eT
  exact ⟨_, _, X.returnOut B.1 B.2.2.2.2.2.2.1 (B.d hd) hr, hrun, hended, _, _, rfl, ⟨N, hq⟩, ⟨_, rfl⟩, hW, hsame.mono hc hs⟩
theorem Goes.retN {t : FieldType} {z : Int32} (S : Sd p l e R s m args below meth c T h n0 cells slots) (B : Base p s m meth c Z y0 bytes0 maxL0 (some t)) (ht : t = .boolean ∨ t = .byte ∨ t = .char ∨ t = .short) (hd : decode bytes0 pc = .ok (.ireturn, 1)) (hc : cells ≤ rc) (hs : slots ≤ rs) (hq : Q (some (.int (nar t z))) h) :
    Goes p.tables e below (Fine s n0 Q rc rs) T (mkF m pc Ls (.int z :: rest)) := by
  obtain ⟨locs, X, eT, N, -⟩ := S
  obtain ⟨fs, hr, hrun, hended, hW, hsame⟩ := X.leave (v := some (.int (nar t z))) (fun h => by rw [B.2.2.2.2.2.2.1] at h; cases h) B.2.2.2.2.2.2.2
  subst eT
  exact ⟨_, _, RoadKit.retN X B.1 B.2.2.2.2.2.2.1 ht (B.d hd) hr, hrun, hended, _, _, rfl, ⟨N, hq⟩, ⟨_, rfl⟩, hW, hsame.mono hc hs⟩
theorem Goes.retI {z : Int32} (S : Sd p l e R s m args below meth c T h n0 cells slots) (B : Base p s m meth c Z y0 bytes0 maxL0 (some .int)) (hd : decode bytes0 pc = .ok (.ireturn, 1)) (hc : cells ≤ rc) (hs : slots ≤ rs) (hq : Q (some (.int z)) h) :
    Goes p.tables e below (Fine s n0 Q rc rs) T (mkF m pc Ls (.int z :: rest)) := by
  obtain ⟨locs, X, eT, N, -⟩ := S
  obtain ⟨fs, hr, hrun, hended, hW, hsame⟩ := X.leave (v := some (.int z)) (fun h => by rw [B.2.2.2.2.2.2.1] at h; cases h) B.2.2.2.2.2.2.2
  subst eT
  refine ⟨_, _, ?_, hrun, hended, _, _, rfl, ⟨N, hq⟩, ⟨_, rfl⟩, hW, hsame.mono hc hs⟩
  have hm' : T.vm.method? m = some meth := X.method'
  have hn : narrow .int (.int z) = .int z := rfl
  have hx := B.1
  have hret := B.2.2.2.2.2.2.1
  have hd' := B.d hd
  show Steps p.tables e below (T.setTop { method := m, pc := pc, locals := Ls, stack := _ :: rest, locked := none }) _
  jvm_step X.here [X.here.top, hx, hd', hm', hret, hn]
  first | (intro acts; rw [hr _ acts rfl rfl rfl]) | rw [hr _ _ rfl rfl rfl]
  exact Steps.refl _
theorem Goes.retL {z : Int64} (S : Sd p l e R s m args below meth c T h n0 cells slots) (B : Base p s m meth c Z y0 bytes0 maxL0 (some .long)) (hd : decode bytes0 pc = .ok (.lreturn, 1)) (hc : cells ≤ rc) (hs : slots ≤ rs) (hq : Q (some (.long z)) h) :
    Goes p.tables e below (Fine s n0 Q rc rs) T (mkF m pc Ls (.long z :: rest)) := by
  obtain ⟨locs, X, eT, N, -⟩ := S
  obtain ⟨fs, hr, hrun, hended, hW, hsame⟩ := X.leave (v := some (.long z)) (fun h => by rw [B.2.2.2.2.2.2.1] at h; cases h) B.2.2.2.2.2.2.2
  subst eT
  refine ⟨_, _, ?_, hrun, hended, _, _, rfl, ⟨N, hq⟩, ⟨_, rfl⟩, hW, hsame.mono hc hs⟩
  have hm' : T.vm.method? m = some meth := X.method'
  have hx := B.1
  have hret := B.2.2.2.2.2.2.1
  have hd' := B.d hd
  show Steps p.tables e below (T.setTop { method := m, pc := pc, locals := Ls, stack := _ :: rest, locked := none }) _
  jvm_step X.here [X.here.top, hx, hd', hm', hret, narrow]
  first | (intro acts; rw [hr _ acts rfl rfl rfl]) | rw [hr _ _ rfl rfl rfl]
  exact Steps.refl _
theorem Goes.retA {b : Addr} {t : FieldType} (S : Sd p l e R s m args below meth c T h n0 cells slots) (B : Base p s m meth c Z y0 bytes0 maxL0 (some t)) (ht : t.isReference = true) (hd : decode bytes0 pc = .ok (.areturn, 1)) (hc : cells ≤ rc) (hs : slots ≤ rs) (hq : Q (some (.ref b)) h) :
    Goes p.tables e below (Fine s n0 Q rc rs) T (mkF m pc Ls (.ref b :: rest)) := by
  obtain ⟨locs, X, eT, N, -⟩ := S
  obtain ⟨fs, hr, hrun, hended, hW, hsame⟩ := X.leave (v := some (.ref b)) (fun h => by rw [B.2.2.2.2.2.2.1] at h; cases h) B.2.2.2.2.2.2.2
  subst eT
  refine ⟨_, _, ?_, hrun, hended, _, _, rfl, ⟨N, hq⟩, ⟨_, rfl⟩, hW, hsame.mono hc hs⟩
  have hm' : T.vm.method? m = some meth := X.method'
  have hx := B.1
  have hret := B.2.2.2.2.2.2.1
  have hd' := B.d hd
  show Steps p.tables e below (T.setTop { method := m, pc := pc, locals := Ls, stack := _ :: rest, locked := none }) _
  jvm_step X.here [X.here.top, hx, hd', hm', hret, Value.isRef, ht]
  first | (intro acts; rw [hr _ acts rfl rfl rfl]) | rw [hr _ _ rfl rfl rfl]
  exact Steps.refl _
end Ends
/-! fields and objects -/
theorem Goes.getF {O n d : String} {index : Nat} {a : Addr} {v : Value} (S : Sd p l e R s m args below meth c T h n0 cells slots) (B : Base p s m meth c Z y0 bytes0 maxL0 ret0) (w : (Cond.fieldLink y0.cls index O n d).before a0 Z = true) (F : Fld Z h a O n d v) (hd : decode bytes0 pc = .ok (.getfield index, 3))
    (k : ∀ T', Sd p l e R s m args below meth c T' h n0 cells slots → Goes p.tables e below Φ T' (mkF m (pc + 3) Ls (v :: rest))) : Goes p.tables e below Φ T (mkF m pc Ls (.ref a :: rest)) := by
  obtain ⟨locs, X, eT, N, hn⟩ := S
  obtain ⟨T', X', e', stp⟩ := RoadKit.getF X B.1 B.2.1 B.2.2.2.2.1 (host := "") (Or.inl w) Via.refl eT F (g := mkF m pc Ls (.ref a :: rest)) rfl rfl (B.d hd)
  exact Goes.go stp (k T' ⟨locs, X', e', N, hn⟩)
theorem Goes.putF {O n d C : String} {index kk : Nat} {ty : FieldType} {a : Addr} {v v' old : Value} (S : Sd p l e R s m args below meth c T h n0 cells slots) (B : Base p s m meth c Z y0 bytes0 maxL0 ret0) (w : (Cond.fieldLink y0.cls index O n d).before a0 Z = true) (F : Fld Z h a O n d old) (E : Exa Z h a C)
    (L : (Cond.lays C O n d).before a0 Z = true ∨ ((Cond.laysFinal C O n d).before a0 Z = true ∧ y0.cls = O ∧ y0.name = "<init>")) (wi : (Cond.instantiable C kk).before a0 Z = true) (hty : parseFieldDescriptor d = some ty) (hnr : narrow ty v = v') (hf : fits ty v' = true) (ga : n0 ≤ a) (hd : decode bytes0 pc = .ok (.putfield index, 3))
    (k : ∀ T' h', Sd p l e R s m args below meth c T' h' n0 cells slots → Wr h h' a (RoadKit.slotOf Z O n d) v' → Goes p.tables e below Φ T' (mkF m (pc + 3) Ls rest)) : Goes p.tables e below Φ T (mkF m pc Ls (v :: .ref a :: rest)) := by
  obtain ⟨locs, X, eT, N, hn⟩ := S
  obtain ⟨T', h', X', e', W, stp⟩ := RoadKit.putFN X B.1 B.2.1 B.2.2.2.2.1 w Via.refl eT F E (L.imp id fun q => ⟨q.1, q.2.1, B.2.2.2.2.2.1.trans q.2.2⟩) wi hty hnr hf (g := mkF m pc Ls (v :: .ref a :: rest)) rfl rfl (B.d hd)
  exact Goes.go stp (k T' h' ⟨_, X', e', Fr.snoc X' N ga, hn⟩ W)
theorem Goes.newO {C : String} {index nn : Nat} (S : Sd p l e R s m args below meth c T h n0 cells slots) (B : Base p s m meth c Z y0 bytes0 maxL0 ret0) (w : (Cond.classLink y0.cls index C).before a0 Z = true) (wi : (Cond.instantiable C nn).before a0 Z = true) (wz : (Cond.initialized C).before a0 Z = true) (hd : decode bytes0 pc = .ok (.new index, 3)) (hc : cells + 1 ≤ R.cells) (hl : slots + nn ≤ R.slots)
    (k : ∀ T' h' b, Sd p l e R s m args below meth c T' h' n0 (cells + 1) (slots + nn) → Ext h h' → b = h.size → n0 ≤ b → Exa Z h' b C → (∀ {O nm d : String} {ty : FieldType}, Laid Z a0 C O nm d → parseFieldDescriptor d = some ty → Fld Z h' b O nm d (defaultValue ty)) → Goes p.tables e below Φ T' (mkF m (pc + 3) Ls (.ref b :: st))) :
    Goes p.tables e below Φ T (mkF m pc Ls st) := by
  have hle := S.le
  obtain ⟨locs, X, eT, N, hn⟩ := S
  obtain ⟨T', h', X', e', E, A, D, -, stp⟩ := RoadKit.newO X B.1 B.2.1 B.2.2.2.2.1 w wi wz eT (g := mkF m pc Ls st) rfl (B.d hd) hc hl
  exact Goes.go stp (k T' h' h.size ⟨locs, X', e', N, hn⟩ E rfl hle A D)
theorem Goes.initO {index : Nat} {a : Addr} {W : Nat} (S : Sd p l e R s m args below meth c T h n0 cells slots) (B : Base p s m meth c Z y0 bytes0 maxL0 ret0) (w1 : (Cond.methodLink y0.cls index Lib.objectInit).before a0 Z = true) (w2 : (Cond.instanceMethod Lib.objectInit).before a0 Z = true) (w3 : (Cond.code Lib.objectInit ⟨#[0xb1]⟩ 1 none).before a0 Z = true)
    (hd : decode bytes0 pc = .ok (.invokespecial index, 3)) (hsz : Ls.size = maxL0) (hf : 1 ≤ R.frames) (hW : 2 * 0 + (rest.map fun v => v.category).sum ≤ W) (hl : W + 12 ≤ R.locals)
    (k : ∀ T', Sd p l e R s m args below meth c T' h n0 cells slots → Goes p.tables e below Φ T' (mkF m (pc + 3) Ls rest)) : Goes p.tables e below Φ T (mkF m pc Ls (.ref a :: rest)) := by
  obtain ⟨locs, X, eT, N, hn⟩ := S
  obtain ⟨T', X', e', stp⟩ := RoadKit.initO X B.1 B.2.1 B.2.2.2.2.1 w1 w2 w3 eT (g := mkF m pc Ls (.ref a :: rest)) rfl (by rw [B.2.2.2.1]; exact hsz) rfl (B.d hd) hf hW hl
  exact Goes.go stp (k T' ⟨locs, X', e', N, hn⟩)
theorem Goes.ldcI {index : Nat} {v : Int32} (S : Sd p l e R s m args below meth c T h n0 cells slots) (B : Base p s m meth c Z y0 bytes0 maxL0 ret0) (w : (Cond.constant y0.cls index v).before a0 Z = true) (hd : decode bytes0 pc = .ok (.ldc index, 2)) (k : Goes p.tables e below Φ T (mkF m (pc + 2) Ls (.int v :: st))) : Goes p.tables e below Φ T (mkF m pc Ls st) := by
  obtain ⟨locs, X, eT, N, hn⟩ := S
  exact Goes.go (X.ldcInt B.1 B.2.2.2.2.1 (mvT B.2.1 w) (g := mkF m pc Ls st) rfl (B.d hd)) k
theorem Goes.ldcL {index : Nat} {v : Int64} (S : Sd p l e R s m args below meth c T h n0 cells slots) (B : Base p s m meth c Z y0 bytes0 maxL0 ret0) (w : (Cond.constantLong y0.cls index v).before a0 Z = true) (hd : decode bytes0 pc = .ok (.ldc2_w index, 3)) (k : Goes p.tables e below Φ T (mkF m (pc + 3) Ls (.long v :: st))) : Goes p.tables e below Φ T (mkF m pc Ls st) := by
  obtain ⟨locs, X, eT, N, hn⟩ := S
  exact Goes.go (X.ldc2Long B.1 B.2.2.2.2.1 (mvT B.2.1 w) (g := mkF m pc Ls st) rfl (B.d hd)) k
/-! calls -/
section Calls
variable {y : MethodName} {bytes : ByteArray} {maxL : Nat} {ret : Option FieldType} {rm : Room} {index W : Nat} {argsL : List Value} {Q : Option Value → Heap → Prop}
theorem Con.back {as' : Array Value} {len : Nat} (C : Con l Z y bytes maxL ret rm as' h n0 Q) (hn : n0 ≤ h.size) (hZ : Z.Warmed39 s.vm) (wc : (Cond.code y bytes maxL ret).before a0 Z = true) (wz : (Cond.initialized y.cls).before a0 Z = true) (hf : rm.frames + 1 ≤ R.frames) (hl : W + (maxL + 11) + rm.locals ≤ R.locals) :
    Back l R p e below s args y len W (fun A a => a = as' ∧ A.U.heap = h ∧ A.cells + rm.cells ≤ R.cells ∧ A.slots + rm.slots ≤ R.slots)
      (fun A _ v B => ∃ L, (Fr n0 L ∧ Q v B.U.heap) ∧ B.locs = A.locs ++ L ∧ B.cells = A.cells + rm.cells ∧ B.slots = A.slots + rm.slots) :=
  backOf (Q := fun v h L => Fr n0 L ∧ Q v h) (C hn []) hZ wc wz hf hl
theorem Goes.callS (S : Sd p l e R s m args below meth c T h n0 cells slots) (B : Base p s m meth c Z y0 bytes0 maxL0 ret0) (C : Con l Z y bytes maxL ret rm argsL.toArray h n0 Q) (wl : (Cond.methodLink y0.cls index y).before a0 Z = true) (ws : (Cond.static y).before a0 Z = true) (wi : (Cond.initialized y.cls).before a0 Z = true) (wc : (Cond.code y bytes maxL ret).before a0 Z = true)
    (hy : y.cls ≠ "java/lang/invoke/MethodHandle" ∧ y.cls ≠ "java/lang/invoke/VarHandle") (hf : rm.frames + 1 ≤ R.frames) (hlo : W + (maxL + 11) + rm.locals ≤ R.locals) (hc : cells + rm.cells ≤ R.cells) (hs : slots + rm.slots ≤ R.slots) (hsz : Ls.size = maxL0)
    (hlen : ∀ sig, parseMethodDescriptor y.desc = some sig → argsL.length = sig.parameters.length) (hst : st = argsL.reverse ++ rest) (hW : 2 * 0 + (rest.map fun v => v.category).sum ≤ W) (hd : decode bytes0 pc = .ok (.invokestatic index, 3))
    (k : ∀ v T' h', Sd p l e R s m args below meth c T' h' n0 (cells + rm.cells) (slots + rm.slots) → Q v h' → Goes p.tables e below Φ T' (mkF m (pc + 3) Ls (v.toList ++ rest))) : Goes p.tables e below Φ T (mkF m pc Ls st) := by
  have hle := S.le
  obtain ⟨locs, X, eT, N, hn⟩ := S
  subst hst
  obtain ⟨v, _, ⟨T', L', k', n'⟩, -, X', ⟨Lc, ⟨hN, hQ⟩, l1, y1, z1⟩, stp⟩ := Jvm.LawKit.callS X B.1 (y := y) B.2.2.2.2.1 (mvT B.2.1 wl) (mvT B.2.1 ws) (mvT B.2.1 wi) (mvT B.2.1 wc) hy (Con.back (W := W) C hle B.2.1 wc wi hf hlo) (g := mkF m pc Ls (argsL.reverse ++ rest)) rfl (by rw [B.2.2.2.1]; exact hsz) (argsL := argsL) (rest := rest) hlen rfl hW (B.d hd) (fun _ _ => ⟨rfl, eT, hc, hs⟩)
  dsimp only [Pt.U, Pt.locs, Pt.cells, Pt.slots] at X' l1 y1 z1 stp hQ
  subst l1 y1 z1
  exact Goes.go stp (k v T' T'.heap ⟨_, X', rfl, N.app hN, hn⟩ hQ)
theorem Goes.callI {b : Addr} (S : Sd p l e R s m args below meth c T h n0 cells slots) (B : Base p s m meth c Z y0 bytes0 maxL0 ret0) (C : Con l Z y bytes maxL none rm (.ref b :: argsL).toArray h n0 Q) (wl : (Cond.methodLink y0.cls index y).before a0 Z = true) (wim : (Cond.instanceMethod y).before a0 Z = true) (wi : (Cond.initialized y.cls).before a0 Z = true) (wc : (Cond.code y bytes maxL none).before a0 Z = true)
    (hy : y.cls ≠ "java/lang/invoke/MethodHandle" ∧ y.cls ≠ "java/lang/invoke/VarHandle") (hni : y.name = "<init>") (hf : rm.frames + 1 ≤ R.frames) (hlo : W + (maxL + 11) + rm.locals ≤ R.locals) (hc : cells + rm.cells ≤ R.cells) (hs : slots + rm.slots ≤ R.slots) (hsz : Ls.size = maxL0)
    (hlen : ∀ sig, parseMethodDescriptor y.desc = some sig → argsL.length = sig.parameters.length) (hst : st = argsL.reverse ++ .ref b :: rest) (hW : 2 * 0 + (rest.map fun v => v.category).sum ≤ W) (hd : decode bytes0 pc = .ok (.invokespecial index, 3))
    (k : ∀ v T' h', Sd p l e R s m args below meth c T' h' n0 (cells + rm.cells) (slots + rm.slots) → Q v h' → Goes p.tables e below Φ T' (mkF m (pc + 3) Ls (v.toList ++ rest))) : Goes p.tables e below Φ T (mkF m pc Ls st) := by
  have hle := S.le
  obtain ⟨locs, X, eT, N, hn⟩ := S
  subst hst
  obtain ⟨v, _, ⟨T', L', k', n'⟩, -, X', ⟨Lc, ⟨hN, hQ⟩, l1, y1, z1⟩, stp⟩ := X.specialBack B.1 (y := y) hni B.2.2.2.2.1 (mvT B.2.1 wl) (mvT B.2.1 wim) (mvT B.2.1 wc) hy (Con.back (W := W) C hle B.2.1 wc wi hf hlo) (g := mkF m pc Ls (argsL.reverse ++ .ref b :: rest)) rfl (by rw [B.2.2.2.1]; exact hsz) (Steps.refl _) (a := b) (argsL := argsL) (rest := rest) hlen rfl hW (B.d hd) (fun _ _ => ⟨rfl, eT, hc, hs⟩)
  dsimp only [Pt.U, Pt.locs, Pt.cells, Pt.slots] at X' l1 y1 z1 stp hQ
  subst l1 y1 z1
  exact Goes.go (fun t q => stp.trans q) (k v T' T'.heap ⟨_, X', rfl, N.app hN, hn⟩ hQ)
theorem Goes.callV {b : Addr} {K : String} (S : Sd p l e R s m args below meth c T h n0 cells slots) (B : Base p s m meth c Z y0 bytes0 maxL0 ret0) (C : Con l Z y bytes maxL ret rm (.ref b :: argsL).toArray h n0 Q) (E : Exa Z h b K) (wl : (Cond.methodLink y0.cls index y).before a0 Z = true) (wd : (Cond.declares y).before a0 Z = true) (wsel : (Cond.selects K y y).before a0 Z = true) (wim : (Cond.instanceMethod y).before a0 Z = true) (wi : (Cond.initialized y.cls).before a0 Z = true) (wc : (Cond.code y bytes maxL ret).before a0 Z = true)
    (hy : y.cls ≠ "java/lang/invoke/MethodHandle" ∧ y.cls ≠ "java/lang/invoke/VarHandle") (hf : rm.frames + 1 ≤ R.frames) (hlo : W + (maxL + 11) + rm.locals ≤ R.locals) (hc : cells + rm.cells ≤ R.cells) (hs : slots + rm.slots ≤ R.slots) (hsz : Ls.size = maxL0)
    (hlen : ∀ sig, parseMethodDescriptor y.desc = some sig → argsL.length = sig.parameters.length) (hst : st = argsL.reverse ++ .ref b :: rest) (hW : 2 * 0 + (rest.map fun v => v.category).sum ≤ W) (hd : decode bytes0 pc = .ok (.invokevirtual index, 3))
    (k : ∀ v T' h', Sd p l e R s m args below meth c T' h' n0 (cells + rm.cells) (slots + rm.slots) → Q v h' → Goes p.tables e below Φ T' (mkF m (pc + 3) Ls (v.toList ++ rest))) : Goes p.tables e below Φ T (mkF m pc Ls st) := by
  have hle := S.le
  obtain ⟨locs, X, eT, N, hn⟩ := S
  subst hst
  obtain ⟨cq, kq, qa, qb, qc⟩ := isOf B.2.1 eT E
  obtain ⟨v, _, ⟨T', L', k', n'⟩, -, X', ⟨Lc, ⟨hN, hQ⟩, l1, y1, z1⟩, stp⟩ := X.virtualBack B.1 (y := y) (z := y) B.2.2.2.2.1 (mvT B.2.1 wl) (mvT B.2.1 wd) (notFace_of_selects (args := #[]) (mvT B.2.1 wsel)) (mvT B.2.1 wsel) (mvT B.2.1 wim) hy (Con.back (W := W) C hle B.2.1 wc wi hf hlo) qa qc (g := mkF m pc Ls (argsL.reverse ++ .ref b :: rest)) rfl (by rw [B.2.2.2.1]; exact hsz) (Steps.refl _) (argsL := argsL) (rest := rest) hlen rfl hW (B.d hd) (fun _ _ => ⟨rfl, eT, hc, hs⟩)
  dsimp only [Pt.U, Pt.locs, Pt.cells, Pt.slots] at X' l1 y1 z1 stp hQ
  subst l1 y1 z1
  exact Goes.go (fun t q => stp.trans q) (k v T' T'.heap ⟨_, X', rfl, N.app hN, hn⟩ hQ)
theorem Goes.callP {b : Addr} {K : String} (S : Sd p l e R s m args below meth c T h n0 cells slots) (B : Base p s m meth c Z y0 bytes0 maxL0 ret0) (C : Con l Z y bytes maxL ret rm (.ref b :: argsL).toArray h n0 Q) (E : Exa Z h b K) (wl : (Cond.methodLink y0.cls index y).before a0 Z = true) (wp : (Cond.privateMethod y).before a0 Z = true) {kk : Nat} (wk : (Cond.instantiable y.cls kk).before a0 Z = true) (wim : (Cond.instanceMethod y).before a0 Z = true) (wi : (Cond.initialized y.cls).before a0 Z = true) (wc : (Cond.code y bytes maxL ret).before a0 Z = true)
    (hy : y.cls ≠ "java/lang/invoke/MethodHandle" ∧ y.cls ≠ "java/lang/invoke/VarHandle") (hf : rm.frames + 1 ≤ R.frames) (hlo : W + (maxL + 11) + rm.locals ≤ R.locals) (hc : cells + rm.cells ≤ R.cells) (hs : slots + rm.slots ≤ R.slots) (hsz : Ls.size = maxL0)
    (hlen : ∀ sig, parseMethodDescriptor y.desc = some sig → argsL.length = sig.parameters.length) (hst : st = argsL.reverse ++ .ref b :: rest) (hW : 2 * 0 + (rest.map fun v => v.category).sum ≤ W) (hd : decode bytes0 pc = .ok (.invokevirtual index, 3))
    (k : ∀ v T' h', Sd p l e R s m args below meth c T' h' n0 (cells + rm.cells) (slots + rm.slots) → Q v h' → Goes p.tables e below Φ T' (mkF m (pc + 3) Ls (v.toList ++ rest))) : Goes p.tables e below Φ T (mkF m pc Ls st) := by
  have hle := S.le
  obtain ⟨locs, X, eT, N, hn⟩ := S
  subst hst
  obtain ⟨cq, q1, q2⟩ := E.cell
  have hpr : s.PrivateAt y := Cond.privateMethod_at (mvP B.2.1 wp (args := #[]))
  have wsel : (Cond.selects y.cls y y).before args s = true := by
    obtain ⟨ci, ki, i1, i2, i3, i4, -⟩ := Cond.instantiable_spec (mvT B.2.1 wk (args := args))
    exact selects_self_of_private i1 i2 (Bool.or_eq_false_iff.mp i4).1 hpr (mvT B.2.1 wim) hy
  obtain ⟨v, _, ⟨T', L', k', n'⟩, -, X', ⟨Lc, ⟨hN, hQ⟩, l1, y1, z1⟩, stp⟩ := X.privateBack B.1 (y := y) B.2.2.2.2.1 (mvT B.2.1 wl) (mvT B.2.1 wim) wsel hpr (mvT B.2.1 wc) hy (Con.back (W := W) C hle B.2.1 wc wi hf hlo) (g := mkF m pc Ls (argsL.reverse ++ .ref b :: rest)) rfl (by rw [B.2.2.2.1]; exact hsz) (Steps.refl _) (a := b) (by rw [eT]; exact q1) q2 (argsL := argsL) (rest := rest) hlen rfl hW (B.d hd) (fun _ _ => ⟨rfl, eT, hc, hs⟩)
  dsimp only [Pt.U, Pt.locs, Pt.cells, Pt.slots] at X' l1 y1 z1 stp hQ
  subst l1 y1 z1
  exact Goes.go (fun t q => stp.trans q) (k v T' T'.heap ⟨_, X', rfl, N.app hN, hn⟩ hQ)
end Calls
/-! arrays: what lies at each place, as a function -/
def Ary (Z : State) (h : Heap) (a : Addr) (ty : FieldType) (n : Nat) (f : Nat → Value) : Prop := ∃ c : Cell, Arr Z h a c ty ∧ c.slots.size = n ∧ n < 2 ^ 31 ∧ ∀ i, i < n → c.slots[i]? = some (f i)
def aup {α : Type} (f : Nat → α) (i : Nat) (v : α) : Nat → α := fun k => if k = i then v else f k
theorem aup_int (g : Nat → Int32) (k : Nat) (x : Int32) : aup (fun i => Value.int (g i)) k (.int x) = fun i => .int (aup g k x i) := by
  funext i
  simp only [aup]
  split <;> rfl
theorem aup_long (g : Nat → Int64) (k : Nat) (x : Int64) : aup (fun i => Value.long (g i)) k (.long x) = fun i => .long (aup g k x i) := by
  funext i
  simp only [aup]
  split <;> rfl
section Arrays
variable {a b : Addr} {ty : FieldType} {n : Nat} {f : Nat → Value} {h' : Heap} {j : Int32} {v : Value} {sl : Nat} {ws : List Addr}
theorem Ary.lt (A : Ary Z h a ty n f) : a < h.size := by obtain ⟨c, A, -⟩ := A; exact A.lt
theorem Ary.ext (A : Ary Z h a ty n f) (E : Ext h h') : Ary Z h' a ty n f := by obtain ⟨c, A, r⟩ := A; exact ⟨c, A.ext E, r⟩
theorem Ary.other (A : Ary Z h b ty n f) (W : Wr h h' a sl v) (q : b ≠ a) : Ary Z h' b ty n f := by obtain ⟨c, A, r⟩ := A; exact ⟨c, A.other W q, r⟩
theorem Ary.keep (A : Ary Z h a ty n f) (K : Keep h h' ws) (q : a ∉ ws) : Ary Z h' a ty n f := by obtain ⟨c, A, r⟩ := A; exact ⟨c, ⟨K.2.1 a c A.1 q, A.2⟩, r⟩
theorem Ary.cast {g : Nat → Value} (A : Ary Z h a ty n f) (q : ∀ i, i < n → f i = g i) : Ary Z h a ty n g := by obtain ⟨c, A, r1, r2, r3⟩ := A; exact ⟨c, A, r1, r2, fun i hi => by rw [r3 i hi, q i hi]⟩
theorem Ary.new {z : Int32} {k : ClassId} (A : Arr Z h a (newA k ty z) ty) (q : ¬ z < 0) : Ary Z h a ty z.toNatClampNeg (fun _ => defaultValue ty) :=
  ⟨_, A, sz_new _ _ _, (back32 q).2, fun i hi => by simp [newA, hi]⟩
theorem Ary.set {i : Nat} (A : Ary Z h a ty n f) (W : Wr h h' a i v) (hi : i < n) : Ary Z h' a ty n (aup f i v) := by
  obtain ⟨c, A, r1, r2, r3⟩ := A
  refine ⟨_, A.same W, by rw [sz_set]; exact r1, r2, fun k hk => ?_⟩
  by_cases e : k = i
  · subst e
    simp [aup, Cell.setSlot, r1, hi]
  · have e' : i ≠ k := fun q => e q.symm
    simp only [aup, if_neg e, Cell.setSlot]
    rw [Array.getElem?_setIfInBounds_ne e']
    exact r3 k hk
theorem Goes.newP {aty : ArrayType} {z : Int32} {cap : Nat} (S : Sd p l e R s m args below meth c T h n0 cells slots) (B : Base p s m meth c Z y0 bytes0 maxL0 ret0) (w : (Cond.arrayClass (newarray.typeOf aty)).before a0 Z = true) (hd : decode bytes0 pc = .ok (.newarray aty, 2)) (hz : ¬ z < 0) (hcap : z.toNatClampNeg ≤ cap) (hb : cap * 8 ≤ 536870912) (hc : cells + 1 ≤ R.cells) (hl : slots + cap ≤ R.slots)
    (k : ∀ T' h' b, Sd p l e R s m args below meth c T' h' n0 (cells + 1) (slots + cap) → Ext h h' → b = h.size → n0 ≤ b → Ary Z h' b (newarray.typeOf aty) z.toNatClampNeg (fun _ => defaultValue (newarray.typeOf aty)) → Goes p.tables e below Φ T' (mkF m (pc + 2) Ls (.ref b :: rest))) :
    Goes p.tables e below Φ T (mkF m pc Ls (.int z :: rest)) := by
  have hle := S.le
  obtain ⟨locs, X, eT, N, hn⟩ := S
  obtain ⟨T', h', k', X', e', E, A, stp⟩ := RoadKit.newP X B.1 B.2.1 w eT (g := mkF m pc Ls (.int z :: rest)) rfl (B.d hd) rfl hz hcap hb hc hl
  exact Goes.go stp (k T' h' h.size ⟨locs, X', e', N, hn⟩ E rfl hle (Ary.new A hz))
theorem Goes.iaload (S : Sd p l e R s m args below meth c T h n0 cells slots) (B : Base p s m meth c Z y0 bytes0 maxL0 ret0) (A : Ary Z h a .int n f) (q0 : ¬ j < 0) (q1 : j.toNatClampNeg < n) (hd : decode bytes0 pc = .ok (.iaload, 1)) (hv : f j.toNatClampNeg = v) (k : Goes p.tables e below Φ T (mkF m (pc + 1) Ls (v :: rest))) : Goes p.tables e below Φ T (mkF m pc Ls (.int j :: .ref a :: rest)) := by
  obtain ⟨locs, X, eT, N, hn⟩ := S
  obtain ⟨cl, A, r1, r2, r3⟩ := A
  exact Goes.go (X.iaload B.1 (j := j) (v := v) (by rw [eT]; exact A.1) (State.isArrayOf_alike B.2.1.alike A.2.1) A.2.2 (by rw [r1]; exact fun z => z.elim q0 (Nat.not_le.mpr q1)) (by rw [r3 _ q1, hv]) (g := mkF m pc Ls (.int j :: .ref a :: rest)) rfl rfl (B.d hd)) k
theorem Goes.laload (S : Sd p l e R s m args below meth c T h n0 cells slots) (B : Base p s m meth c Z y0 bytes0 maxL0 ret0) (A : Ary Z h a .long n f) (q0 : ¬ j < 0) (q1 : j.toNatClampNeg < n) (hd : decode bytes0 pc = .ok (.laload, 1)) (hv : f j.toNatClampNeg = v) (k : Goes p.tables e below Φ T (mkF m (pc + 1) Ls (v :: rest))) : Goes p.tables e below Φ T (mkF m pc Ls (.int j :: .ref a :: rest)) := by
  obtain ⟨locs, X, eT, N, hn⟩ := S
  obtain ⟨cl, A, r1, r2, r3⟩ := A
  exact Goes.go (X.laload B.1 (j := j) (v := v) (by rw [eT]; exact A.1) (State.isArrayOf_alike B.2.1.alike A.2.1) A.2.2 (by rw [r1]; exact fun z => z.elim q0 (Nat.not_le.mpr q1)) (by rw [r3 _ q1, hv]) (g := mkF m pc Ls (.int j :: .ref a :: rest)) rfl rfl (B.d hd)) k
theorem Goes.baload (S : Sd p l e R s m args below meth c T h n0 cells slots) (B : Base p s m meth c Z y0 bytes0 maxL0 ret0) (A : Ary Z h a .byte n f) (q0 : ¬ j < 0) (q1 : j.toNatClampNeg < n) (hd : decode bytes0 pc = .ok (.baload, 1)) (hv : f j.toNatClampNeg = v) (k : Goes p.tables e below Φ T (mkF m (pc + 1) Ls (v :: rest))) : Goes p.tables e below Φ T (mkF m pc Ls (.int j :: .ref a :: rest)) := by
  obtain ⟨locs, X, eT, N, hn⟩ := S
  obtain ⟨cl, A, r1, r2, r3⟩ := A
  exact Goes.go (X.baloadBytes B.1 (j := j) (v := v) (by rw [eT]; exact A.1) (State.isArrayOf_alike B.2.1.alike A.2.1) A.2.2 (by rw [r1]; exact fun z => z.elim q0 (Nat.not_le.mpr q1)) (by rw [r3 _ q1, hv]) (g := mkF m pc Ls (.int j :: .ref a :: rest)) rfl rfl (B.d hd)) k
theorem Goes.zaload (S : Sd p l e R s m args below meth c T h n0 cells slots) (B : Base p s m meth c Z y0 bytes0 maxL0 ret0) (A : Ary Z h a .boolean n f) (q0 : ¬ j < 0) (q1 : j.toNatClampNeg < n) (hd : decode bytes0 pc = .ok (.baload, 1)) (hv : f j.toNatClampNeg = v) (k : Goes p.tables e below Φ T (mkF m (pc + 1) Ls (v :: rest))) : Goes p.tables e below Φ T (mkF m pc Ls (.int j :: .ref a :: rest)) := by
  obtain ⟨locs, X, eT, N, hn⟩ := S
  obtain ⟨cl, A, r1, r2, r3⟩ := A
  exact Goes.go (X.baloadBooleans B.1 (j := j) (v := v) (by rw [eT]; exact A.1) (State.isArrayOf_alike B.2.1.alike A.2.1) A.2.2 (by rw [r1]; exact fun z => z.elim q0 (Nat.not_le.mpr q1)) (by rw [r3 _ q1, hv]) (g := mkF m pc Ls (.int j :: .ref a :: rest)) rfl rfl (B.d hd)) k
theorem Goes.alen (S : Sd p l e R s m args below meth c T h n0 cells slots) (B : Base p s m meth c Z y0 bytes0 maxL0 ret0) (A : Ary Z h a ty n f) {z : Int32} (hz : n.toInt32 = z) (hd : decode bytes0 pc = .ok (.arraylength, 1)) (k : Goes p.tables e below Φ T (mkF m (pc + 1) Ls (.int z :: rest))) : Goes p.tables e below Φ T (mkF m pc Ls (.ref a :: rest)) := by
  obtain ⟨locs, X, eT, N, hn⟩ := S
  obtain ⟨cl, A, r1, r2, r3⟩ := A
  subst r1 hz
  exact Goes.go (X.arraylength B.1 (by rw [eT]; exact A.1) (State.isArrayOf_alike B.2.1.alike A.2.1) (g := mkF m pc Ls (.ref a :: rest)) rfl rfl (B.d hd)) k
theorem Goes.iastore {x : Int32} (S : Sd p l e R s m args below meth c T h n0 cells slots) (B : Base p s m meth c Z y0 bytes0 maxL0 ret0) (A : Ary Z h a .int n f) (q0 : ¬ j < 0) (q1 : j.toNatClampNeg < n) (ga : n0 ≤ a) (hd : decode bytes0 pc = .ok (.iastore, 1))
    (k : ∀ T' h', Sd p l e R s m args below meth c T' h' n0 cells slots → Wr h h' a j.toNatClampNeg (.int x) → Ary Z h' a .int n (aup f j.toNatClampNeg (.int x)) → Goes p.tables e below Φ T' (mkF m (pc + 1) Ls rest)) : Goes p.tables e below Φ T (mkF m pc Ls (.int x :: .int j :: .ref a :: rest)) := by
  obtain ⟨locs, X, eT, N, hn⟩ := S
  have A' := A
  obtain ⟨cl, A, r1, r2, r3⟩ := A
  obtain ⟨T', h', X', e', W, stp⟩ := RoadKit.stI X B.1 B.2.1 eT A (j := j) (by rw [r1]; exact fun z => z.elim q0 (Nat.not_le.mpr q1)) (g := mkF m pc Ls (.int x :: .int j :: .ref a :: rest)) rfl rfl (B.d hd)
  exact Goes.go stp (k T' h' ⟨_, X', e', Fr.snoc X' N ga, hn⟩ W (A'.set W q1))
theorem Goes.lastore {x : Int64} (S : Sd p l e R s m args below meth c T h n0 cells slots) (B : Base p s m meth c Z y0 bytes0 maxL0 ret0) (A : Ary Z h a .long n f) (q0 : ¬ j < 0) (q1 : j.toNatClampNeg < n) (ga : n0 ≤ a) (hd : decode bytes0 pc = .ok (.lastore, 1))
    (k : ∀ T' h', Sd p l e R s m args below meth c T' h' n0 cells slots → Wr h h' a j.toNatClampNeg (.long x) → Ary Z h' a .long n (aup f j.toNatClampNeg (.long x)) → Goes p.tables e below Φ T' (mkF m (pc + 1) Ls rest)) : Goes p.tables e below Φ T (mkF m pc Ls (.long x :: .int j :: .ref a :: rest)) := by
  obtain ⟨locs, X, eT, N, hn⟩ := S
  have A' := A
  obtain ⟨cl, A, r1, r2, r3⟩ := A
  obtain ⟨T', h', X', e', W, stp⟩ := RoadKit.stJ X B.1 B.2.1 eT A (j := j) (by rw [r1]; exact fun z => z.elim q0 (Nat.not_le.mpr q1)) (g := mkF m pc Ls (.long x :: .int j :: .ref a :: rest)) rfl rfl (B.d hd)
  exact Goes.go stp (k T' h' ⟨_, X', e', Fr.snoc X' N ga, hn⟩ W (A'.set W q1))
theorem Goes.bastore {x : Int32} (S : Sd p l e R s m args below meth c T h n0 cells slots) (B : Base p s m meth c Z y0 bytes0 maxL0 ret0) (A : Ary Z h a .byte n f) (q0 : ¬ j < 0) (q1 : j.toNatClampNeg < n) (ga : n0 ≤ a) (hd : decode bytes0 pc = .ok (.bastore, 1))
    (k : ∀ T' h', Sd p l e R s m args below meth c T' h' n0 cells slots → Wr h h' a j.toNatClampNeg (.int (nar .byte x)) → Ary Z h' a .byte n (aup f j.toNatClampNeg (.int (nar .byte x))) → Goes p.tables e below Φ T' (mkF m (pc + 1) Ls rest)) : Goes p.tables e below Φ T (mkF m pc Ls (.int x :: .int j :: .ref a :: rest)) := by
  obtain ⟨locs, X, eT, N, hn⟩ := S
  have A' := A
  obtain ⟨cl, A, r1, r2, r3⟩ := A
  obtain ⟨T', h', X', e', W, stp⟩ := RoadKit.stB X B.1 B.2.1 eT A (j := j) (by rw [r1]; exact fun z => z.elim q0 (Nat.not_le.mpr q1)) (g := mkF m pc Ls (.int x :: .int j :: .ref a :: rest)) rfl rfl (B.d hd)
  exact Goes.go stp (k T' h' ⟨_, X', e', Fr.snoc X' N ga, hn⟩ W (A'.set W q1))
theorem Goes.zastore {x : Int32} (S : Sd p l e R s m args below meth c T h n0 cells slots) (B : Base p s m meth c Z y0 bytes0 maxL0 ret0) (A : Ary Z h a .boolean n f) (q0 : ¬ j < 0) (q1 : j.toNatClampNeg < n) (ga : n0 ≤ a) (hd : decode bytes0 pc = .ok (.bastore, 1))
    (k : ∀ T' h', Sd p l e R s m args below meth c T' h' n0 cells slots → Wr h h' a j.toNatClampNeg (.int (nar .boolean x)) → Ary Z h' a .boolean n (aup f j.toNatClampNeg (.int (nar .boolean x))) → Goes p.tables e below Φ T' (mkF m (pc + 1) Ls rest)) : Goes p.tables e below Φ T (mkF m pc Ls (.int x :: .int j :: .ref a :: rest)) := by
  obtain ⟨locs, X, eT, N, hn⟩ := S
  have A' := A
  obtain ⟨cl, A, r1, r2, r3⟩ := A
  obtain ⟨T', h', X', e', W, stp⟩ := RoadKit.stZ X B.1 B.2.1 eT A (j := j) (by rw [r1]; exact fun z => z.elim q0 (Nat.not_le.mpr q1)) (g := mkF m pc Ls (.int x :: .int j :: .ref a :: rest)) rfl rfl (B.d hd)
  exact Goes.go stp (k T' h' ⟨_, X', e', Fr.snoc X' N ga, hn⟩ W (A'.set W q1))
end Arrays
end Lay
end Jvm.OwnKit
namespace Jvm.Pilot.@@N@@
open Jvm Jvm.ClassFile Sem Op Lib Jvm.Free Jvm.Stand Jvm.LawKit Jvm.RoadKit Jvm.OwnKit Bundle Jvm.Pilot.@@N@@.Jvm.D
theorem w0 {Z : State} {a0 : Array Value} (hw : ∀ d ∈ tables_1, d.before a0 Z = true) : ((Jvm.Cond.classLink "com/example/bucket_brigade/bucketbrigade/PermitLogKeepNewestPinLaw" (7 : Nat) "com/example/bucket_brigade/bucketbrigade/PermitLog") : Jvm.Cond).before a0 Z = true := hw _ (List.mem_of_getElem? (i := 0) rfl)
theorem w1 {Z : State} {a0 : Array Value} (hw : ∀ d ∈ tables_1, d.before a0 Z = true) : ((Jvm.Cond.instantiable "com/example/bucket_brigade/bucketbrigade/PermitLog" (6 : Nat)) : Jvm.Cond).before a0 Z = true := hw _ (List.mem_of_getElem? (i := 1) rfl)
theorem w2 {Z : State} {a0 : Array Value} (hw : ∀ d ∈ tables_1, d.before a0 Z = true) : ((Jvm.Cond.initialized "com/example/bucket_brigade/bucketbrigade/PermitLog") : Jvm.Cond).before a0 Z = true := hw _ (List.mem_of_getElem? (i := 2) rfl)
theorem w3 {Z : State} {a0 : Array Value} (hw : ∀ d ∈ tables_1, d.before a0 Z = true) : ((Jvm.Cond.methodLink "com/example/bucket_brigade/bucketbrigade/PermitLogKeepNewestPinLaw" (9 : Nat) ({ cls := "com/example/bucket_brigade/bucketbrigade/PermitLog", name := "<init>", desc := "(J)V" } : Jvm.MethodName)) : Jvm.Cond).before a0 Z = true := hw _ (List.mem_of_getElem? (i := 3) rfl)
theorem w4 {Z : State} {a0 : Array Value} (hw : ∀ d ∈ tables_1, d.before a0 Z = true) : ((Jvm.Cond.instanceMethod ({ cls := "com/example/bucket_brigade/bucketbrigade/PermitLog", name := "<init>", desc := "(J)V" } : Jvm.MethodName)) : Jvm.Cond).before a0 Z = true := hw _ (List.mem_of_getElem? (i := 4) rfl)
theorem w5 {Z : State} {a0 : Array Value} (hw : ∀ d ∈ tables_1, d.before a0 Z = true) : ((Jvm.Cond.code ({ cls := "com/example/bucket_brigade/bucketbrigade/PermitLog", name := "<init>", desc := "(J)V" } : Jvm.MethodName) prog_25_method_1_code (3 : Nat) (Option.none : Option Jvm.ClassFile.FieldType)) : Jvm.Cond).before a0 Z = true := hw _ (List.mem_of_getElem? (i := 5) rfl)
theorem w6 {Z : State} {a0 : Array Value} (hw : ∀ d ∈ tables_1, d.before a0 Z = true) : ((Jvm.Cond.methodLink "com/example/bucket_brigade/bucketbrigade/PermitLog" (1 : Nat) ({ cls := "java/lang/Object", name := "<init>", desc := "()V" } : Jvm.MethodName)) : Jvm.Cond).before a0 Z = true := hw _ (List.mem_of_getElem? (i := 6) rfl)
theorem w7 {Z : State} {a0 : Array Value} (hw : ∀ d ∈ tables_1, d.before a0 Z = true) : ((Jvm.Cond.instanceMethod ({ cls := "java/lang/Object", name := "<init>", desc := "()V" } : Jvm.MethodName)) : Jvm.Cond).before a0 Z = true := hw _ (List.mem_of_getElem? (i := 7) rfl)
theorem w8 {Z : State} {a0 : Array Value} (hw : ∀ d ∈ tables_1, d.before a0 Z = true) : ((Jvm.Cond.code ({ cls := "java/lang/Object", name := "<init>", desc := "()V" } : Jvm.MethodName) object_method_1_code (1 : Nat) (Option.none : Option Jvm.ClassFile.FieldType)) : Jvm.Cond).before a0 Z = true := hw _ (List.mem_of_getElem? (i := 8) rfl)
theorem w9 {Z : State} {a0 : Array Value} (hw : ∀ d ∈ tables_1, d.before a0 Z = true) : ((Jvm.Cond.arrayClass Jvm.ClassFile.FieldType.long) : Jvm.Cond).before a0 Z = true := hw _ (List.mem_of_getElem? (i := 9) rfl)
theorem w10 {Z : State} {a0 : Array Value} (hw : ∀ d ∈ tables_1, d.before a0 Z = true) : ((Jvm.Cond.fieldLink "com/example/bucket_brigade/bucketbrigade/PermitLog" (9 : Nat) "com/example/bucket_brigade/bucketbrigade/PermitLog" "instants" "[J") : Jvm.Cond).before a0 Z = true := hw _ (List.mem_of_getElem? (i := 10) rfl)
theorem w11 {Z : State} {a0 : Array Value} (hw : ∀ d ∈ tables_1, d.before a0 Z = true) : ((Jvm.Cond.lays "com/example/bucket_brigade/bucketbrigade/PermitLog" "com/example/bucket_brigade/bucketbrigade/PermitLog" "instants" "[J") : Jvm.Cond).before a0 Z = true := hw _ (List.mem_of_getElem? (i := 11) rfl)
theorem w12 {Z : State} {a0 : Array Value} (hw : ∀ d ∈ tables_1, d.before a0 Z = true) : ((Jvm.Cond.fieldLink "com/example/bucket_brigade/bucketbrigade/PermitLog" (13 : Nat) "com/example/bucket_brigade/bucketbrigade/PermitLog" "lastNumbers" "[J") : Jvm.Cond).before a0 Z = true := hw _ (List.mem_of_getElem? (i := 12) rfl)
theorem w13 {Z : State} {a0 : Array Value} (hw : ∀ d ∈ tables_1, d.before a0 Z = true) : ((Jvm.Cond.lays "com/example/bucket_brigade/bucketbrigade/PermitLog" "com/example/bucket_brigade/bucketbrigade/PermitLog" "lastNumbers" "[J") : Jvm.Cond).before a0 Z = true := hw _ (List.mem_of_getElem? (i := 13) rfl)
theorem w14 {Z : State} {a0 : Array Value} (hw : ∀ d ∈ tables_1, d.before a0 Z = true) : ((Jvm.Cond.fieldLink "com/example/bucket_brigade/bucketbrigade/PermitLog" (16 : Nat) "com/example/bucket_brigade/bucketbrigade/PermitLog" "completeFrom" "J") : Jvm.Cond).before a0 Z = true := hw _ (List.mem_of_getElem? (i := 14) rfl)
theorem w15 {Z : State} {a0 : Array Value} (hw : ∀ d ∈ tables_1, d.before a0 Z = true) : ((Jvm.Cond.laysFinal "com/example/bucket_brigade/bucketbrigade/PermitLog" "com/example/bucket_brigade/bucketbrigade/PermitLog" "completeFrom" "J") : Jvm.Cond).before a0 Z = true := hw _ (List.mem_of_getElem? (i := 15) rfl)
theorem w16 {Z : State} {a0 : Array Value} (hw : ∀ d ∈ tables_1, d.before a0 Z = true) : ((Jvm.Cond.methodLink "com/example/bucket_brigade/bucketbrigade/PermitLogKeepNewestPinLaw" (12 : Nat) ({ cls := "com/example/bucket_brigade/bucketbrigade/PermitLog", name := "add", desc := "(JJ)V" } : Jvm.MethodName)) : Jvm.Cond).before a0 Z = true := hw _ (List.mem_of_getElem? (i := 16) rfl)
theorem w17 {Z : State} {a0 : Array Value} (hw : ∀ d ∈ tables_1, d.before a0 Z = true) : ((Jvm.Cond.declares ({ cls := "com/example/bucket_brigade/bucketbrigade/PermitLog", name := "add", desc := "(JJ)V" } : Jvm.MethodName)) : Jvm.Cond).before a0 Z = true := hw _ (List.mem_of_getElem? (i := 17) rfl)
theorem w18 {Z : State} {a0 : Array Value} (hw : ∀ d ∈ tables_1, d.before a0 Z = true) : ((Jvm.Cond.instanceMethod ({ cls := "com/example/bucket_brigade/bucketbrigade/PermitLog", name := "add", desc := "(JJ)V" } : Jvm.MethodName)) : Jvm.Cond).before a0 Z = true := hw _ (List.mem_of_getElem? (i := 18) rfl)
theorem w19 {Z : State} {a0 : Array Value} (hw : ∀ d ∈ tables_1, d.before a0 Z = true) : ((Jvm.Cond.selects "com/example/bucket_brigade/bucketbrigade/PermitLog" ({ cls := "com/example/bucket_brigade/bucketbrigade/PermitLog", name := "add", desc := "(JJ)V" } : Jvm.MethodName) ({ cls := "com/example/bucket_brigade/bucketbrigade/PermitLog", name := "add", desc := "(JJ)V" } : Jvm.MethodName)) : Jvm.Cond).before a0 Z = true := hw _ (List.mem_of_getElem? (i := 19) rfl)
theorem w20 {Z : State} {a0 : Array Value} (hw : ∀ d ∈ tables_1, d.before a0 Z = true) : ((Jvm.Cond.code ({ cls := "com/example/bucket_brigade/bucketbrigade/PermitLog", name := "add", desc := "(JJ)V" } : Jvm.MethodName) prog_25_method_9_code (7 : Nat) (Option.none : Option Jvm.ClassFile.FieldType)) : Jvm.Cond).before a0 Z = true := hw _ (List.mem_of_getElem? (i := 20) rfl)
theorem w21 {Z : State} {a0 : Array Value} (hw : ∀ d ∈ tables_1, d.before a0 Z = true) : ((Jvm.Cond.methodLink "com/example/bucket_brigade/bucketbrigade/PermitLog" (38 : Nat) ({ cls := "com/example/bucket_brigade/bucketbrigade/PermitLog", name := "firstAtOrAfter", desc := "(J)I" } : Jvm.MethodName)) : Jvm.Cond).before a0 Z = true := hw _ (List.mem_of_getElem? (i := 21) rfl)
theorem w22 {Z : State} {a0 : Array Value} (hw : ∀ d ∈ tables_1, d.before a0 Z = true) : ((Jvm.Cond.instanceMethod ({ cls := "com/example/bucket_brigade/bucketbrigade/PermitLog", name := "firstAtOrAfter", desc := "(J)I" } : Jvm.MethodName)) : Jvm.Cond).before a0 Z = true := hw _ (List.mem_of_getElem? (i := 22) rfl)
theorem w23 {Z : State} {a0 : Array Value} (hw : ∀ d ∈ tables_1, d.before a0 Z = true) : ((Jvm.Cond.privateMethod ({ cls := "com/example/bucket_brigade/bucketbrigade/PermitLog", name := "firstAtOrAfter", desc := "(J)I" } : Jvm.MethodName)) : Jvm.Cond).before a0 Z = true := hw _ (List.mem_of_getElem? (i := 23) rfl)
theorem w24 {Z : State} {a0 : Array Value} (hw : ∀ d ∈ tables_1, d.before a0 Z = true) : ((Jvm.Cond.code ({ cls := "com/example/bucket_brigade/bucketbrigade/PermitLog", name := "firstAtOrAfter", desc := "(J)I" } : Jvm.MethodName) prog_25_method_16_code (6 : Nat) (Option.some Jvm.ClassFile.FieldType.int)) : Jvm.Cond).before a0 Z = true := hw _ (List.mem_of_getElem? (i := 24) rfl)
theorem w25 {Z : State} {a0 : Array Value} (hw : ∀ d ∈ tables_1, d.before a0 Z = true) : ((Jvm.Cond.fieldLink "com/example/bucket_brigade/bucketbrigade/PermitLog" (20 : Nat) "com/example/bucket_brigade/bucketbrigade/PermitLog" "size" "I") : Jvm.Cond).before a0 Z = true := hw _ (List.mem_of_getElem? (i := 25) rfl)
theorem w26 {Z : State} {a0 : Array Value} (hw : ∀ d ∈ tables_1, d.before a0 Z = true) : ((Jvm.Cond.lays "com/example/bucket_brigade/bucketbrigade/PermitLog" "com/example/bucket_brigade/bucketbrigade/PermitLog" "size" "I") : Jvm.Cond).before a0 Z = true := hw _ (List.mem_of_getElem? (i := 26) rfl)
theorem w27 {Z : State} {a0 : Array Value} (hw : ∀ d ∈ tables_1, d.before a0 Z = true) : ((Jvm.Cond.methodLink "com/example/bucket_brigade/bucketbrigade/PermitLog" (41 : Nat) ({ cls := "com/example/bucket_brigade/bucketbrigade/PermitLog", name := "numberBefore", desc := "(I)J" } : Jvm.MethodName)) : Jvm.Cond).before a0 Z = true := hw _ (List.mem_of_getElem? (i := 27) rfl)
theorem w28 {Z : State} {a0 : Array Value} (hw : ∀ d ∈ tables_1, d.before a0 Z = true) : ((Jvm.Cond.instanceMethod ({ cls := "com/example/bucket_brigade/bucketbrigade/PermitLog", name := "numberBefore", desc := "(I)J" } : Jvm.MethodName)) : Jvm.Cond).before a0 Z = true := hw _ (List.mem_of_getElem? (i := 28) rfl)
theorem w29 {Z : State} {a0 : Array Value} (hw : ∀ d ∈ tables_1, d.before a0 Z = true) : ((Jvm.Cond.privateMethod ({ cls := "com/example/bucket_brigade/bucketbrigade/PermitLog", name := "numberBefore", desc := "(I)J" } : Jvm.MethodName)) : Jvm.Cond).before a0 Z = true := hw _ (List.mem_of_getElem? (i := 29) rfl)
theorem w30 {Z : State} {a0 : Array Value} (hw : ∀ d ∈ tables_1, d.before a0 Z = true) : ((Jvm.Cond.code ({ cls := "com/example/bucket_brigade/bucketbrigade/PermitLog", name := "numberBefore", desc := "(I)J" } : Jvm.MethodName) prog_25_method_17_code (2 : Nat) (Option.some Jvm.ClassFile.FieldType.long)) : Jvm.Cond).before a0 Z = true := hw _ (List.mem_of_getElem? (i := 30) rfl)
theorem w31 {Z : State} {a0 : Array Value} (hw : ∀ d ∈ tables_1, d.before a0 Z = true) : ((Jvm.Cond.fieldLink "com/example/bucket_brigade/bucketbrigade/PermitLog" (28 : Nat) "com/example/bucket_brigade/bucketbrigade/PermitLog" "dropped" "J") : Jvm.Cond).before a0 Z = true := hw _ (List.mem_of_getElem? (i := 31) rfl)
theorem w32 {Z : State} {a0 : Array Value} (hw : ∀ d ∈ tables_1, d.before a0 Z = true) : ((Jvm.Cond.lays "com/example/bucket_brigade/bucketbrigade/PermitLog" "com/example/bucket_brigade/bucketbrigade/PermitLog" "dropped" "J") : Jvm.Cond).before a0 Z = true := hw _ (List.mem_of_getElem? (i := 32) rfl)
theorem w33 {Z : State} {a0 : Array Value} (hw : ∀ d ∈ tables_1, d.before a0 Z = true) : ((Jvm.Cond.methodLink "com/example/bucket_brigade/bucketbrigade/PermitLog" (44 : Nat) ({ cls := "com/example/bucket_brigade/bucketbrigade/PermitLog", name := "insert", desc := "(IJJ)V" } : Jvm.MethodName)) : Jvm.Cond).before a0 Z = true := hw _ (List.mem_of_getElem? (i := 33) rfl)
theorem w34 {Z : State} {a0 : Array Value} (hw : ∀ d ∈ tables_1, d.before a0 Z = true) : ((Jvm.Cond.instanceMethod ({ cls := "com/example/bucket_brigade/bucketbrigade/PermitLog", name := "insert", desc := "(IJJ)V" } : Jvm.MethodName)) : Jvm.Cond).before a0 Z = true := hw _ (List.mem_of_getElem? (i := 34) rfl)
theorem w35 {Z : State} {a0 : Array Value} (hw : ∀ d ∈ tables_1, d.before a0 Z = true) : ((Jvm.Cond.privateMethod ({ cls := "com/example/bucket_brigade/bucketbrigade/PermitLog", name := "insert", desc := "(IJJ)V" } : Jvm.MethodName)) : Jvm.Cond).before a0 Z = true := hw _ (List.mem_of_getElem? (i := 35) rfl)
theorem w36 {Z : State} {a0 : Array Value} (hw : ∀ d ∈ tables_1, d.before a0 Z = true) : ((Jvm.Cond.code ({ cls := "com/example/bucket_brigade/bucketbrigade/PermitLog", name := "insert", desc := "(IJJ)V" } : Jvm.MethodName) prog_25_method_13_code (7 : Nat) (Option.none : Option Jvm.ClassFile.FieldType)) : Jvm.Cond).before a0 Z = true := hw _ (List.mem_of_getElem? (i := 36) rfl)
theorem w37 {Z : State} {a0 : Array Value} (hw : ∀ d ∈ tables_1, d.before a0 Z = true) : ((Jvm.Cond.methodLink "com/example/bucket_brigade/bucketbrigade/PermitLog" (48 : Nat) ({ cls := "com/example/bucket_brigade/bucketbrigade/PermitLog", name := "slot", desc := "(I)I" } : Jvm.MethodName)) : Jvm.Cond).before a0 Z = true := hw _ (List.mem_of_getElem? (i := 37) rfl)
theorem w38 {Z : State} {a0 : Array Value} (hw : ∀ d ∈ tables_1, d.before a0 Z = true) : ((Jvm.Cond.instanceMethod ({ cls := "com/example/bucket_brigade/bucketbrigade/PermitLog", name := "slot", desc := "(I)I" } : Jvm.MethodName)) : Jvm.Cond).before a0 Z = true := hw _ (List.mem_of_getElem? (i := 38) rfl)
theorem w39 {Z : State} {a0 : Array Value} (hw : ∀ d ∈ tables_1, d.before a0 Z = true) : ((Jvm.Cond.privateMethod ({ cls := "com/example/bucket_brigade/bucketbrigade/PermitLog", name := "slot", desc := "(I)I" } : Jvm.MethodName)) : Jvm.Cond).before a0 Z = true := hw _ (List.mem_of_getElem? (i := 39) rfl)
theorem w40 {Z : State} {a0 : Array Value} (hw : ∀ d ∈ tables_1, d.before a0 Z = true) : ((Jvm.Cond.code ({ cls := "com/example/bucket_brigade/bucketbrigade/PermitLog", name := "slot", desc := "(I)I" } : Jvm.MethodName) prog_25_method_20_code (2 : Nat) (Option.some Jvm.ClassFile.FieldType.int)) : Jvm.Cond).before a0 Z = true := hw _ (List.mem_of_getElem? (i := 40) rfl)
theorem w41 {Z : State} {a0 : Array Value} (hw : ∀ d ∈ tables_1, d.before a0 Z = true) : ((Jvm.Cond.fieldLink "com/example/bucket_brigade/bucketbrigade/PermitLog" (59 : Nat) "com/example/bucket_brigade/bucketbrigade/PermitLog" "first" "I") : Jvm.Cond).before a0 Z = true := hw _ (List.mem_of_getElem? (i := 41) rfl)
theorem w42 {Z : State} {a0 : Array Value} (hw : ∀ d ∈ tables_1, d.before a0 Z = true) : ((Jvm.Cond.lays "com/example/bucket_brigade/bucketbrigade/PermitLog" "com/example/bucket_brigade/bucketbrigade/PermitLog" "first" "I") : Jvm.Cond).before a0 Z = true := hw _ (List.mem_of_getElem? (i := 42) rfl)
theorem w43 {Z : State} {a0 : Array Value} (hw : ∀ d ∈ tables_1, d.before a0 Z = true) : ((Jvm.Cond.methodLink "com/example/bucket_brigade/bucketbrigade/PermitLog" (31 : Nat) ({ cls := "com/example/bucket_brigade/bucketbrigade/PermitLog", name := "instant", desc := "(I)J" } : Jvm.MethodName)) : Jvm.Cond).before a0 Z = true := hw _ (List.mem_of_getElem? (i := 43) rfl)
theorem w44 {Z : State} {a0 : Array Value} (hw : ∀ d ∈ tables_1, d.before a0 Z = true) : ((Jvm.Cond.instanceMethod ({ cls := "com/example/bucket_brigade/bucketbrigade/PermitLog", name := "instant", desc := "(I)J" } : Jvm.MethodName)) : Jvm.Cond).before a0 Z = true := hw _ (List.mem_of_getElem? (i := 44) rfl)
theorem w45 {Z : State} {a0 : Array Value} (hw : ∀ d ∈ tables_1, d.before a0 Z = true) : ((Jvm.Cond.privateMethod ({ cls := "com/example/bucket_brigade/bucketbrigade/PermitLog", name := "instant", desc := "(I)J" } : Jvm.MethodName)) : Jvm.Cond).before a0 Z = true := hw _ (List.mem_of_getElem? (i := 45) rfl)
theorem w46 {Z : State} {a0 : Array Value} (hw : ∀ d ∈ tables_1, d.before a0 Z = true) : ((Jvm.Cond.code ({ cls := "com/example/bucket_brigade/bucketbrigade/PermitLog", name := "instant", desc := "(I)J" } : Jvm.MethodName) prog_25_method_18_code (2 : Nat) (Option.some Jvm.ClassFile.FieldType.long)) : Jvm.Cond).before a0 Z = true := hw _ (List.mem_of_getElem? (i := 46) rfl)
theorem w47 {Z : State} {a0 : Array Value} (hw : ∀ d ∈ tables_1, d.before a0 Z = true) : ((Jvm.Cond.methodLink "com/example/bucket_brigade/bucketbrigade/PermitLog" (24 : Nat) ({ cls := "com/example/bucket_brigade/bucketbrigade/PermitLog", name := "lastNumber", desc := "(I)J" } : Jvm.MethodName)) : Jvm.Cond).before a0 Z = true := hw _ (List.mem_of_getElem? (i := 47) rfl)
theorem w48 {Z : State} {a0 : Array Value} (hw : ∀ d ∈ tables_1, d.before a0 Z = true) : ((Jvm.Cond.instanceMethod ({ cls := "com/example/bucket_brigade/bucketbrigade/PermitLog", name := "lastNumber", desc := "(I)J" } : Jvm.MethodName)) : Jvm.Cond).before a0 Z = true := hw _ (List.mem_of_getElem? (i := 48) rfl)
theorem w49 {Z : State} {a0 : Array Value} (hw : ∀ d ∈ tables_1, d.before a0 Z = true) : ((Jvm.Cond.privateMethod ({ cls := "com/example/bucket_brigade/bucketbrigade/PermitLog", name := "lastNumber", desc := "(I)J" } : Jvm.MethodName)) : Jvm.Cond).before a0 Z = true := hw _ (List.mem_of_getElem? (i := 49) rfl)
theorem w50 {Z : State} {a0 : Array Value} (hw : ∀ d ∈ tables_1, d.before a0 Z = true) : ((Jvm.Cond.code ({ cls := "com/example/bucket_brigade/bucketbrigade/PermitLog", name := "lastNumber", desc := "(I)J" } : Jvm.MethodName) prog_25_method_19_code (2 : Nat) (Option.some Jvm.ClassFile.FieldType.long)) : Jvm.Cond).before a0 Z = true := hw _ (List.mem_of_getElem? (i := 50) rfl)
theorem w51 {Z : State} {a0 : Array Value} (hw : ∀ d ∈ tables_1, d.before a0 Z = true) : ((Jvm.Cond.methodLink "com/example/bucket_brigade/bucketbrigade/PermitLogKeepNewestPinLaw" (16 : Nat) ({ cls := "com/example/bucket_brigade/bucketbrigade/PermitLog", name := "keepNewest", desc := "(J)V" } : Jvm.MethodName)) : Jvm.Cond).before a0 Z = true := hw _ (List.mem_of_getElem? (i := 51) rfl)
theorem w52 {Z : State} {a0 : Array Value} (hw : ∀ d ∈ tables_1, d.before a0 Z = true) : ((Jvm.Cond.declares ({ cls := "com/example/bucket_brigade/bucketbrigade/PermitLog", name := "keepNewest", desc := "(J)V" } : Jvm.MethodName)) : Jvm.Cond).before a0 Z = true := hw _ (List.mem_of_getElem? (i := 52) rfl)
theorem w53 {Z : State} {a0 : Array Value} (hw : ∀ d ∈ tables_1, d.before a0 Z = true) : ((Jvm.Cond.instanceMethod ({ cls := "com/example/bucket_brigade/bucketbrigade/PermitLog", name := "keepNewest", desc := "(J)V" } : Jvm.MethodName)) : Jvm.Cond).before a0 Z = true := hw _ (List.mem_of_getElem? (i := 53) rfl)
theorem w54 {Z : State} {a0 : Array Value} (hw : ∀ d ∈ tables_1, d.before a0 Z = true) : ((Jvm.Cond.selects "com/example/bucket_brigade/bucketbrigade/PermitLog" ({ cls := "com/example/bucket_brigade/bucketbrigade/PermitLog", name := "keepNewest", desc := "(J)V" } : Jvm.MethodName) ({ cls := "com/example/bucket_brigade/bucketbrigade/PermitLog", name := "keepNewest", desc := "(J)V" } : Jvm.MethodName)) : Jvm.Cond).before a0 Z = true := hw _ (List.mem_of_getElem? (i := 54) rfl)
theorem w55 {Z : State} {a0 : Array Value} (hw : ∀ d ∈ tables_1, d.before a0 Z = true) : ((Jvm.Cond.code ({ cls := "com/example/bucket_brigade/bucketbrigade/PermitLog", name := "keepNewest", desc := "(J)V" } : Jvm.MethodName) prog_25_method_10_code (7 : Nat) (Option.none : Option Jvm.ClassFile.FieldType)) : Jvm.Cond).before a0 Z = true := hw _ (List.mem_of_getElem? (i := 55) rfl)
theorem w56 {Z : State} {a0 : Array Value} (hw : ∀ d ∈ tables_1, d.before a0 Z = true) : ((Jvm.Cond.methodLink "com/example/bucket_brigade/bucketbrigade/PermitLog" (52 : Nat) ({ cls := "com/example/bucket_brigade/bucketbrigade/PermitLog", name := "permits", desc := "()J" } : Jvm.MethodName)) : Jvm.Cond).before a0 Z = true := hw _ (List.mem_of_getElem? (i := 56) rfl)
theorem w57 {Z : State} {a0 : Array Value} (hw : ∀ d ∈ tables_1, d.before a0 Z = true) : ((Jvm.Cond.declares ({ cls := "com/example/bucket_brigade/bucketbrigade/PermitLog", name := "permits", desc := "()J" } : Jvm.MethodName)) : Jvm.Cond).before a0 Z = true := hw _ (List.mem_of_getElem? (i := 57) rfl)
theorem w58 {Z : State} {a0 : Array Value} (hw : ∀ d ∈ tables_1, d.before a0 Z = true) : ((Jvm.Cond.instanceMethod ({ cls := "com/example/bucket_brigade/bucketbrigade/PermitLog", name := "permits", desc := "()J" } : Jvm.MethodName)) : Jvm.Cond).before a0 Z = true := hw _ (List.mem_of_getElem? (i := 58) rfl)
theorem w59 {Z : State} {a0 : Array Value} (hw : ∀ d ∈ tables_1, d.before a0 Z = true) : ((Jvm.Cond.selects "com/example/bucket_brigade/bucketbrigade/PermitLog" ({ cls := "com/example/bucket_brigade/bucketbrigade/PermitLog", name := "permits", desc := "()J" } : Jvm.MethodName) ({ cls := "com/example/bucket_brigade/bucketbrigade/PermitLog", name := "permits", desc := "()J" } : Jvm.MethodName)) : Jvm.Cond).before a0 Z = true := hw _ (List.mem_of_getElem? (i := 59) rfl)
theorem w60 {Z : State} {a0 : Array Value} (hw : ∀ d ∈ tables_1, d.before a0 Z = true) : ((Jvm.Cond.code ({ cls := "com/example/bucket_brigade/bucketbrigade/PermitLog", name := "permits", desc := "()J" } : Jvm.MethodName) prog_25_method_4_code (1 : Nat) (Option.some Jvm.ClassFile.FieldType.long)) : Jvm.Cond).before a0 Z = true := hw _ (List.mem_of_getElem? (i := 60) rfl)
theorem w61 {Z : State} {a0 : Array Value} (hw : ∀ d ∈ tables_1, d.before a0 Z = true) : ((Jvm.Cond.methodLink "com/example/bucket_brigade/bucketbrigade/PermitLog" (56 : Nat) ({ cls := "com/example/bucket_brigade/bucketbrigade/PermitLog", name := "dropOldest", desc := "()V" } : Jvm.MethodName)) : Jvm.Cond).before a0 Z = true := hw _ (List.mem_of_getElem? (i := 61) rfl)
theorem w62 {Z : State} {a0 : Array Value} (hw : ∀ d ∈ tables_1, d.before a0 Z = true) : ((Jvm.Cond.instanceMethod ({ cls := "com/example/bucket_brigade/bucketbrigade/PermitLog", name := "dropOldest", desc := "()V" } : Jvm.MethodName)) : Jvm.Cond).before a0 Z = true := hw _ (List.mem_of_getElem? (i := 62) rfl)
theorem w63 {Z : State} {a0 : Array Value} (hw : ∀ d ∈ tables_1, d.before a0 Z = true) : ((Jvm.Cond.privateMethod ({ cls := "com/example/bucket_brigade/bucketbrigade/PermitLog", name := "dropOldest", desc := "()V" } : Jvm.MethodName)) : Jvm.Cond).before a0 Z = true := hw _ (List.mem_of_getElem? (i := 63) rfl)
theorem w64 {Z : State} {a0 : Array Value} (hw : ∀ d ∈ tables_1, d.before a0 Z = true) : ((Jvm.Cond.code ({ cls := "com/example/bucket_brigade/bucketbrigade/PermitLog", name := "dropOldest", desc := "()V" } : Jvm.MethodName) prog_25_method_12_code (1 : Nat) (Option.none : Option Jvm.ClassFile.FieldType)) : Jvm.Cond).before a0 Z = true := hw _ (List.mem_of_getElem? (i := 64) rfl)
theorem w65 {Z : State} {a0 : Array Value} (hw : ∀ d ∈ tables_1, d.before a0 Z = true) : ((Jvm.Cond.methodLink "com/example/bucket_brigade/bucketbrigade/PermitLogKeepNewestPinLaw" (19 : Nat) ({ cls := "java/lang/Math", name := "min", desc := "(JJ)J" } : Jvm.MethodName)) : Jvm.Cond).before a0 Z = true := hw _ (List.mem_of_getElem? (i := 65) rfl)
theorem w66 {Z : State} {a0 : Array Value} (hw : ∀ d ∈ tables_1, d.before a0 Z = true) : ((Jvm.Cond.static ({ cls := "java/lang/Math", name := "min", desc := "(JJ)J" } : Jvm.MethodName)) : Jvm.Cond).before a0 Z = true := hw _ (List.mem_of_getElem? (i := 66) rfl)
theorem w67 {Z : State} {a0 : Array Value} (hw : ∀ d ∈ tables_1, d.before a0 Z = true) : ((Jvm.Cond.initialized "java/lang/Math") : Jvm.Cond).before a0 Z = true := hw _ (List.mem_of_getElem? (i := 67) rfl)
theorem w68 {Z : State} {a0 : Array Value} (hw : ∀ d ∈ tables_1, d.before a0 Z = true) : ((Jvm.Cond.code ({ cls := "java/lang/Math", name := "min", desc := "(JJ)J" } : Jvm.MethodName) jdk_29_method_70_code (4 : Nat) (Option.some Jvm.ClassFile.FieldType.long)) : Jvm.Cond).before a0 Z = true := hw _ (List.mem_of_getElem? (i := 68) rfl)
theorem w69 {Z : State} {a0 : Array Value} (hw : ∀ d ∈ tables_1, d.before a0 Z = true) : ((Jvm.Cond.methodLink "com/example/bucket_brigade/bucketbrigade/PermitLogKeepNewestPinLaw" (25 : Nat) ({ cls := "com/example/bucket_brigade/bucketbrigade/PermitLog", name := "permits", desc := "()J" } : Jvm.MethodName)) : Jvm.Cond).before a0 Z = true := hw _ (List.mem_of_getElem? (i := 69) rfl)
theorem w70 {Z : State} {a0 : Array Value} (hw : ∀ d ∈ tables_1, d.before a0 Z = true) : ((Jvm.Cond.methodLink "com/example/bucket_brigade/bucketbrigade/PermitLogKeepNewestPinLaw" (29 : Nat) ({ cls := "com/example/bucket_brigade/bucketbrigade/PermitLog", name := "instants", desc := "()I" } : Jvm.MethodName)) : Jvm.Cond).before a0 Z = true := hw _ (List.mem_of_getElem? (i := 70) rfl)
theorem w71 {Z : State} {a0 : Array Value} (hw : ∀ d ∈ tables_1, d.before a0 Z = true) : ((Jvm.Cond.declares ({ cls := "com/example/bucket_brigade/bucketbrigade/PermitLog", name := "instants", desc := "()I" } : Jvm.MethodName)) : Jvm.Cond).before a0 Z = true := hw _ (List.mem_of_getElem? (i := 71) rfl)
theorem w72 {Z : State} {a0 : Array Value} (hw : ∀ d ∈ tables_1, d.before a0 Z = true) : ((Jvm.Cond.instanceMethod ({ cls := "com/example/bucket_brigade/bucketbrigade/PermitLog", name := "instants", desc := "()I" } : Jvm.MethodName)) : Jvm.Cond).before a0 Z = true := hw _ (List.mem_of_getElem? (i := 72) rfl)
theorem w73 {Z : State} {a0 : Array Value} (hw : ∀ d ∈ tables_1, d.before a0 Z = true) : ((Jvm.Cond.selects "com/example/bucket_brigade/bucketbrigade/PermitLog" ({ cls := "com/example/bucket_brigade/bucketbrigade/PermitLog", name := "instants", desc := "()I" } : Jvm.MethodName) ({ cls := "com/example/bucket_brigade/bucketbrigade/PermitLog", name := "instants", desc := "()I" } : Jvm.MethodName)) : Jvm.Cond).before a0 Z = true := hw _ (List.mem_of_getElem? (i := 73) rfl)
theorem w74 {Z : State} {a0 : Array Value} (hw : ∀ d ∈ tables_1, d.before a0 Z = true) : ((Jvm.Cond.code ({ cls := "com/example/bucket_brigade/bucketbrigade/PermitLog", name := "instants", desc := "()I" } : Jvm.MethodName) prog_25_method_3_code (1 : Nat) (Option.some Jvm.ClassFile.FieldType.int)) : Jvm.Cond).before a0 Z = true := hw _ (List.mem_of_getElem? (i := 74) rfl)
theorem w75 {Z : State} {a0 : Array Value} (hw : ∀ d ∈ tables_1, d.before a0 Z = true) : ((Jvm.Cond.methodLink "com/example/bucket_brigade/bucketbrigade/PermitLogKeepNewestPinLaw" (33 : Nat) ({ cls := "com/example/bucket_brigade/bucketbrigade/PermitLog", name := "oldest", desc := "()J" } : Jvm.MethodName)) : Jvm.Cond).before a0 Z = true := hw _ (List.mem_of_getElem? (i := 75) rfl)
theorem w76 {Z : State} {a0 : Array Value} (hw : ∀ d ∈ tables_1, d.before a0 Z = true) : ((Jvm.Cond.declares ({ cls := "com/example/bucket_brigade/bucketbrigade/PermitLog", name := "oldest", desc := "()J" } : Jvm.MethodName)) : Jvm.Cond).before a0 Z = true := hw _ (List.mem_of_getElem? (i := 76) rfl)
theorem w77 {Z : State} {a0 : Array Value} (hw : ∀ d ∈ tables_1, d.before a0 Z = true) : ((Jvm.Cond.instanceMethod ({ cls := "com/example/bucket_brigade/bucketbrigade/PermitLog", name := "oldest", desc := "()J" } : Jvm.MethodName)) : Jvm.Cond).before a0 Z = true := hw _ (List.mem_of_getElem? (i := 77) rfl)
theorem w78 {Z : State} {a0 : Array Value} (hw : ∀ d ∈ tables_1, d.before a0 Z = true) : ((Jvm.Cond.selects "com/example/bucket_brigade/bucketbrigade/PermitLog" ({ cls := "com/example/bucket_brigade/bucketbrigade/PermitLog", name := "oldest", desc := "()J" } : Jvm.MethodName) ({ cls := "com/example/bucket_brigade/bucketbrigade/PermitLog", name := "oldest", desc := "()J" } : Jvm.MethodName)) : Jvm.Cond).before a0 Z = true := hw _ (List.mem_of_getElem? (i := 78) rfl)
theorem w79 {Z : State} {a0 : Array Value} (hw : ∀ d ∈ tables_1, d.before a0 Z = true) : ((Jvm.Cond.code ({ cls := "com/example/bucket_brigade/bucketbrigade/PermitLog", name := "oldest", desc := "()J" } : Jvm.MethodName) prog_25_method_5_code (1 : Nat) (Option.some Jvm.ClassFile.FieldType.long)) : Jvm.Cond).before a0 Z = true := hw _ (List.mem_of_getElem? (i := 79) rfl)
theorem w80 {Z : State} {a0 : Array Value} (hw : ∀ d ∈ tables_1, d.before a0 Z = true) : ((Jvm.Cond.constantLong "com/example/bucket_brigade/bucketbrigade/PermitLogKeepNewestPinLaw" (38 : Nat) (9223372036854775807 : Int64)) : Jvm.Cond).before a0 Z = true := hw _ (List.mem_of_getElem? (i := 80) rfl)
theorem w81 {Z : State} {a0 : Array Value} (hw : ∀ d ∈ tables_1, d.before a0 Z = true) : ((Jvm.Cond.methodLink "com/example/bucket_brigade/bucketbrigade/PermitLogKeepNewestPinLaw" (40 : Nat) ({ cls := "com/example/bucket_brigade/bucketbrigade/PermitLog", name := "count", desc := "(JJ)J" } : Jvm.MethodName)) : Jvm.Cond).before a0 Z = true := hw _ (List.mem_of_getElem? (i := 81) rfl)
theorem w82 {Z : State} {a0 : Array Value} (hw : ∀ d ∈ tables_1, d.before a0 Z = true) : ((Jvm.Cond.declares ({ cls := "com/example/bucket_brigade/bucketbrigade/PermitLog", name := "count", desc := "(JJ)J" } : Jvm.MethodName)) : Jvm.Cond).before a0 Z = true := hw _ (List.mem_of_getElem? (i := 82) rfl)
theorem w83 {Z : State} {a0 : Array Value} (hw : ∀ d ∈ tables_1, d.before a0 Z = true) : ((Jvm.Cond.instanceMethod ({ cls := "com/example/bucket_brigade/bucketbrigade/PermitLog", name := "count", desc := "(JJ)J" } : Jvm.MethodName)) : Jvm.Cond).before a0 Z = true := hw _ (List.mem_of_getElem? (i := 83) rfl)
theorem w84 {Z : State} {a0 : Array Value} (hw : ∀ d ∈ tables_1, d.before a0 Z = true) : ((Jvm.Cond.selects "com/example/bucket_brigade/bucketbrigade/PermitLog" ({ cls := "com/example/bucket_brigade/bucketbrigade/PermitLog", name := "count", desc := "(JJ)J" } : Jvm.MethodName) ({ cls := "com/example/bucket_brigade/bucketbrigade/PermitLog", name := "count", desc := "(JJ)J" } : Jvm.MethodName)) : Jvm.Cond).before a0 Z = true := hw _ (List.mem_of_getElem? (i := 84) rfl)
theorem w85 {Z : State} {a0 : Array Value} (hw : ∀ d ∈ tables_1, d.before a0 Z = true) : ((Jvm.Cond.code ({ cls := "com/example/bucket_brigade/bucketbrigade/PermitLog", name := "count", desc := "(JJ)J" } : Jvm.MethodName) prog_25_method_8_code (7 : Nat) (Option.some Jvm.ClassFile.FieldType.long)) : Jvm.Cond).before a0 Z = true := hw _ (List.mem_of_getElem? (i := 85) rfl)
theorem w86 {Z : State} {a0 : Array Value} (hw : ∀ d ∈ tables_1, d.before a0 Z = true) : ((Jvm.Cond.methodLink "com/example/bucket_brigade/bucketbrigade/PermitLog" (34 : Nat) ({ cls := "com/example/bucket_brigade/bucketbrigade/PermitLog", name := "firstAfter", desc := "(J)I" } : Jvm.MethodName)) : Jvm.Cond).before a0 Z = true := hw _ (List.mem_of_getElem? (i := 86) rfl)
theorem w87 {Z : State} {a0 : Array Value} (hw : ∀ d ∈ tables_1, d.before a0 Z = true) : ((Jvm.Cond.instanceMethod ({ cls := "com/example/bucket_brigade/bucketbrigade/PermitLog", name := "firstAfter", desc := "(J)I" } : Jvm.MethodName)) : Jvm.Cond).before a0 Z = true := hw _ (List.mem_of_getElem? (i := 87) rfl)
theorem w88 {Z : State} {a0 : Array Value} (hw : ∀ d ∈ tables_1, d.before a0 Z = true) : ((Jvm.Cond.privateMethod ({ cls := "com/example/bucket_brigade/bucketbrigade/PermitLog", name := "firstAfter", desc := "(J)I" } : Jvm.MethodName)) : Jvm.Cond).before a0 Z = true := hw _ (List.mem_of_getElem? (i := 88) rfl)
theorem w89 {Z : State} {a0 : Array Value} (hw : ∀ d ∈ tables_1, d.before a0 Z = true) : ((Jvm.Cond.code ({ cls := "com/example/bucket_brigade/bucketbrigade/PermitLog", name := "firstAfter", desc := "(J)I" } : Jvm.MethodName) prog_25_method_15_code (3 : Nat) (Option.some Jvm.ClassFile.FieldType.int)) : Jvm.Cond).before a0 Z = true := hw _ (List.mem_of_getElem? (i := 89) rfl)
theorem w90 {Z : State} {a0 : Array Value} (hw : ∀ d ∈ tables_1, d.before a0 Z = true) : ((Jvm.Cond.constantLong "com/example/bucket_brigade/bucketbrigade/PermitLog" (67 : Nat) (9223372036854775807 : Int64)) : Jvm.Cond).before a0 Z = true := hw _ (List.mem_of_getElem? (i := 90) rfl)
theorem d_prog_25_method_1_0 : decode prog_25_method_1_code 0 = .ok (.aload_n 0, 1) := by decide +kernel
theorem d_prog_25_method_1_1 : decode prog_25_method_1_code 1 = .ok (.invokespecial 1, 3) := by decide +kernel
theorem d_prog_25_method_1_4 : decode prog_25_method_1_code 4 = .ok (.aload_n 0, 1) := by decide +kernel
theorem d_prog_25_method_1_5 : decode prog_25_method_1_code 5 = .ok (.iconst 4, 1) := by decide +kernel
theorem d_prog_25_method_1_6 : decode prog_25_method_1_code 6 = .ok (.newarray .long, 2) := by decide +kernel
theorem d_prog_25_method_1_8 : decode prog_25_method_1_code 8 = .ok (.putfield 9, 3) := by decide +kernel
theorem d_prog_25_method_1_11 : decode prog_25_method_1_code 11 = .ok (.aload_n 0, 1) := by decide +kernel
theorem d_prog_25_method_1_12 : decode prog_25_method_1_code 12 = .ok (.iconst 4, 1) := by decide +kernel
theorem d_prog_25_method_1_13 : decode prog_25_method_1_code 13 = .ok (.newarray .long, 2) := by decide +kernel
theorem d_prog_25_method_1_15 : decode prog_25_method_1_code 15 = .ok (.putfield 13, 3) := by decide +kernel
theorem d_prog_25_method_1_18 : decode prog_25_method_1_code 18 = .ok (.aload_n 0, 1) := by decide +kernel
theorem d_prog_25_method_1_19 : decode prog_25_method_1_code 19 = .ok (.lload_n 1, 1) := by decide +kernel
theorem d_prog_25_method_1_20 : decode prog_25_method_1_code 20 = .ok (.putfield 16, 3) := by decide +kernel
theorem d_prog_25_method_1_23 : decode prog_25_method_1_code 23 = .ok (.return_, 1) := by decide +kernel
theorem d_prog_25_method_20_0 : decode prog_25_method_20_code 0 = .ok (.aload_n 0, 1) := by decide +kernel
theorem d_prog_25_method_20_1 : decode prog_25_method_20_code 1 = .ok (.getfield 59, 3) := by decide +kernel
theorem d_prog_25_method_20_4 : decode prog_25_method_20_code 4 = .ok (.iload_n 1, 1) := by decide +kernel
theorem d_prog_25_method_20_5 : decode prog_25_method_20_code 5 = .ok (.iadd, 1) := by decide +kernel
theorem d_prog_25_method_20_6 : decode prog_25_method_20_code 6 = .ok (.aload_n 0, 1) := by decide +kernel
theorem d_prog_25_method_20_7 : decode prog_25_method_20_code 7 = .ok (.getfield 9, 3) := by decide +kernel
theorem d_prog_25_method_20_10 : decode prog_25_method_20_code 10 = .ok (.arraylength, 1) := by decide +kernel
theorem d_prog_25_method_20_11 : decode prog_25_method_20_code 11 = .ok (.iconst 1, 1) := by decide +kernel
theorem d_prog_25_method_20_12 : decode prog_25_method_20_code 12 = .ok (.isub, 1) := by decide +kernel
theorem d_prog_25_method_20_13 : decode prog_25_method_20_code 13 = .ok (.iand, 1) := by decide +kernel
theorem d_prog_25_method_20_14 : decode prog_25_method_20_code 14 = .ok (.ireturn, 1) := by decide +kernel
theorem d_prog_25_method_18_0 : decode prog_25_method_18_code 0 = .ok (.aload_n 0, 1) := by decide +kernel
theorem d_prog_25_method_18_1 : decode prog_25_method_18_code 1 = .ok (.getfield 9, 3) := by decide +kernel
theorem d_prog_25_method_18_4 : decode prog_25_method_18_code 4 = .ok (.aload_n 0, 1) := by decide +kernel
theorem d_prog_25_method_18_5 : decode prog_25_method_18_code 5 = .ok (.iload_n 1, 1) := by decide +kernel
theorem d_prog_25_method_18_6 : decode prog_25_method_18_code 6 = .ok (.invokevirtual 48, 3) := by decide +kernel
theorem d_prog_25_method_18_9 : decode prog_25_method_18_code 9 = .ok (.laload, 1) := by decide +kernel
theorem d_prog_25_method_18_10 : decode prog_25_method_18_code 10 = .ok (.lreturn, 1) := by decide +kernel
theorem d_prog_25_method_19_0 : decode prog_25_method_19_code 0 = .ok (.aload_n 0, 1) := by decide +kernel
theorem d_prog_25_method_19_1 : decode prog_25_method_19_code 1 = .ok (.getfield 13, 3) := by decide +kernel
theorem d_prog_25_method_19_4 : decode prog_25_method_19_code 4 = .ok (.aload_n 0, 1) := by decide +kernel
theorem d_prog_25_method_19_5 : decode prog_25_method_19_code 5 = .ok (.iload_n 1, 1) := by decide +kernel
theorem d_prog_25_method_19_6 : decode prog_25_method_19_code 6 = .ok (.invokevirtual 48, 3) := by decide +kernel
theorem d_prog_25_method_19_9 : decode prog_25_method_19_code 9 = .ok (.laload, 1) := by decide +kernel
theorem d_prog_25_method_19_10 : decode prog_25_method_19_code 10 = .ok (.lreturn, 1) := by decide +kernel
theorem d_prog_25_method_4_0 : decode prog_25_method_4_code 0 = .ok (.aload_n 0, 1) := by decide +kernel
theorem d_prog_25_method_4_1 : decode prog_25_method_4_code 1 = .ok (.getfield 20, 3) := by decide +kernel
theorem d_prog_25_method_4_4 : decode prog_25_method_4_code 4 = .ok (.ifCond .ne 7, 3) := by decide +kernel
theorem d_prog_25_method_4_7 : decode prog_25_method_4_code 7 = .ok (.lconst 0, 1) := by decide +kernel
theorem d_prog_25_method_4_8 : decode prog_25_method_4_code 8 = .ok (.goto 18, 3) := by decide +kernel
theorem d_prog_25_method_4_26 : decode prog_25_method_4_code 26 = .ok (.lreturn, 1) := by decide +kernel
theorem d_prog_25_method_4_11 : decode prog_25_method_4_code 11 = .ok (.aload_n 0, 1) := by decide +kernel
theorem d_prog_25_method_4_12 : decode prog_25_method_4_code 12 = .ok (.aload_n 0, 1) := by decide +kernel
theorem d_prog_25_method_4_13 : decode prog_25_method_4_code 13 = .ok (.getfield 20, 3) := by decide +kernel
theorem d_prog_25_method_4_16 : decode prog_25_method_4_code 16 = .ok (.iconst 1, 1) := by decide +kernel
theorem d_prog_25_method_4_17 : decode prog_25_method_4_code 17 = .ok (.isub, 1) := by decide +kernel
theorem d_prog_25_method_4_18 : decode prog_25_method_4_code 18 = .ok (.invokevirtual 24, 3) := by decide +kernel
theorem d_prog_25_method_4_21 : decode prog_25_method_4_code 21 = .ok (.aload_n 0, 1) := by decide +kernel
theorem d_prog_25_method_4_22 : decode prog_25_method_4_code 22 = .ok (.getfield 28, 3) := by decide +kernel
theorem d_prog_25_method_4_25 : decode prog_25_method_4_code 25 = .ok (.lsub, 1) := by decide +kernel
theorem d_prog_25_method_17_0 : decode prog_25_method_17_code 0 = .ok (.iload_n 1, 1) := by decide +kernel
theorem d_prog_25_method_17_1 : decode prog_25_method_17_code 1 = .ok (.ifCond .ne 10, 3) := by decide +kernel
theorem d_prog_25_method_17_4 : decode prog_25_method_17_code 4 = .ok (.aload_n 0, 1) := by decide +kernel
theorem d_prog_25_method_17_5 : decode prog_25_method_17_code 5 = .ok (.getfield 28, 3) := by decide +kernel
theorem d_prog_25_method_17_8 : decode prog_25_method_17_code 8 = .ok (.goto 10, 3) := by decide +kernel
theorem d_prog_25_method_17_18 : decode prog_25_method_17_code 18 = .ok (.lreturn, 1) := by decide +kernel
theorem d_prog_25_method_17_11 : decode prog_25_method_17_code 11 = .ok (.aload_n 0, 1) := by decide +kernel
theorem d_prog_25_method_17_12 : decode prog_25_method_17_code 12 = .ok (.iload_n 1, 1) := by decide +kernel
theorem d_prog_25_method_17_13 : decode prog_25_method_17_code 13 = .ok (.iconst 1, 1) := by decide +kernel
theorem d_prog_25_method_17_14 : decode prog_25_method_17_code 14 = .ok (.isub, 1) := by decide +kernel
theorem d_prog_25_method_17_15 : decode prog_25_method_17_code 15 = .ok (.invokevirtual 24, 3) := by decide +kernel
theorem d_prog_25_method_12_0 : decode prog_25_method_12_code 0 = .ok (.aload_n 0, 1) := by decide +kernel
theorem d_prog_25_method_12_1 : decode prog_25_method_12_code 1 = .ok (.aload_n 0, 1) := by decide +kernel
theorem d_prog_25_method_12_2 : decode prog_25_method_12_code 2 = .ok (.iconst 0, 1) := by decide +kernel
theorem d_prog_25_method_12_3 : decode prog_25_method_12_code 3 = .ok (.invokevirtual 24, 3) := by decide +kernel
theorem d_prog_25_method_12_6 : decode prog_25_method_12_code 6 = .ok (.putfield 28, 3) := by decide +kernel
theorem d_prog_25_method_12_9 : decode prog_25_method_12_code 9 = .ok (.aload_n 0, 1) := by decide +kernel
theorem d_prog_25_method_12_10 : decode prog_25_method_12_code 10 = .ok (.aload_n 0, 1) := by decide +kernel
theorem d_prog_25_method_12_11 : decode prog_25_method_12_code 11 = .ok (.iconst 1, 1) := by decide +kernel
theorem d_prog_25_method_12_12 : decode prog_25_method_12_code 12 = .ok (.invokevirtual 48, 3) := by decide +kernel
theorem d_prog_25_method_12_15 : decode prog_25_method_12_code 15 = .ok (.putfield 59, 3) := by decide +kernel
theorem d_prog_25_method_12_18 : decode prog_25_method_12_code 18 = .ok (.aload_n 0, 1) := by decide +kernel
theorem d_prog_25_method_12_19 : decode prog_25_method_12_code 19 = .ok (.dup, 1) := by decide +kernel
theorem d_prog_25_method_12_20 : decode prog_25_method_12_code 20 = .ok (.getfield 20, 3) := by decide +kernel
theorem d_prog_25_method_12_23 : decode prog_25_method_12_code 23 = .ok (.iconst 1, 1) := by decide +kernel
theorem d_prog_25_method_12_24 : decode prog_25_method_12_code 24 = .ok (.isub, 1) := by decide +kernel
theorem d_prog_25_method_12_25 : decode prog_25_method_12_code 25 = .ok (.putfield 20, 3) := by decide +kernel
theorem d_prog_25_method_12_28 : decode prog_25_method_12_code 28 = .ok (.return_, 1) := by decide +kernel
theorem d_prog_25_method_16_0 : decode prog_25_method_16_code 0 = .ok (.iconst 0, 1) := by decide +kernel
theorem d_prog_25_method_16_1 : decode prog_25_method_16_code 1 = .ok (.istore_n 3, 1) := by decide +kernel
theorem d_prog_25_method_16_2 : decode prog_25_method_16_code 2 = .ok (.aload_n 0, 1) := by decide +kernel
theorem d_prog_25_method_16_3 : decode prog_25_method_16_code 3 = .ok (.getfield 20, 3) := by decide +kernel
theorem d_prog_25_method_16_6 : decode prog_25_method_16_code 6 = .ok (.istore 4, 2) := by decide +kernel
theorem d_prog_25_method_16_79 : decode prog_25_method_16_code 79 = .ok (.iload_n 3, 1) := by decide +kernel
theorem d_prog_25_method_16_80 : decode prog_25_method_16_code 80 = .ok (.iload 4, 2) := by decide +kernel
theorem d_prog_25_method_16_82 : decode prog_25_method_16_code 82 = .ok (.if_icmp .ge 37, 3) := by decide +kernel
theorem d_prog_25_method_16_119 : decode prog_25_method_16_code 119 = .ok (.iload_n 3, 1) := by decide +kernel
theorem d_prog_25_method_16_120 : decode prog_25_method_16_code 120 = .ok (.ireturn, 1) := by decide +kernel
theorem d_prog_25_method_16_85 : decode prog_25_method_16_code 85 = .ok (.iload_n 3, 1) := by decide +kernel
theorem d_prog_25_method_16_86 : decode prog_25_method_16_code 86 = .ok (.iload 4, 2) := by decide +kernel
theorem d_prog_25_method_16_88 : decode prog_25_method_16_code 88 = .ok (.iadd, 1) := by decide +kernel
theorem d_prog_25_method_16_89 : decode prog_25_method_16_code 89 = .ok (.iconst 1, 1) := by decide +kernel
theorem d_prog_25_method_16_90 : decode prog_25_method_16_code 90 = .ok (.iushr, 1) := by decide +kernel
theorem d_prog_25_method_16_91 : decode prog_25_method_16_code 91 = .ok (.istore 5, 2) := by decide +kernel
theorem d_prog_25_method_16_93 : decode prog_25_method_16_code 93 = .ok (.aload_n 0, 1) := by decide +kernel
theorem d_prog_25_method_16_94 : decode prog_25_method_16_code 94 = .ok (.iload 5, 2) := by decide +kernel
theorem d_prog_25_method_16_96 : decode prog_25_method_16_code 96 = .ok (.invokevirtual 31, 3) := by decide +kernel
theorem d_prog_25_method_16_99 : decode prog_25_method_16_code 99 = .ok (.lload_n 1, 1) := by decide +kernel
theorem d_prog_25_method_16_100 : decode prog_25_method_16_code 100 = .ok (.lcmp, 1) := by decide +kernel
theorem d_prog_25_method_16_101 : decode prog_25_method_16_code 101 = .ok (.ifCond .lt 10, 3) := by decide +kernel
theorem d_prog_25_method_16_111 : decode prog_25_method_16_code 111 = .ok (.iload 5, 2) := by decide +kernel
theorem d_prog_25_method_16_113 : decode prog_25_method_16_code 113 = .ok (.iconst 1, 1) := by decide +kernel
theorem d_prog_25_method_16_114 : decode prog_25_method_16_code 114 = .ok (.iadd, 1) := by decide +kernel
theorem d_prog_25_method_16_115 : decode prog_25_method_16_code 115 = .ok (.istore_n 3, 1) := by decide +kernel
theorem d_prog_25_method_16_116 : decode prog_25_method_16_code 116 = .ok (.goto (-37), 3) := by decide +kernel
theorem d_prog_25_method_16_104 : decode prog_25_method_16_code 104 = .ok (.iload 5, 2) := by decide +kernel
theorem d_prog_25_method_16_106 : decode prog_25_method_16_code 106 = .ok (.istore 4, 2) := by decide +kernel
theorem d_prog_25_method_16_108 : decode prog_25_method_16_code 108 = .ok (.goto 8, 3) := by decide +kernel
theorem d_prog_25_method_16_8 : decode prog_25_method_16_code 8 = .ok (.aload_n 0, 1) := by decide +kernel
theorem d_prog_25_method_16_9 : decode prog_25_method_16_code 9 = .ok (.getfield 20, 3) := by decide +kernel
theorem d_prog_25_method_16_12 : decode prog_25_method_16_code 12 = .ok (.ifCond .eq 18, 3) := by decide +kernel
theorem d_prog_25_method_16_30 : decode prog_25_method_16_code 30 = .ok (.aload_n 0, 1) := by decide +kernel
theorem d_prog_25_method_16_31 : decode prog_25_method_16_code 31 = .ok (.getfield 20, 3) := by decide +kernel
theorem d_prog_25_method_16_34 : decode prog_25_method_16_code 34 = .ok (.istore_n 3, 1) := by decide +kernel
theorem d_prog_25_method_16_35 : decode prog_25_method_16_code 35 = .ok (.goto 44, 3) := by decide +kernel
theorem d_prog_25_method_16_15 : decode prog_25_method_16_code 15 = .ok (.aload_n 0, 1) := by decide +kernel
theorem d_prog_25_method_16_16 : decode prog_25_method_16_code 16 = .ok (.aload_n 0, 1) := by decide +kernel
theorem d_prog_25_method_16_17 : decode prog_25_method_16_code 17 = .ok (.getfield 20, 3) := by decide +kernel
theorem d_prog_25_method_16_20 : decode prog_25_method_16_code 20 = .ok (.iconst 1, 1) := by decide +kernel
theorem d_prog_25_method_16_21 : decode prog_25_method_16_code 21 = .ok (.isub, 1) := by decide +kernel
theorem d_prog_25_method_16_22 : decode prog_25_method_16_code 22 = .ok (.invokevirtual 31, 3) := by decide +kernel
theorem d_prog_25_method_16_25 : decode prog_25_method_16_code 25 = .ok (.lload_n 1, 1) := by decide +kernel
theorem d_prog_25_method_16_26 : decode prog_25_method_16_code 26 = .ok (.lcmp, 1) := by decide +kernel
theorem d_prog_25_method_16_27 : decode prog_25_method_16_code 27 = .ok (.ifCond .ge 11, 3) := by decide +kernel
theorem d_prog_25_method_16_38 : decode prog_25_method_16_code 38 = .ok (.aload_n 0, 1) := by decide +kernel
theorem d_prog_25_method_16_39 : decode prog_25_method_16_code 39 = .ok (.iconst 0, 1) := by decide +kernel
theorem d_prog_25_method_16_40 : decode prog_25_method_16_code 40 = .ok (.invokevirtual 31, 3) := by decide +kernel
theorem d_prog_25_method_16_43 : decode prog_25_method_16_code 43 = .ok (.lload_n 1, 1) := by decide +kernel
theorem d_prog_25_method_16_44 : decode prog_25_method_16_code 44 = .ok (.lcmp, 1) := by decide +kernel
theorem d_prog_25_method_16_45 : decode prog_25_method_16_code 45 = .ok (.ifCond .lt 9, 3) := by decide +kernel
theorem d_prog_25_method_16_54 : decode prog_25_method_16_code 54 = .ok (.aload_n 0, 1) := by decide +kernel
theorem d_prog_25_method_16_55 : decode prog_25_method_16_code 55 = .ok (.aload_n 0, 1) := by decide +kernel
theorem d_prog_25_method_16_56 : decode prog_25_method_16_code 56 = .ok (.getfield 20, 3) := by decide +kernel
theorem d_prog_25_method_16_59 : decode prog_25_method_16_code 59 = .ok (.iconst 1, 1) := by decide +kernel
theorem d_prog_25_method_16_60 : decode prog_25_method_16_code 60 = .ok (.isub, 1) := by decide +kernel
theorem d_prog_25_method_16_61 : decode prog_25_method_16_code 61 = .ok (.invokevirtual 31, 3) := by decide +kernel
theorem d_prog_25_method_16_64 : decode prog_25_method_16_code 64 = .ok (.lload_n 1, 1) := by decide +kernel
theorem d_prog_25_method_16_65 : decode prog_25_method_16_code 65 = .ok (.lcmp, 1) := by decide +kernel
theorem d_prog_25_method_16_66 : decode prog_25_method_16_code 66 = .ok (.ifCond .ne 13, 3) := by decide +kernel
theorem d_prog_25_method_16_69 : decode prog_25_method_16_code 69 = .ok (.aload_n 0, 1) := by decide +kernel
theorem d_prog_25_method_16_70 : decode prog_25_method_16_code 70 = .ok (.getfield 20, 3) := by decide +kernel
theorem d_prog_25_method_16_73 : decode prog_25_method_16_code 73 = .ok (.iconst 1, 1) := by decide +kernel
theorem d_prog_25_method_16_74 : decode prog_25_method_16_code 74 = .ok (.isub, 1) := by decide +kernel
theorem d_prog_25_method_16_75 : decode prog_25_method_16_code 75 = .ok (.istore_n 3, 1) := by decide +kernel
theorem d_prog_25_method_16_76 : decode prog_25_method_16_code 76 = .ok (.iload_n 3, 1) := by decide +kernel
theorem d_prog_25_method_16_77 : decode prog_25_method_16_code 77 = .ok (.istore 4, 2) := by decide +kernel
theorem d_prog_25_method_16_48 : decode prog_25_method_16_code 48 = .ok (.iconst 0, 1) := by decide +kernel
theorem d_prog_25_method_16_49 : decode prog_25_method_16_code 49 = .ok (.istore 4, 2) := by decide +kernel
theorem d_prog_25_method_16_51 : decode prog_25_method_16_code 51 = .ok (.goto 28, 3) := by decide +kernel
theorem d_prog_25_method_13_0 : decode prog_25_method_13_code 0 = .ok (.aload_n 0, 1) := by decide +kernel
theorem d_prog_25_method_13_1 : decode prog_25_method_13_code 1 = .ok (.getfield 20, 3) := by decide +kernel
theorem d_prog_25_method_13_4 : decode prog_25_method_13_code 4 = .ok (.aload_n 0, 1) := by decide +kernel
theorem d_prog_25_method_13_5 : decode prog_25_method_13_code 5 = .ok (.getfield 9, 3) := by decide +kernel
theorem d_prog_25_method_13_8 : decode prog_25_method_13_code 8 = .ok (.arraylength, 1) := by decide +kernel
theorem d_prog_25_method_13_9 : decode prog_25_method_13_code 9 = .ok (.if_icmp .ne 7, 3) := by decide +kernel
theorem d_prog_25_method_13_16 : decode prog_25_method_13_code 16 = .ok (.aload_n 0, 1) := by decide +kernel
theorem d_prog_25_method_13_17 : decode prog_25_method_13_code 17 = .ok (.getfield 20, 3) := by decide +kernel
theorem d_prog_25_method_13_20 : decode prog_25_method_13_code 20 = .ok (.istore 6, 2) := by decide +kernel
theorem d_prog_25_method_13_22 : decode prog_25_method_13_code 22 = .ok (.iload 6, 2) := by decide +kernel
theorem d_prog_25_method_13_24 : decode prog_25_method_13_code 24 = .ok (.iload_n 1, 1) := by decide +kernel
theorem d_prog_25_method_13_25 : decode prog_25_method_13_code 25 = .ok (.if_icmp .le 57, 3) := by decide +kernel
theorem d_prog_25_method_13_82 : decode prog_25_method_13_code 82 = .ok (.aload_n 0, 1) := by decide +kernel
theorem d_prog_25_method_13_83 : decode prog_25_method_13_code 83 = .ok (.getfield 9, 3) := by decide +kernel
theorem d_prog_25_method_13_86 : decode prog_25_method_13_code 86 = .ok (.aload_n 0, 1) := by decide +kernel
theorem d_prog_25_method_13_87 : decode prog_25_method_13_code 87 = .ok (.iload_n 1, 1) := by decide +kernel
theorem d_prog_25_method_13_88 : decode prog_25_method_13_code 88 = .ok (.invokevirtual 48, 3) := by decide +kernel
theorem d_prog_25_method_13_91 : decode prog_25_method_13_code 91 = .ok (.lload_n 2, 1) := by decide +kernel
theorem d_prog_25_method_13_92 : decode prog_25_method_13_code 92 = .ok (.lastore, 1) := by decide +kernel
theorem d_prog_25_method_13_93 : decode prog_25_method_13_code 93 = .ok (.aload_n 0, 1) := by decide +kernel
theorem d_prog_25_method_13_94 : decode prog_25_method_13_code 94 = .ok (.getfield 13, 3) := by decide +kernel
theorem d_prog_25_method_13_97 : decode prog_25_method_13_code 97 = .ok (.aload_n 0, 1) := by decide +kernel
theorem d_prog_25_method_13_98 : decode prog_25_method_13_code 98 = .ok (.iload_n 1, 1) := by decide +kernel
theorem d_prog_25_method_13_99 : decode prog_25_method_13_code 99 = .ok (.invokevirtual 48, 3) := by decide +kernel
theorem d_prog_25_method_13_102 : decode prog_25_method_13_code 102 = .ok (.lload 4, 2) := by decide +kernel
theorem d_prog_25_method_13_104 : decode prog_25_method_13_code 104 = .ok (.lastore, 1) := by decide +kernel
theorem d_prog_25_method_13_105 : decode prog_25_method_13_code 105 = .ok (.aload_n 0, 1) := by decide +kernel
theorem d_prog_25_method_13_106 : decode prog_25_method_13_code 106 = .ok (.dup, 1) := by decide +kernel
theorem d_prog_25_method_13_107 : decode prog_25_method_13_code 107 = .ok (.getfield 20, 3) := by decide +kernel
theorem d_prog_25_method_13_110 : decode prog_25_method_13_code 110 = .ok (.iconst 1, 1) := by decide +kernel
theorem d_prog_25_method_13_111 : decode prog_25_method_13_code 111 = .ok (.iadd, 1) := by decide +kernel
theorem d_prog_25_method_13_112 : decode prog_25_method_13_code 112 = .ok (.putfield 20, 3) := by decide +kernel
theorem d_prog_25_method_13_115 : decode prog_25_method_13_code 115 = .ok (.return_, 1) := by decide +kernel
theorem d_prog_25_method_13_28 : decode prog_25_method_13_code 28 = .ok (.aload_n 0, 1) := by decide +kernel
theorem d_prog_25_method_13_29 : decode prog_25_method_13_code 29 = .ok (.getfield 9, 3) := by decide +kernel
theorem d_prog_25_method_13_32 : decode prog_25_method_13_code 32 = .ok (.aload_n 0, 1) := by decide +kernel
theorem d_prog_25_method_13_33 : decode prog_25_method_13_code 33 = .ok (.iload 6, 2) := by decide +kernel
theorem d_prog_25_method_13_35 : decode prog_25_method_13_code 35 = .ok (.invokevirtual 48, 3) := by decide +kernel
theorem d_prog_25_method_13_38 : decode prog_25_method_13_code 38 = .ok (.aload_n 0, 1) := by decide +kernel
theorem d_prog_25_method_13_39 : decode prog_25_method_13_code 39 = .ok (.getfield 9, 3) := by decide +kernel
theorem d_prog_25_method_13_42 : decode prog_25_method_13_code 42 = .ok (.aload_n 0, 1) := by decide +kernel
theorem d_prog_25_method_13_43 : decode prog_25_method_13_code 43 = .ok (.iload 6, 2) := by decide +kernel
theorem d_prog_25_method_13_45 : decode prog_25_method_13_code 45 = .ok (.iconst 1, 1) := by decide +kernel
theorem d_prog_25_method_13_46 : decode prog_25_method_13_code 46 = .ok (.isub, 1) := by decide +kernel
theorem d_prog_25_method_13_47 : decode prog_25_method_13_code 47 = .ok (.invokevirtual 48, 3) := by decide +kernel
theorem d_prog_25_method_13_50 : decode prog_25_method_13_code 50 = .ok (.laload, 1) := by decide +kernel
theorem d_prog_25_method_13_51 : decode prog_25_method_13_code 51 = .ok (.lastore, 1) := by decide +kernel
theorem d_prog_25_method_13_52 : decode prog_25_method_13_code 52 = .ok (.aload_n 0, 1) := by decide +kernel
theorem d_prog_25_method_13_53 : decode prog_25_method_13_code 53 = .ok (.getfield 13, 3) := by decide +kernel
theorem d_prog_25_method_13_56 : decode prog_25_method_13_code 56 = .ok (.aload_n 0, 1) := by decide +kernel
theorem d_prog_25_method_13_57 : decode prog_25_method_13_code 57 = .ok (.iload 6, 2) := by decide +kernel
theorem d_prog_25_method_13_59 : decode prog_25_method_13_code 59 = .ok (.invokevirtual 48, 3) := by decide +kernel
theorem d_prog_25_method_13_62 : decode prog_25_method_13_code 62 = .ok (.aload_n 0, 1) := by decide +kernel
theorem d_prog_25_method_13_63 : decode prog_25_method_13_code 63 = .ok (.getfield 13, 3) := by decide +kernel
theorem d_prog_25_method_13_66 : decode prog_25_method_13_code 66 = .ok (.aload_n 0, 1) := by decide +kernel
theorem d_prog_25_method_13_67 : decode prog_25_method_13_code 67 = .ok (.iload 6, 2) := by decide +kernel
theorem d_prog_25_method_13_69 : decode prog_25_method_13_code 69 = .ok (.iconst 1, 1) := by decide +kernel
theorem d_prog_25_method_13_70 : decode prog_25_method_13_code 70 = .ok (.isub, 1) := by decide +kernel
theorem d_prog_25_method_13_71 : decode prog_25_method_13_code 71 = .ok (.invokevirtual 48, 3) := by decide +kernel
theorem d_prog_25_method_13_74 : decode prog_25_method_13_code 74 = .ok (.laload, 1) := by decide +kernel
theorem d_prog_25_method_13_75 : decode prog_25_method_13_code 75 = .ok (.lastore, 1) := by decide +kernel
theorem d_prog_25_method_13_76 : decode prog_25_method_13_code 76 = .ok (.iinc 6 (-1), 3) := by decide +kernel
theorem d_prog_25_method_13_79 : decode prog_25_method_13_code 79 = .ok (.goto (-57), 3) := by decide +kernel
theorem d_prog_25_method_9_0 : decode prog_25_method_9_code 0 = .ok (.aload_n 0, 1) := by decide +kernel
theorem d_prog_25_method_9_1 : decode prog_25_method_9_code 1 = .ok (.lload_n 1, 1) := by decide +kernel
theorem d_prog_25_method_9_2 : decode prog_25_method_9_code 2 = .ok (.invokevirtual 38, 3) := by decide +kernel
theorem d_prog_25_method_9_5 : decode prog_25_method_9_code 5 = .ok (.istore 5, 2) := by decide +kernel
theorem d_prog_25_method_9_40 : decode prog_25_method_9_code 40 = .ok (.iload 5, 2) := by decide +kernel
theorem d_prog_25_method_9_42 : decode prog_25_method_9_code 42 = .ok (.istore 6, 2) := by decide +kernel
theorem d_prog_25_method_9_44 : decode prog_25_method_9_code 44 = .ok (.iload 6, 2) := by decide +kernel
theorem d_prog_25_method_9_46 : decode prog_25_method_9_code 46 = .ok (.aload_n 0, 1) := by decide +kernel
theorem d_prog_25_method_9_47 : decode prog_25_method_9_code 47 = .ok (.getfield 20, 3) := by decide +kernel
theorem d_prog_25_method_9_50 : decode prog_25_method_9_code 50 = .ok (.if_icmp .ge 24, 3) := by decide +kernel
theorem d_prog_25_method_9_74 : decode prog_25_method_9_code 74 = .ok (.return_, 1) := by decide +kernel
theorem d_prog_25_method_9_53 : decode prog_25_method_9_code 53 = .ok (.aload_n 0, 1) := by decide +kernel
theorem d_prog_25_method_9_54 : decode prog_25_method_9_code 54 = .ok (.getfield 13, 3) := by decide +kernel
theorem d_prog_25_method_9_57 : decode prog_25_method_9_code 57 = .ok (.aload_n 0, 1) := by decide +kernel
theorem d_prog_25_method_9_58 : decode prog_25_method_9_code 58 = .ok (.iload 6, 2) := by decide +kernel
theorem d_prog_25_method_9_60 : decode prog_25_method_9_code 60 = .ok (.invokevirtual 48, 3) := by decide +kernel
theorem d_prog_25_method_9_63 : decode prog_25_method_9_code 63 = .ok (.dup2, 1) := by decide +kernel
theorem d_prog_25_method_9_64 : decode prog_25_method_9_code 64 = .ok (.laload, 1) := by decide +kernel
theorem d_prog_25_method_9_65 : decode prog_25_method_9_code 65 = .ok (.lload_n 3, 1) := by decide +kernel
theorem d_prog_25_method_9_66 : decode prog_25_method_9_code 66 = .ok (.ladd, 1) := by decide +kernel
theorem d_prog_25_method_9_67 : decode prog_25_method_9_code 67 = .ok (.lastore, 1) := by decide +kernel
theorem d_prog_25_method_9_68 : decode prog_25_method_9_code 68 = .ok (.iinc 6 1, 3) := by decide +kernel
theorem d_prog_25_method_9_71 : decode prog_25_method_9_code 71 = .ok (.goto (-27), 3) := by decide +kernel
theorem d_prog_25_method_9_7 : decode prog_25_method_9_code 7 = .ok (.iload 5, 2) := by decide +kernel
theorem d_prog_25_method_9_9 : decode prog_25_method_9_code 9 = .ok (.aload_n 0, 1) := by decide +kernel
theorem d_prog_25_method_9_10 : decode prog_25_method_9_code 10 = .ok (.getfield 20, 3) := by decide +kernel
theorem d_prog_25_method_9_13 : decode prog_25_method_9_code 13 = .ok (.if_icmp .eq 14, 3) := by decide +kernel
theorem d_prog_25_method_9_27 : decode prog_25_method_9_code 27 = .ok (.aload_n 0, 1) := by decide +kernel
theorem d_prog_25_method_9_28 : decode prog_25_method_9_code 28 = .ok (.iload 5, 2) := by decide +kernel
theorem d_prog_25_method_9_30 : decode prog_25_method_9_code 30 = .ok (.lload_n 1, 1) := by decide +kernel
theorem d_prog_25_method_9_31 : decode prog_25_method_9_code 31 = .ok (.aload_n 0, 1) := by decide +kernel
theorem d_prog_25_method_9_32 : decode prog_25_method_9_code 32 = .ok (.iload 5, 2) := by decide +kernel
theorem d_prog_25_method_9_34 : decode prog_25_method_9_code 34 = .ok (.invokevirtual 41, 3) := by decide +kernel
theorem d_prog_25_method_9_37 : decode prog_25_method_9_code 37 = .ok (.invokevirtual 44, 3) := by decide +kernel
theorem d_prog_25_method_9_16 : decode prog_25_method_9_code 16 = .ok (.aload_n 0, 1) := by decide +kernel
theorem d_prog_25_method_9_17 : decode prog_25_method_9_code 17 = .ok (.iload 5, 2) := by decide +kernel
theorem d_prog_25_method_9_19 : decode prog_25_method_9_code 19 = .ok (.invokevirtual 31, 3) := by decide +kernel
theorem d_prog_25_method_9_22 : decode prog_25_method_9_code 22 = .ok (.lload_n 1, 1) := by decide +kernel
theorem d_prog_25_method_9_23 : decode prog_25_method_9_code 23 = .ok (.lcmp, 1) := by decide +kernel
theorem d_prog_25_method_9_24 : decode prog_25_method_9_code 24 = .ok (.ifCond .eq 16, 3) := by decide +kernel
theorem d_prog_25_method_10_0 : decode prog_25_method_10_code 0 = .ok (.aload_n 0, 1) := by decide +kernel
theorem d_prog_25_method_10_1 : decode prog_25_method_10_code 1 = .ok (.invokevirtual 52, 3) := by decide +kernel
theorem d_prog_25_method_10_4 : decode prog_25_method_10_code 4 = .ok (.lload_n 1, 1) := by decide +kernel
theorem d_prog_25_method_10_5 : decode prog_25_method_10_code 5 = .ok (.lsub, 1) := by decide +kernel
theorem d_prog_25_method_10_6 : decode prog_25_method_10_code 6 = .ok (.lstore_n 3, 1) := by decide +kernel
theorem d_prog_25_method_10_7 : decode prog_25_method_10_code 7 = .ok (.lload_n 3, 1) := by decide +kernel
theorem d_prog_25_method_10_8 : decode prog_25_method_10_code 8 = .ok (.lconst 0, 1) := by decide +kernel
theorem d_prog_25_method_10_9 : decode prog_25_method_10_code 9 = .ok (.lcmp, 1) := by decide +kernel
theorem d_prog_25_method_10_10 : decode prog_25_method_10_code 10 = .ok (.ifCond .le 49, 3) := by decide +kernel
theorem d_prog_25_method_10_59 : decode prog_25_method_10_code 59 = .ok (.return_, 1) := by decide +kernel
theorem d_prog_25_method_10_13 : decode prog_25_method_10_code 13 = .ok (.aload_n 0, 1) := by decide +kernel
theorem d_prog_25_method_10_14 : decode prog_25_method_10_code 14 = .ok (.iconst 0, 1) := by decide +kernel
theorem d_prog_25_method_10_15 : decode prog_25_method_10_code 15 = .ok (.invokevirtual 24, 3) := by decide +kernel
theorem d_prog_25_method_10_18 : decode prog_25_method_10_code 18 = .ok (.aload_n 0, 1) := by decide +kernel
theorem d_prog_25_method_10_19 : decode prog_25_method_10_code 19 = .ok (.getfield 28, 3) := by decide +kernel
theorem d_prog_25_method_10_22 : decode prog_25_method_10_code 22 = .ok (.lsub, 1) := by decide +kernel
theorem d_prog_25_method_10_23 : decode prog_25_method_10_code 23 = .ok (.lstore 5, 2) := by decide +kernel
theorem d_prog_25_method_10_25 : decode prog_25_method_10_code 25 = .ok (.lload 5, 2) := by decide +kernel
theorem d_prog_25_method_10_27 : decode prog_25_method_10_code 27 = .ok (.lload_n 3, 1) := by decide +kernel
theorem d_prog_25_method_10_28 : decode prog_25_method_10_code 28 = .ok (.lcmp, 1) := by decide +kernel
theorem d_prog_25_method_10_29 : decode prog_25_method_10_code 29 = .ok (.ifCond .gt 15, 3) := by decide +kernel
theorem d_prog_25_method_10_44 : decode prog_25_method_10_code 44 = .ok (.aload_n 0, 1) := by decide +kernel
theorem d_prog_25_method_10_45 : decode prog_25_method_10_code 45 = .ok (.dup, 1) := by decide +kernel
theorem d_prog_25_method_10_46 : decode prog_25_method_10_code 46 = .ok (.getfield 28, 3) := by decide +kernel
theorem d_prog_25_method_10_49 : decode prog_25_method_10_code 49 = .ok (.lload_n 3, 1) := by decide +kernel
theorem d_prog_25_method_10_50 : decode prog_25_method_10_code 50 = .ok (.ladd, 1) := by decide +kernel
theorem d_prog_25_method_10_51 : decode prog_25_method_10_code 51 = .ok (.putfield 28, 3) := by decide +kernel
theorem d_prog_25_method_10_54 : decode prog_25_method_10_code 54 = .ok (.lconst 0, 1) := by decide +kernel
theorem d_prog_25_method_10_55 : decode prog_25_method_10_code 55 = .ok (.lstore_n 3, 1) := by decide +kernel
theorem d_prog_25_method_10_56 : decode prog_25_method_10_code 56 = .ok (.goto (-49), 3) := by decide +kernel
theorem d_prog_25_method_10_32 : decode prog_25_method_10_code 32 = .ok (.aload_n 0, 1) := by decide +kernel
theorem d_prog_25_method_10_33 : decode prog_25_method_10_code 33 = .ok (.invokevirtual 56, 3) := by decide +kernel
theorem d_prog_25_method_10_36 : decode prog_25_method_10_code 36 = .ok (.lload_n 3, 1) := by decide +kernel
theorem d_prog_25_method_10_37 : decode prog_25_method_10_code 37 = .ok (.lload 5, 2) := by decide +kernel
theorem d_prog_25_method_10_39 : decode prog_25_method_10_code 39 = .ok (.lsub, 1) := by decide +kernel
theorem d_prog_25_method_10_40 : decode prog_25_method_10_code 40 = .ok (.lstore_n 3, 1) := by decide +kernel
theorem d_prog_25_method_10_41 : decode prog_25_method_10_code 41 = .ok (.goto 15, 3) := by decide +kernel
theorem d_jdk_29_method_70_0 : decode jdk_29_method_70_code 0 = .ok (.lload_n 0, 1) := by decide +kernel
theorem d_jdk_29_method_70_1 : decode jdk_29_method_70_code 1 = .ok (.lload_n 2, 1) := by decide +kernel
theorem d_jdk_29_method_70_2 : decode jdk_29_method_70_code 2 = .ok (.lcmp, 1) := by decide +kernel
theorem d_jdk_29_method_70_3 : decode jdk_29_method_70_code 3 = .ok (.ifCond .gt 7, 3) := by decide +kernel
theorem d_jdk_29_method_70_10 : decode jdk_29_method_70_code 10 = .ok (.lload_n 2, 1) := by decide +kernel
theorem d_jdk_29_method_70_11 : decode jdk_29_method_70_code 11 = .ok (.lreturn, 1) := by decide +kernel
theorem d_jdk_29_method_70_6 : decode jdk_29_method_70_code 6 = .ok (.lload_n 0, 1) := by decide +kernel
theorem d_jdk_29_method_70_7 : decode jdk_29_method_70_code 7 = .ok (.goto 4, 3) := by decide +kernel
theorem d_prog_25_method_3_0 : decode prog_25_method_3_code 0 = .ok (.aload_n 0, 1) := by decide +kernel
theorem d_prog_25_method_3_1 : decode prog_25_method_3_code 1 = .ok (.getfield 20, 3) := by decide +kernel
theorem d_prog_25_method_3_4 : decode prog_25_method_3_code 4 = .ok (.ireturn, 1) := by decide +kernel
theorem d_prog_25_method_5_0 : decode prog_25_method_5_code 0 = .ok (.aload_n 0, 1) := by decide +kernel
theorem d_prog_25_method_5_1 : decode prog_25_method_5_code 1 = .ok (.iconst 0, 1) := by decide +kernel
theorem d_prog_25_method_5_2 : decode prog_25_method_5_code 2 = .ok (.invokevirtual 31, 3) := by decide +kernel
theorem d_prog_25_method_5_5 : decode prog_25_method_5_code 5 = .ok (.lreturn, 1) := by decide +kernel
theorem d_prog_25_method_15_0 : decode prog_25_method_15_code 0 = .ok (.lload_n 1, 1) := by decide +kernel
theorem d_prog_25_method_15_1 : decode prog_25_method_15_code 1 = .ok (.ldc2_w 67, 3) := by decide +kernel
theorem d_prog_25_method_15_4 : decode prog_25_method_15_code 4 = .ok (.lcmp, 1) := by decide +kernel
theorem d_prog_25_method_15_5 : decode prog_25_method_15_code 5 = .ok (.ifCond .ne 10, 3) := by decide +kernel
theorem d_prog_25_method_15_8 : decode prog_25_method_15_code 8 = .ok (.aload_n 0, 1) := by decide +kernel
theorem d_prog_25_method_15_9 : decode prog_25_method_15_code 9 = .ok (.getfield 20, 3) := by decide +kernel
theorem d_prog_25_method_15_12 : decode prog_25_method_15_code 12 = .ok (.goto 10, 3) := by decide +kernel
theorem d_prog_25_method_15_22 : decode prog_25_method_15_code 22 = .ok (.ireturn, 1) := by decide +kernel
theorem d_prog_25_method_15_15 : decode prog_25_method_15_code 15 = .ok (.aload_n 0, 1) := by decide +kernel
theorem d_prog_25_method_15_16 : decode prog_25_method_15_code 16 = .ok (.lload_n 1, 1) := by decide +kernel
theorem d_prog_25_method_15_17 : decode prog_25_method_15_code 17 = .ok (.lconst 1, 1) := by decide +kernel
theorem d_prog_25_method_15_18 : decode prog_25_method_15_code 18 = .ok (.ladd, 1) := by decide +kernel
theorem d_prog_25_method_15_19 : decode prog_25_method_15_code 19 = .ok (.invokevirtual 38, 3) := by decide +kernel
theorem d_prog_25_method_8_0 : decode prog_25_method_8_code 0 = .ok (.aload_n 0, 1) := by decide +kernel
theorem d_prog_25_method_8_1 : decode prog_25_method_8_code 1 = .ok (.lload_n 1, 1) := by decide +kernel
theorem d_prog_25_method_8_2 : decode prog_25_method_8_code 2 = .ok (.invokevirtual 34, 3) := by decide +kernel
theorem d_prog_25_method_8_5 : decode prog_25_method_8_code 5 = .ok (.istore 5, 2) := by decide +kernel
theorem d_prog_25_method_8_7 : decode prog_25_method_8_code 7 = .ok (.aload_n 0, 1) := by decide +kernel
theorem d_prog_25_method_8_8 : decode prog_25_method_8_code 8 = .ok (.lload_n 3, 1) := by decide +kernel
theorem d_prog_25_method_8_9 : decode prog_25_method_8_code 9 = .ok (.invokevirtual 38, 3) := by decide +kernel
theorem d_prog_25_method_8_12 : decode prog_25_method_8_code 12 = .ok (.iconst 1, 1) := by decide +kernel
theorem d_prog_25_method_8_13 : decode prog_25_method_8_code 13 = .ok (.isub, 1) := by decide +kernel
theorem d_prog_25_method_8_14 : decode prog_25_method_8_code 14 = .ok (.istore 6, 2) := by decide +kernel
theorem d_prog_25_method_8_16 : decode prog_25_method_8_code 16 = .ok (.iload 5, 2) := by decide +kernel
theorem d_prog_25_method_8_18 : decode prog_25_method_8_code 18 = .ok (.iload 6, 2) := by decide +kernel
theorem d_prog_25_method_8_20 : decode prog_25_method_8_code 20 = .ok (.if_icmp .le 7, 3) := by decide +kernel
theorem d_prog_25_method_8_23 : decode prog_25_method_8_code 23 = .ok (.lconst 0, 1) := by decide +kernel
theorem d_prog_25_method_8_24 : decode prog_25_method_8_code 24 = .ok (.goto 16, 3) := by decide +kernel
theorem d_prog_25_method_8_40 : decode prog_25_method_8_code 40 = .ok (.lreturn, 1) := by decide +kernel
theorem d_prog_25_method_8_27 : decode prog_25_method_8_code 27 = .ok (.aload_n 0, 1) := by decide +kernel
theorem d_prog_25_method_8_28 : decode prog_25_method_8_code 28 = .ok (.iload 6, 2) := by decide +kernel
theorem d_prog_25_method_8_30 : decode prog_25_method_8_code 30 = .ok (.invokevirtual 24, 3) := by decide +kernel
theorem d_prog_25_method_8_33 : decode prog_25_method_8_code 33 = .ok (.aload_n 0, 1) := by decide +kernel
theorem d_prog_25_method_8_34 : decode prog_25_method_8_code 34 = .ok (.iload 5, 2) := by decide +kernel
theorem d_prog_25_method_8_36 : decode prog_25_method_8_code 36 = .ok (.invokevirtual 41, 3) := by decide +kernel
theorem d_prog_25_method_8_39 : decode prog_25_method_8_code 39 = .ok (.lsub, 1) := by decide +kernel
theorem pd_0 : parseMethodDescriptor "(I)I" = some ⟨[.int], some .int⟩ := by decide +kernel
theorem pd_1 : parseMethodDescriptor "(I)J" = some ⟨[.int], some .long⟩ := by decide +kernel
theorem pd_2 : parseMethodDescriptor "(J)I" = some ⟨[.long], some .int⟩ := by decide +kernel
theorem pd_3 : parseMethodDescriptor "(IJJ)V" = some ⟨[.int, .long, .long], none⟩ := by decide +kernel
theorem pd_4 : parseMethodDescriptor "()J" = some ⟨[], some .long⟩ := by decide +kernel
theorem pd_5 : parseMethodDescriptor "()V" = some ⟨[], none⟩ := by decide +kernel
theorem pd_6 : parseMethodDescriptor "(J)V" = some ⟨[.long], none⟩ := by decide +kernel
theorem pd_7 : parseMethodDescriptor "(JJ)V" = some ⟨[.long, .long], none⟩ := by decide +kernel
theorem pd_8 : parseMethodDescriptor "(JJ)J" = some ⟨[.long, .long], some .long⟩ := by decide +kernel
theorem pd_9 : parseMethodDescriptor "()I" = some ⟨[], some .int⟩ := by decide +kernel
theorem pn_0 : plainName "com/example/bucket_brigade/bucketbrigade/PermitLog" = true := by first | (simp [plainName, overriddenIn]; done) | decide +kernel
theorem pn_1 : plainName "com/example/bucket_brigade/bucketbrigade/PermitLogKeepNewestPinLaw" = true := by first | (simp [plainName, overriddenIn]; done) | decide +kernel
def own_Q (f : Int32) (I : Nat → Int64) (ts : List Int64) : Prop := 0 ≤ f.toInt ∧ f.toInt < 4 ∧ ts.length ≤ 4 ∧ ∀ i t, ts[i]? = some t → I ((f.toInt.toNat + i) % 4) = t
def own_S (ts : List Int64) : Prop := ts.Pairwise fun a b => a < b
def own_pos : List Int64 → Int64 → Nat
  | [], _ => 0
  | t :: r, m => if t < m then own_pos r m + 1 else 0
def own_perm (sz : Int32) (d x : Int64) : Int64 := if sz = 0 then 0 else x - d
def own_nbf (p : Int32) (d x : Int64) : Int64 := if p = 0 then d else x
theorem own_e0 : (0 : Int32).toInt = 0 := by decide
theorem own_e1 : (1 : Int32).toInt = 1 := by decide
theorem own_em : (-1 : Int32).toInt = -1 := by decide
theorem own_tn (x : Int32) : x.toNatClampNeg = x.toInt.toNat := rfl
theorem own_m3 (x : Int32) : ¬ (x &&& (3 : Int32)) < 0 ∧ (x &&& (3 : Int32)).toNatClampNeg < 4 := by
  have h := c_mask x 3 2 (by omega) (by decide)
  rw [own_tn, Int32.lt_iff_toInt_lt, own_e0]
  omega
theorem own_ofn (k : Nat) (h : k ≤ 8) : (Int32.ofNat k).toInt = k := Int32.toInt_ofNat_of_lt (by omega)
theorem own_eqn {x : Int32} {k : Nat} (h : x.toInt = (k : Int)) (hk : k ≤ 8) : x = Int32.ofNat k := Int32.toInt_inj.mp (by rw [own_ofn k hk, h])
theorem own_ltt (a b : Int64) : a < b ↔ a.toInt < b.toInt := Int64.lt_iff_toInt_lt
theorem own_sl {f p : Int32} {i : Nat} (h0 : 0 ≤ f.toInt) (h1 : f.toInt < 4) (hp : p.toInt = (i : Int)) (hi : i ≤ 8) : ((f + p) &&& (3 : Int32)).toNatClampNeg = (f.toInt.toNat + i) % 4 := by
  have a := c_iadd f p
  have r := rng32 (f + p)
  have m := c_mask (f + p) 3 2 (by omega) (by decide)
  rw [own_tn]
  omega
section
variable {f sz lo hi p : Int32} {I : Nat → Int64} {ts : List Int64} {m : Int64}
theorem own_get {i : Nat} {t : Int64} (hQ : own_Q f I ts) (hp : p.toInt = (i : Int)) (ht : ts[i]? = some t) : I ((f + p) &&& (3 : Int32)).toNatClampNeg = t := by
  have hi := (List.getElem?_eq_some_iff.mp ht).1
  rw [own_sl hQ.1 hQ.2.1 hp (by have := hQ.2.2.1; omega)]
  exact hQ.2.2.2 i t ht
theorem own_ple : ∀ (ts : List Int64) (m : Int64), own_pos ts m ≤ ts.length
  | [], _ => Nat.le_refl _
  | t :: r, m => by
    have := own_ple r m
    simp only [own_pos, List.length_cons]
    split <;> omega
theorem own_posb : ∀ {ts : List Int64}, own_S ts → ∀ {i : Nat} {t m : Int64}, ts[i]? = some t → (t < m ↔ i < own_pos ts m)
  | [], _, i, t, m, h => by simp at h
  | a :: r, hS, i, t, m, h => by
    have hS' := List.pairwise_cons.mp hS
    simp only [own_pos]
    cases i with
    | zero =>
      simp at h; subst h
      by_cases q : a < m
      · simp [q]
      · simp [q]
    | succ i =>
      simp at h
      have ih := own_posb (m := m) hS'.2 h
      by_cases q : a < m
      · simp [q, ih]
      · have hm : t ∈ r := List.mem_of_getElem? h
        have hat := hS'.1 t hm
        rw [own_ltt] at q hat
        have : ¬ t < m := by rw [own_ltt]; omega
        simp [this, own_ltt, q]
theorem own_idx {i : Nat} (h : i < ts.length) : ∃ t, ts[i]? = some t := ⟨ts[i], List.getElem?_eq_getElem h⟩
theorem own_sne (hsz : sz.toInt = (ts.length : Int)) (h : ¬ sz = 0) : 0 < ts.length := by
  have : sz.toInt ≠ 0 := fun q => h (Int32.toInt_inj.mp (by rw [own_e0]; exact q))
  omega
theorem own_sm1 (hsz : sz.toInt = (ts.length : Int)) (h : 0 < ts.length) (hl : ts.length ≤ 4) : (sz - (1 : Int32)).toInt = ((ts.length - 1 : Nat) : Int) := by
  have a := c_isub sz 1
  have r := rng32 (sz - 1)
  rw [own_e1] at a
  omega
theorem own_b0 (hsz : sz.toInt = (ts.length : Int)) (h : sz = 0) : 0 ≤ sz.toInt ∧ sz.toInt ≤ (own_pos ts m : Int) ∧ (own_pos ts m : Int) ≤ sz.toInt ∧ sz.toInt ≤ (ts.length : Int) := by
  have := own_ple ts m
  rw [h, own_e0] at hsz ⊢
  omega
theorem own_b1 (hQ : own_Q f I ts) (hsz : sz.toInt = (ts.length : Int)) (hS : own_S ts) (h : ¬ sz = 0) (h2 : I ((f + (sz - (1 : Int32))) &&& (3 : Int32)).toNatClampNeg < m) : 0 ≤ sz.toInt ∧ sz.toInt ≤ (own_pos ts m : Int) ∧ (own_pos ts m : Int) ≤ sz.toInt ∧ sz.toInt ≤ (ts.length : Int) := by
  have h0 := own_sne hsz h
  obtain ⟨t, ht⟩ := own_idx (ts := ts) (i := ts.length - 1) (by omega)
  rw [own_get hQ (own_sm1 hsz h0 hQ.2.2.1) ht] at h2
  have := (own_posb hS ht).mp h2
  have := own_ple ts m
  omega
theorem own_b2 (hQ : own_Q f I ts) (hsz : sz.toInt = (ts.length : Int)) (hS : own_S ts) (h : ¬ sz = 0) (h2 : ¬ I ((f + (0 : Int32)) &&& (3 : Int32)).toNatClampNeg < m) : 0 ≤ (0 : Int32).toInt ∧ (0 : Int32).toInt ≤ (own_pos ts m : Int) ∧ (own_pos ts m : Int) ≤ (0 : Int32).toInt ∧ (0 : Int32).toInt ≤ (ts.length : Int) := by
  have h0 := own_sne hsz h
  obtain ⟨t, ht⟩ := own_idx (ts := ts) (i := 0) h0
  rw [own_get hQ (i := 0) own_e0 ht] at h2
  have := mt (own_posb (m := m) hS ht).mpr h2
  rw [own_e0]
  omega
theorem own_b3 (hQ : own_Q f I ts) (hsz : sz.toInt = (ts.length : Int)) (hS : own_S ts) (h : ¬ sz = 0) (h2 : I ((f + (sz - (1 : Int32))) &&& (3 : Int32)).toNatClampNeg = m) : 0 ≤ (sz - (1 : Int32)).toInt ∧ (sz - (1 : Int32)).toInt ≤ (own_pos ts m : Int) ∧ (own_pos ts m : Int) ≤ (sz - (1 : Int32)).toInt ∧ (sz - (1 : Int32)).toInt ≤ (ts.length : Int) := by
  have h0 := own_sne hsz h
  have hs1 := own_sm1 hsz h0 hQ.2.2.1
  obtain ⟨t, ht⟩ := own_idx (ts := ts) (i := ts.length - 1) (by omega)
  rw [own_get hQ hs1 ht] at h2
  subst h2
  have h3 := own_posb (m := t) hS ht
  have h4 : ¬ t < t := by rw [own_ltt]; omega
  have h5 := mt h3.mpr h4
  have h6 : ts.length - 1 ≤ own_pos ts t := by
    by_cases q : ts.length - 1 = 0
    · omega
    · obtain ⟨u, hu⟩ := own_idx (ts := ts) (i := ts.length - 2) (by omega)
      have h7 : u < t := by
        have := (List.pairwise_iff_getElem.mp hS) (ts.length - 2) (ts.length - 1) (by omega) (by omega) (by omega)
        rw [(List.getElem?_eq_some_iff.mp hu).2, (List.getElem?_eq_some_iff.mp ht).2] at this
        exact this
      have := (own_posb (m := t) hS hu).mp h7
      omega
  omega
theorem own_b4 (hsz : sz.toInt = (ts.length : Int)) : 0 ≤ (0 : Int32).toInt ∧ (0 : Int32).toInt ≤ (own_pos ts m : Int) ∧ (own_pos ts m : Int) ≤ sz.toInt ∧ sz.toInt ≤ (ts.length : Int) := by
  have := own_ple ts m
  rw [own_e0]
  omega
abbrev own_mid (lo hi : Int32) : Int32 := ((lo + hi).toUInt32 >>> ((1 : Int32) &&& 31).toUInt32).toInt32
theorem own_midv (h0 : 0 ≤ lo.toInt) (h1 : hi.toInt ≤ 8) (h2 : lo.toInt < hi.toInt) : (own_mid lo hi).toInt = (lo.toInt + hi.toInt) / 2 := by
  have a := c_iadd lo hi
  have r := rng32 (lo + hi)
  have s := c_iushr (lo + hi) 1 1 (by decide) (by omega)
  have s' : (own_mid lo hi).toInt = (lo + hi).toInt % 4294967296 / 2 := s
  rw [s']
  omega
theorem own_midt (hQ : own_Q f I ts) (hB : 0 ≤ lo.toInt ∧ lo.toInt ≤ (own_pos ts m : Int) ∧ (own_pos ts m : Int) ≤ hi.toInt ∧ hi.toInt ≤ (ts.length : Int)) (hc : lo < hi) : ∃ (i : Nat) (t : Int64), (own_mid lo hi).toInt = (i : Int) ∧ lo.toInt ≤ i ∧ (i : Int) < hi.toInt ∧ 2 * (i : Int) ≤ lo.toInt + hi.toInt ∧ lo.toInt + hi.toInt ≤ 2 * i + 1 ∧ ts[i]? = some t := by
  have hl := hQ.2.2.1
  rw [Int32.lt_iff_toInt_lt] at hc
  have h := own_midv hB.1 (by omega) hc
  obtain ⟨t, ht⟩ := own_idx (ts := ts) (i := (own_mid lo hi).toInt.toNat) (by omega)
  exact ⟨_, t, by omega, by omega, by omega, by omega, by omega, ht⟩
theorem own_lo (hQ : own_Q f I ts) (hsz : sz.toInt = (ts.length : Int)) (hS : own_S ts) (hB : 0 ≤ lo.toInt ∧ lo.toInt ≤ (own_pos ts m : Int) ∧ (own_pos ts m : Int) ≤ hi.toInt ∧ hi.toInt ≤ (ts.length : Int)) (hc : lo < hi) (h2 : I ((f + own_mid lo hi) &&& (3 : Int32)).toNatClampNeg < m) : 0 ≤ (own_mid lo hi + (1 : Int32)).toInt ∧ (own_mid lo hi + (1 : Int32)).toInt ≤ (own_pos ts m : Int) ∧ (own_pos ts m : Int) ≤ hi.toInt ∧ hi.toInt ≤ (ts.length : Int) := by
  obtain ⟨i, t, e1, e2, e3, -, -, e4⟩ := own_midt hQ hB hc
  rw [own_get hQ e1 e4] at h2
  have h3 := (own_posb hS e4).mp h2
  have a := c_iadd (own_mid lo hi) 1
  have r := rng32 (own_mid lo hi + 1)
  have hl := hQ.2.2.1
  rw [own_e1] at a
  omega
theorem own_hi (hQ : own_Q f I ts) (hsz : sz.toInt = (ts.length : Int)) (hS : own_S ts) (hB : 0 ≤ lo.toInt ∧ lo.toInt ≤ (own_pos ts m : Int) ∧ (own_pos ts m : Int) ≤ hi.toInt ∧ hi.toInt ≤ (ts.length : Int)) (hc : lo < hi) (h2 : ¬ I ((f + own_mid lo hi) &&& (3 : Int32)).toNatClampNeg < m) : 0 ≤ lo.toInt ∧ lo.toInt ≤ (own_pos ts m : Int) ∧ (own_pos ts m : Int) ≤ (own_mid lo hi).toInt ∧ (own_mid lo hi).toInt ≤ (ts.length : Int) := by
  obtain ⟨i, t, e1, e2, e3, -, -, e4⟩ := own_midt hQ hB hc
  rw [own_get hQ e1 e4] at h2
  have h3 := mt (own_posb (m := m) hS e4).mpr h2
  omega
theorem own_kl1 {k : Nat} (hQ : own_Q f I ts) (hB : 0 ≤ lo.toInt ∧ lo.toInt ≤ (own_pos ts m : Int) ∧ (own_pos ts m : Int) ≤ hi.toInt ∧ hi.toInt ≤ (ts.length : Int)) (hk : hi.toInt - lo.toInt ≤ ((k + 1 : Nat) : Int)) (hc : lo < hi) : hi.toInt - (own_mid lo hi + (1 : Int32)).toInt ≤ (k : Int) := by
  obtain ⟨i, t, e1, e2, e3, e5, e6, e4⟩ := own_midt hQ hB hc
  have a := c_iadd (own_mid lo hi) 1
  have r := rng32 (own_mid lo hi + 1)
  have hl := hQ.2.2.1
  rw [own_e1] at a
  omega
theorem own_kl2 {k : Nat} (hQ : own_Q f I ts) (hB : 0 ≤ lo.toInt ∧ lo.toInt ≤ (own_pos ts m : Int) ∧ (own_pos ts m : Int) ≤ hi.toInt ∧ hi.toInt ≤ (ts.length : Int)) (hk : hi.toInt - lo.toInt ≤ ((k + 1 : Nat) : Int)) (hc : lo < hi) : (own_mid lo hi).toInt - lo.toInt ≤ (k : Int) := by
  obtain ⟨i, t, e1, e2, e3, e5, e6, e4⟩ := own_midt hQ hB hc
  omega
theorem own_k0 (hQ : own_Q f I ts) (hB : 0 ≤ lo.toInt ∧ lo.toInt ≤ (own_pos ts m : Int) ∧ (own_pos ts m : Int) ≤ hi.toInt ∧ hi.toInt ≤ (ts.length : Int)) : hi.toInt - lo.toInt ≤ ((4 : Nat) : Int) := by
  have hl := hQ.2.2.1
  omega
theorem own_z (hB : 0 ≤ lo.toInt ∧ lo.toInt ≤ (own_pos ts m : Int) ∧ (own_pos ts m : Int) ≤ hi.toInt ∧ hi.toInt ≤ (ts.length : Int)) (hk : hi.toInt - lo.toInt ≤ ((0 : Nat) : Int)) : ¬ lo < hi := by
  rw [Int32.lt_iff_toInt_lt]; omega
theorem own_done (hQ : own_Q f I ts) (hB : 0 ≤ lo.toInt ∧ lo.toInt ≤ (own_pos ts m : Int) ∧ (own_pos ts m : Int) ≤ hi.toInt ∧ hi.toInt ≤ (ts.length : Int)) (h : ¬ lo < hi) : lo = Int32.ofNat (own_pos ts m) := by
  have hl := hQ.2.2.1
  rw [Int32.lt_iff_toInt_lt] at h
  exact own_eqn (by omega) (by omega)
end
def own_at (l : List Int64) (k : Nat) (x : Int64) : List Int64 := l.take k ++ x :: l.drop k
def own_sh (f : Int32) (I I2 : Nat → Int64) (i len : Nat) : Prop := ∀ j, j ≤ len → I2 ((f.toInt.toNat + j) % 4) = if j ≤ i then I ((f.toInt.toNat + j) % 4) else I ((f.toInt.toNat + (j - 1)) % 4)
def own_ti (ts : List Int64) (x : Int64) : List Int64 := if ts[own_pos ts x]? = some x then ts else own_at ts (own_pos ts x) x
def own_nbv (d : Int64) (ns : List Int64) (k : Nat) : Int64 := if k = 0 then d else ns.getD (k - 1) 0
def own_ni (d : Int64) (ts ns : List Int64) (x : Int64) : List Int64 := if ts[own_pos ts x]? = some x then ns else own_at ns (own_pos ts x) (own_nbv d ns (own_pos ts x))
def own_bump (l : List Int64) (k : Nat) (p : Int64) : List Int64 := l.take k ++ (l.drop k).map (· + p)
def own_ad (f : Int32) (N2 N3 : Nat → Int64) (p : Int64) (pos cur len : Nat) : Prop := ∀ j, j < len → N3 ((f.toInt.toNat + j) % 4) = if pos ≤ j ∧ j < cur then N2 ((f.toInt.toNat + j) % 4) + p else N2 ((f.toInt.toNat + j) % 4)
theorem own_at_get (l : List Int64) (k : Nat) (x : Int64) (hk : k ≤ l.length) (i : Nat) : (own_at l k x)[i]? = if i < k then l[i]? else if i = k then some x else l[i - 1]? := by
  unfold own_at
  have hl : (l.take k).length = k := by simp; omega
  by_cases h : i < k
  · rw [if_pos h, List.getElem?_append_left (by omega), List.getElem?_take, if_pos h]
  · rw [if_neg h, List.getElem?_append_right (by omega), hl]
    by_cases h2 : i = k
    · subst h2; simp
    · rw [if_neg h2]
      obtain ⟨j, hj⟩ : ∃ j, i - k = j + 1 := ⟨i - k - 1, by omega⟩
      rw [hj, List.getElem?_cons_succ, List.getElem?_drop]
      congr 1
      omega
theorem own_at_len (l : List Int64) (k : Nat) (x : Int64) (hk : k ≤ l.length) : (own_at l k x).length = l.length + 1 := by
  unfold own_at
  simp
  omega
section
variable {f sz p1 i6 : Int32} {I I2 N N2 N3 I0 : Nat → Int64} {ts ns ls : List Int64} {kk k len : Nat} {x d p q1 : Int64}
theorem own_sh0 {i : Nat} (h : len ≤ i) : own_sh f I I i len := fun j hj => by rw [if_pos (by omega)]
theorem own_dec (hi : i6.toInt = ((kk + (k + 1) : Nat) : Int)) (h : kk + (k + 1) ≤ 8) : (i6 + (-1 : Int32)).toInt = ((kk + k : Nat) : Int) := by
  have a := c_iadd i6 (-1)
  have r := rng32 (i6 + -1)
  rw [own_em] at a
  omega
theorem own_shs (hQ : own_Q f I0 ts) (hl : ts.length < 4) (hi : i6.toInt = ((kk + (k + 1) : Nat) : Int)) (hkl : kk + (k + 1) ≤ ts.length) (h : own_sh f I I2 (kk + (k + 1)) ts.length) : own_sh f I (aup I2 ((f + i6) &&& (3 : Int32)).toNatClampNeg (I2 ((f + (i6 - (1 : Int32))) &&& (3 : Int32)).toNatClampNeg)) (kk + k) ts.length := by
  have a := c_isub i6 1
  have r := rng32 (i6 - 1)
  rw [own_e1] at a
  have e1 := own_sl (p := i6) hQ.1 hQ.2.1 hi (by omega)
  have e2 := own_sl (p := i6 - 1) (i := kk + k) hQ.1 hQ.2.1 (by omega) (by omega)
  rw [e1, e2]
  intro j hj
  simp only [aup]
  have h0 := hQ.1
  have h1 := hQ.2.1
  by_cases c : j = kk + (k + 1)
  · subst c
    rw [if_pos rfl, if_neg (by omega), h (kk + k) (by omega), if_pos (by omega)]
    congr 1
  · rw [if_neg (by omega), h j hj]
    by_cases c2 : j ≤ kk + k
    · rw [if_pos (by omega), if_pos c2]
    · rw [if_neg (by omega), if_neg c2]
theorem own_i0 (hat : p1.toInt = (kk : Int)) (hi : i6.toInt = ((kk + 0 : Nat) : Int)) : ¬ p1 < i6 := by rw [Int32.lt_iff_toInt_lt]; omega
theorem own_i1 (hat : p1.toInt = (kk : Int)) (hi : i6.toInt = ((kk + (k + 1) : Nat) : Int)) : p1 < i6 := by rw [Int32.lt_iff_toInt_lt]; omega
theorem own_n4 (hsz : sz.toInt = (ts.length : Int)) (hl : ts.length < 4) : ¬ sz = 4 := fun q => by
  have e : (4 : Int32).toInt = 4 := by decide
  rw [q, e] at hsz
  omega
theorem own_inq (hQ : own_Q f I0 ts) (hI : own_Q f I ls) (hll : ls.length = ts.length) (hl : ts.length < 4) (hat : p1.toInt = (kk : Int)) (hk0 : kk ≤ ts.length) (h : own_sh f I I2 (kk + 0) ts.length) : own_Q f (aup I2 ((f + p1) &&& (3 : Int32)).toNatClampNeg x) (own_at ls kk x) := by
  refine ⟨hQ.1, hQ.2.1, by rw [own_at_len _ _ _ (by omega)]; omega, fun i t ht => ?_⟩
  have h0 := hQ.1
  have h1 := hQ.2.1
  rw [own_sl hQ.1 hQ.2.1 hat (by omega)]
  have hi : i < ls.length + 1 := by rw [← own_at_len ls kk x (by omega)]; exact (List.getElem?_eq_some_iff.mp ht).1
  rw [own_at_get _ _ _ (by omega)] at ht
  simp only [aup]
  by_cases c : i = kk
  · subst c
    simp at ht
    rw [if_pos rfl, ht]
  · rw [if_neg (by omega), h i (by omega)]
    by_cases c2 : i < kk
    · rw [if_pos c2] at ht
      rw [if_pos (by omega)]
      exact hI.2.2.2 i t ht
    · rw [if_neg c2, if_neg c] at ht
      rw [if_neg (by omega)]
      exact hI.2.2.2 (i - 1) t ht
theorem own_pat (hl : ts.length < 4) : (Int32.ofNat (own_pos ts q1)).toInt = (own_pos ts q1 : Int) := own_ofn _ (by have := own_ple ts q1; omega)
theorem own_plt13 (hsz : sz.toInt = (ts.length : Int)) (hQ : own_Q f I ts) (h : ¬ (Int32.ofNat (own_pos ts q1)) = sz) : own_pos ts q1 < ts.length := by
  have h1 := own_ple ts q1
  have h2 := hQ.2.2.1
  have h3 : own_pos ts q1 ≠ ts.length := fun e => h (own_eqn (by rw [hsz, e]) (by omega)).symm
  omega
theorem own_fd (hQ : own_Q f I ts) (hsz : sz.toInt = (ts.length : Int)) (h : ¬ (Int32.ofNat (own_pos ts q1)) = sz) (h2 : I ((f + (Int32.ofNat (own_pos ts q1))) &&& (3 : Int32)).toNatClampNeg = q1) : ts[own_pos ts q1]? = some q1 := by
  have h1 := own_plt13 hsz hQ h
  obtain ⟨t, ht⟩ := own_idx (ts := ts) h1
  have h3 := hQ.2.2.1
  rw [own_get hQ (own_ofn _ (by omega)) ht] at h2
  rw [ht, h2]
theorem own_nf1 (hQ : own_Q f I ts) (hsz : sz.toInt = (ts.length : Int)) (h : (Int32.ofNat (own_pos ts q1)) = sz) : ¬ ts[own_pos ts q1]? = some q1 := fun e => by
  have h1 := (List.getElem?_eq_some_iff.mp e).1
  have h2 := hQ.2.2.1
  have h3 := own_ofn (own_pos ts q1) (by omega)
  rw [h, hsz] at h3
  omega
theorem own_nf2 (hQ : own_Q f I ts) (hsz : sz.toInt = (ts.length : Int)) (h : ¬ (Int32.ofNat (own_pos ts q1)) = sz) (h2 : ¬ I ((f + (Int32.ofNat (own_pos ts q1))) &&& (3 : Int32)).toNatClampNeg = q1) : ¬ ts[own_pos ts q1]? = some q1 := fun e => by
  have h1 := (List.getElem?_eq_some_iff.mp e).1
  have h3 := hQ.2.2.1
  exact h2 (own_get hQ (own_ofn _ (by omega)) e)
theorem own_ti1 (hQ : own_Q f I ts) (hf : ts[own_pos ts q1]? = some q1) : own_Q f I (own_ti ts q1) := by unfold own_ti; rw [if_pos hf]; exact hQ
theorem own_ni1 (hN : own_Q f N ns) (hf : ts[own_pos ts q1]? = some q1) : own_Q f N (own_ni d ts ns q1) := by unfold own_ni; rw [if_pos hf]; exact hN
theorem own_sz1 (hsz : sz.toInt = (ts.length : Int)) (hf : ts[own_pos ts q1]? = some q1) : sz.toInt = ((own_ti ts q1).length : Int) := by unfold own_ti; rw [if_pos hf]; exact hsz
theorem own_ti2 (hf : ¬ ts[own_pos ts q1]? = some q1) (hQ : own_Q f I (own_at ts (own_pos ts q1) q1)) : own_Q f I (own_ti ts q1) := by unfold own_ti; rw [if_neg hf]; exact hQ
theorem own_ni2 (hf : ¬ ts[own_pos ts q1]? = some q1) (hQ : own_Q f I ts) (hN : own_Q f N ns) (hll : ns.length = ts.length) (hl : ts.length < 4) (h : own_Q f N3 (own_at ns (own_pos ts q1) (own_nbf (Int32.ofNat (own_pos ts q1)) d (N ((f + ((Int32.ofNat (own_pos ts q1)) - (1 : Int32))) &&& (3 : Int32)).toNatClampNeg)))) : own_Q f N3 (own_ni d ts ns q1) := by
  unfold own_ni
  rw [if_neg hf]
  have e : own_nbf (Int32.ofNat (own_pos ts q1)) d (N ((f + ((Int32.ofNat (own_pos ts q1)) - (1 : Int32))) &&& (3 : Int32)).toNatClampNeg) = own_nbv d ns (own_pos ts q1) := by
    have h1 := own_ple ts q1
    have h2 := own_ofn (own_pos ts q1) (by omega)
    unfold own_nbf own_nbv
    by_cases c : own_pos ts q1 = 0
    · rw [if_pos c, if_pos (by rw [c]; rfl)]
    · have c' : ¬ Int32.ofNat (own_pos ts q1) = 0 := fun q => by rw [q, own_e0] at h2; omega
      rw [if_neg c, if_neg c']
      have a := c_isub (Int32.ofNat (own_pos ts q1)) 1
      have r := rng32 (Int32.ofNat (own_pos ts q1) - 1)
      rw [own_e1] at a
      obtain ⟨t, ht⟩ := own_idx (ts := ns) (i := own_pos ts q1 - 1) (by omega)
      rw [own_get hN (i := own_pos ts q1 - 1) (by omega) ht, List.getD_eq_getElem?_getD, ht]
      rfl
  rw [← e]
  exact h
theorem own_til (hf : ¬ ts[own_pos ts q1]? = some q1) : (own_ti ts q1).length = ts.length + 1 := by unfold own_ti; rw [if_neg hf]; exact own_at_len _ _ _ (own_ple ts q1)
theorem own_sz2 (hf : ¬ ts[own_pos ts q1]? = some q1) (hsz : sz.toInt = (ts.length : Int)) (hl : ts.length < 4) : (sz + (1 : Int32)).toInt = ((own_ti ts q1).length : Int) := by
  have a := c_iadd sz 1
  have r := rng32 (sz + 1)
  rw [own_e1] at a
  rw [own_til hf]
  omega
theorem own_tle : own_pos ts q1 ≤ (own_ti ts q1).length := by
  have h := own_ple ts q1
  by_cases hf : ts[own_pos ts q1]? = some q1
  · unfold own_ti; rw [if_pos hf]; exact h
  · rw [own_til hf]; omega
theorem own_st (hl : ts.length < 4) : (Int32.ofNat (own_pos ts q1)).toInt = (((own_ti ts q1).length - ((own_ti ts q1).length - own_pos ts q1) : Nat) : Int) := by
  have h := own_tle (ts := ts) (q1 := q1)
  rw [own_pat hl]
  omega
theorem own_ad0 (h : own_pos ts q1 ≤ len) : own_ad f N2 N2 p (own_pos ts q1) (len - (len - own_pos ts q1)) len := fun j hj => by rw [if_neg (by omega)]
theorem own_inc (hQ : own_Q f I2 ls) {pos : Nat} (hkl : k + 1 ≤ ls.length - pos) (hi : i6.toInt = ((ls.length - (k + 1) : Nat) : Int)) : (i6 + (1 : Int32)).toInt = ((ls.length - k : Nat) : Int) := by
  have a := c_iadd i6 1
  have r := rng32 (i6 + 1)
  have h := hQ.2.2.1
  rw [own_e1] at a
  omega
theorem own_ads (hQ : own_Q f I2 ls) {pos : Nat} (hkl : k + 1 ≤ ls.length - pos) (hi : i6.toInt = ((ls.length - (k + 1) : Nat) : Int)) (ha : own_ad f N2 N3 p pos (ls.length - (k + 1)) ls.length) : own_ad f N2 (aup N3 ((f + i6) &&& (3 : Int32)).toNatClampNeg ((N3 ((f + i6) &&& (3 : Int32)).toNatClampNeg) + p)) p pos (ls.length - k) ls.length := by
  have h := hQ.2.2.1
  have h0 := hQ.1
  have h1 := hQ.2.1
  rw [own_sl hQ.1 hQ.2.1 hi (by omega)]
  intro j hj
  simp only [aup]
  by_cases c : j = ls.length - (k + 1)
  · subst c
    rw [if_pos rfl, if_pos (by omega), ha _ hj, if_neg (by omega)]
  · rw [if_neg (by omega), ha j hj]
    by_cases c2 : pos ≤ j ∧ j < ls.length - (k + 1)
    · rw [if_pos c2, if_pos (by omega)]
    · rw [if_neg c2, if_neg (by omega)]
theorem own_j0 {s2 : Int32} (hi : i6.toInt = ((ls.length - 0 : Nat) : Int)) (hs : s2.toInt = (ls.length : Int)) : ¬ i6 < s2 := by rw [Int32.lt_iff_toInt_lt]; omega
theorem own_j1 {s2 : Int32} {pos : Nat} (hi : i6.toInt = ((ls.length - (k + 1) : Nat) : Int)) (hs : s2.toInt = (ls.length : Int)) (hkl : k + 1 ≤ ls.length - pos) : i6 < s2 := by rw [Int32.lt_iff_toInt_lt]; omega
theorem own_nil (hll : ns.length = ts.length) : (own_ni d ts ns q1).length = (own_ti ts q1).length := by
  unfold own_ni own_ti
  have h := own_ple ts q1
  split
  · exact hll
  · rw [own_at_len _ _ _ (by omega), own_at_len _ _ _ h, hll]
theorem own_adq (hQ : own_Q f I2 ls) (hN : own_Q f N2 ns) (hll : ns.length = ls.length) {pos : Nat} (ha : own_ad f N2 N3 p pos (ls.length - 0) ls.length) : own_Q f N3 (own_bump ns pos p) := by
  refine ⟨hQ.1, hQ.2.1, by unfold own_bump; simp; have := hQ.2.2.1; omega, fun i t ht => ?_⟩
  unfold own_bump at ht
  have hi : i < ns.length := by
    have := (List.getElem?_eq_some_iff.mp ht).1
    simp at this
    omega
  obtain ⟨u, hu⟩ := own_idx (ts := ns) hi
  rw [ha i (by omega), hN.2.2.2 i u hu]
  by_cases c : i < pos
  · rw [if_neg (by omega)]
    rw [List.getElem?_append_left (by simp; omega), List.getElem?_take, if_pos c, hu] at ht
    exact Option.some.inj ht
  · rw [if_pos (by omega)]
    by_cases c2 : pos ≤ ns.length
    · rw [List.getElem?_append_right (by simp; omega), List.getElem?_map, List.getElem?_drop] at ht
      have e : pos + (i - (List.take pos ns).length) = i := by simp; omega
      rw [e, hu] at ht
      exact Option.some.inj ht
    · omega
end
def own_Two (a b : Slot) : Prop := (a = .unset ∧ b = .unset) ∨ ∃ x : Int64, a = .val (.long x) ∧ b = .second
def own_M (d : Int64) (ns : List Int64) : Prop := (d :: ns).Pairwise (fun a b => a.toInt ≤ b.toInt) ∧ ∀ x ∈ d :: ns, 0 ≤ x.toInt ∧ x.toInt ≤ 1099511627776
def own_tt (d : Int64) (ns : List Int64) : Int64 := match ns.getLast? with | none => 0 | some x => x - d
def own_kp : Int64 → List Int64 → List Int64 → Int64 → Int64 × List Int64 × List Int64
  | d, t :: ts, n :: ns, e => if 0 < e then (if e < n - d then (d + e, t :: ts, n :: ns) else own_kp n ts ns (e - (n - d))) else (d, t :: ts, n :: ns)
  | d, [], ns, _ => (d, [], ns)
  | d, ts, [], _ => (d, ts, [])
def own_kf : Int64 → List Int64 → List Int64 → Int64 → Int64 × List Int64 × List Int64
  | d, t :: ts, n :: ns, x => if t < x then own_kf n ts ns x else (d, t :: ts, n :: ns)
  | d, [], ns, _ => (d, [], ns)
  | d, ts, [], _ => (d, ts, [])
theorem own_el0 : (0 : Int64).toInt = 0 := by decide
section
variable {f sz f2 s2 : Int32} {I N : Nat → Int64} {ts ns ts2 ns2 tr nr : List Int64} {d d2 e3 q1 t0 n0 : Int64} {k : Nat} {R : Int64 × List Int64 × List Int64}
theorem own_pt (hN : own_Q f N ns) (hsz : sz.toInt = (ts.length : Int)) (hll : ns.length = ts.length) : own_perm sz d (N ((f + (sz - (1 : Int32))) &&& (3 : Int32)).toNatClampNeg) = own_tt d ns := by
  unfold own_perm own_tt
  rw [← hll] at hsz
  by_cases c : sz = 0
  · rw [if_pos c]
    rw [c, own_e0] at hsz
    have : ns = [] := List.length_eq_zero_iff.mp (by omega)
    subst this; rfl
  · rw [if_neg c]
    have h0 := own_sne hsz c
    have h1 := own_sm1 hsz h0 hN.2.2.1
    obtain ⟨t, ht⟩ := own_idx (ts := ns) (i := ns.length - 1) (by omega)
    rw [own_get hN h1 ht, List.getLast?_eq_getElem?, ht]
theorem own_lsub (a b : Int64) (ha : 0 ≤ a.toInt ∧ a.toInt ≤ 4398046511104) (hb : 0 ≤ b.toInt) : (a - b).toInt = a.toInt - b.toInt := by
  have h := c_lsub a b
  have r := rng64 (a - b)
  have r2 := rng64 b
  omega
theorem own_ladd (a b : Int64) (ha : 0 ≤ a.toInt ∧ a.toInt ≤ 4398046511104) (hb : 0 ≤ b.toInt ∧ b.toInt ≤ 4398046511104) : (a + b).toInt = a.toInt + b.toInt := by
  have h := c_ladd a b
  have r := rng64 (a + b)
  omega
theorem own_ttv (hM : own_M d ns) : (own_tt d ns).toInt = (match ns.getLast? with | none => 0 | some x => x.toInt - d.toInt) ∧ 0 ≤ (own_tt d ns).toInt ∧ (own_tt d ns).toInt ≤ 1099511627776 := by
  unfold own_tt
  cases h : ns.getLast? with
  | none => exact ⟨own_el0, by show 0 ≤ (0 : Int64).toInt; rw [own_el0]; omega, by show (0 : Int64).toInt ≤ _; rw [own_el0]; omega⟩
  | some x =>
    have hx : x ∈ ns := List.mem_of_getLast? h
    have h1 := hM.2 x (List.mem_cons_of_mem _ hx)
    have h2 := hM.2 d (List.mem_cons_self ..)
    have h3 := (List.pairwise_cons.mp hM.1).1 x hx
    have h4 := own_lsub x d (by omega) h2.1
    refine ⟨h4, ?_, ?_⟩
    · show 0 ≤ (x - d).toInt; omega
    · show (x - d).toInt ≤ _; omega
theorem own_he (hN : own_Q f N ns) (hsz : sz.toInt = (ts.length : Int)) (hll : ns.length = ts.length) (hM : own_M d ns) (hq : 0 ≤ q1.toInt) : ((own_perm sz d (N ((f + (sz - (1 : Int32))) &&& (3 : Int32)).toNatClampNeg)) - q1).toInt ≤ (own_tt d ns).toInt := by
  rw [own_pt hN hsz hll]
  have h := own_ttv hM
  rw [own_lsub _ _ (by omega) hq]
  omega
theorem own_ne (hc : (0 : Int64) < e3) (he : e3.toInt ≤ (own_tt d2 ns2).toInt) (hl : ns2.length = ts2.length) : ∃ t0 tr n0 nr, ts2 = t0 :: tr ∧ ns2 = n0 :: nr := by
  rw [own_ltt, own_el0] at hc
  cases ns2 with
  | nil => exfalso; have : (own_tt d2 []).toInt = 0 := own_el0; omega
  | cons n0 nr =>
    cases ts2 with
    | nil => simp at hl
    | cons t0 tr => exact ⟨_, _, _, _, rfl, rfl⟩
theorem own_nef (hc : (0 : Int32) < s2) (hs : s2.toInt = (ts2.length : Int)) (hl : ns2.length = ts2.length) : ∃ t0 tr n0 nr, ts2 = t0 :: tr ∧ ns2 = n0 :: nr := by
  rw [Int32.lt_iff_toInt_lt, own_e0] at hc
  cases ts2 with
  | nil => exfalso; simp at hs; omega
  | cons t0 tr =>
    cases ns2 with
    | nil => simp at hl
    | cons n0 nr => exact ⟨_, _, _, _, rfl, rfl⟩
theorem own_kz {x : Nat} (hk : (if (0 : Int64) < e3 then x + 1 else 0) ≤ 0) : ¬ (0 : Int64) < e3 := fun q => by rw [if_pos q] at hk; omega
theorem own_fz (hk : ts2.length ≤ 0) (hs : s2.toInt = (ts2.length : Int)) : ¬ (0 : Int32) < s2 := by rw [Int32.lt_iff_toInt_lt, own_e0]; omega
theorem own_kB (hr : own_kp d2 (t0 :: tr) (n0 :: nr) e3 = R) (hc : (0 : Int64) < e3) (h : e3 < (n0 - d2)) : own_kp (d2 + e3) (t0 :: tr) (n0 :: nr) (0 : Int64) = R := by
  rw [← hr]
  simp only [own_kp]
  rw [if_pos hc, if_pos h, if_neg (by rw [own_ltt]; omega)]
theorem own_kA (hr : own_kp d2 (t0 :: tr) (n0 :: nr) e3 = R) (hc : (0 : Int64) < e3) (h : ¬ e3 < (n0 - d2)) : own_kp n0 tr nr (e3 - (n0 - d2)) = R := by
  rw [← hr]
  simp only [own_kp]
  rw [if_pos hc, if_neg h]
theorem own_kend (hr : own_kp d2 ts2 ns2 e3 = R) (h : ¬ (0 : Int64) < e3) : (d2, ts2, ns2) = R := by
  rw [← hr]
  cases ts2 with
  | nil => rfl
  | cons t tr =>
    cases ns2 with
    | nil => rfl
    | cons n nr => simp only [own_kp]; rw [if_neg h]
theorem own_QA (hQ : own_Q f2 I (t0 :: tr)) : own_Q ((f2 + (1 : Int32)) &&& (3 : Int32)) I tr := by
  obtain ⟨h0, h1, h2, h3⟩ := hQ
  have a := c_iadd f2 1
  have r := rng32 (f2 + 1)
  have m := c_mask (f2 + 1) 3 2 (by omega) (by decide)
  rw [own_e1] at a
  refine ⟨by omega, by omega, by simp at h2; omega, fun i t ht => ?_⟩
  have := h3 (i + 1) t (by simpa using ht)
  rw [← this]
  congr 1
  omega
theorem own_sA (hs : s2.toInt = ((t0 :: tr).length : Int)) (hQ : own_Q f2 I (t0 :: tr)) : (s2 - (1 : Int32)).toInt = (tr.length : Int) := by
  have a := c_isub s2 1
  have r := rng32 (s2 - 1)
  have h := hQ.2.2.1
  rw [own_e1] at a
  simp at hs h
  omega
theorem own_lA (hl : (n0 :: nr).length = (t0 :: tr).length) : nr.length = tr.length := by simpa using hl
theorem own_MA (hM : own_M d2 (n0 :: nr)) : own_M n0 nr := ⟨(List.pairwise_cons.mp hM.1).2, fun x hx => hM.2 x (List.mem_cons_of_mem _ hx)⟩
theorem own_MB (hM : own_M d2 (n0 :: nr)) (hc : (0 : Int64) < e3) (h : e3 < (n0 - d2)) : own_M (d2 + e3) (n0 :: nr) := by
  have h1 := hM.2 d2 (List.mem_cons_self ..)
  have h2 := hM.2 n0 (List.mem_cons_of_mem _ (List.mem_cons_self ..))
  have h3 := own_lsub n0 d2 (by omega) h1.1
  rw [own_ltt] at hc h
  rw [own_el0] at hc
  have h4 := own_ladd d2 e3 (by omega) (by omega)
  have h5 := List.pairwise_cons.mp hM.1
  have h6 := List.pairwise_cons.mp h5.2
  refine ⟨List.pairwise_cons.mpr ⟨fun x hx => ?_, h5.2⟩, fun x hx => ?_⟩
  · rcases List.mem_cons.mp hx with rfl | hx
    · omega
    · have := h6.1 x hx; omega
  · rcases List.mem_cons.mp hx with rfl | hx
    · omega
    · exact hM.2 x (List.mem_cons_of_mem _ hx)
theorem own_eB (hM : own_M d2 ns2) : (0 : Int64).toInt ≤ (own_tt d2 ns2).toInt := by rw [own_el0]; exact (own_ttv hM).2.1
theorem own_eA (hM : own_M d2 (n0 :: nr)) (hc : (0 : Int64) < e3) (h : ¬ e3 < (n0 - d2)) (he : e3.toInt ≤ (own_tt d2 (n0 :: nr)).toInt) : (e3 - (n0 - d2)).toInt ≤ (own_tt n0 nr).toInt := by
  have h1 := hM.2 d2 (List.mem_cons_self ..)
  have h2 := hM.2 n0 (List.mem_cons_of_mem _ (List.mem_cons_self ..))
  have h3 := own_lsub n0 d2 (by omega) h1.1
  have h5 := (own_ttv hM)
  have h6 := (own_ttv (own_MA hM))
  have h7 := (List.pairwise_cons.mp hM.1).1 n0 (List.mem_cons_self ..)
  rw [own_ltt] at hc h
  rw [own_el0] at hc
  have h8 := own_lsub e3 (n0 - d2) (by omega) (by omega)
  rw [h8, h3, h6.1]
  rw [h5.1] at he
  cases nr with
  | nil =>
    have he' : e3.toInt ≤ n0.toInt - d2.toInt := he
    show e3.toInt - (n0.toInt - d2.toInt) ≤ 0
    omega
  | cons b br =>
    rw [List.getLast?_cons_cons] at he
    cases hg : (b :: br).getLast? with
    | none => simp at hg
    | some x =>
      rw [hg] at he
      have he' : e3.toInt ≤ x.toInt - d2.toInt := he
      show e3.toInt - (n0.toInt - d2.toInt) ≤ x.toInt - n0.toInt
      omega
theorem own_kkA (hk : (if (0 : Int64) < e3 then (t0 :: tr).length + 1 else 0) ≤ k + 1) (hc : (0 : Int64) < e3) {e : Int64} : (if (0 : Int64) < e then tr.length + 1 else 0) ≤ k := by
  rw [if_pos hc] at hk
  simp at hk
  split <;> omega
theorem own_fA {x : Int64} (hr : own_kf d2 (t0 :: tr) (n0 :: nr) x = R) (h : t0 < x) : own_kf n0 tr nr x = R := by
  rw [← hr]; simp only [own_kf]; rw [if_pos h]
theorem own_fend2 {x : Int64} (hr : own_kf d2 (t0 :: tr) (n0 :: nr) x = R) (h : ¬ t0 < x) : (d2, t0 :: tr, n0 :: nr) = R := by
  rw [← hr]; simp only [own_kf]; rw [if_neg h]
theorem own_fend1 {x : Int64} (hr : own_kf d2 ts2 ns2 x = R) (hl : ns2.length = ts2.length) (hs : s2.toInt = (ts2.length : Int)) (h : ¬ (0 : Int32) < s2) : (d2, ts2, ns2) = R := by
  rw [Int32.lt_iff_toInt_lt, own_e0] at h
  have : ts2 = [] := List.length_eq_zero_iff.mp (by omega)
  subst this
  rw [← hr]; rfl
end
def own_min (a b : Int64) : Int64 := if b < a then b else a
theorem own_min_t (a b : Int64) : (own_min a b).toInt = if b.toInt < a.toInt then b.toInt else a.toInt := by
  unfold own_min
  by_cases h : b < a
  · rw [if_pos h, if_pos ((own_ltt _ _).mp h)]
  · rw [if_neg h, if_neg (mt (own_ltt _ _).mpr h)]
section
variable {f : Int32} {I N : Nat → Int64} {t1 t2 a b d x p : Int64}
theorem own_Q0 : own_Q (0 : Int32) (fun _ => 0) [] := ⟨by decide, by decide, by simp, by simp⟩
theorem own_ti0 : own_ti [] x = [x] := by simp [own_ti, own_pos, own_at]
theorem own_ni0 : own_bump (own_ni d [] [] x) (own_pos [] x) p = [d + p] := by simp [own_ni, own_pos, own_at, own_bump, own_nbv]
theorem own_irr (x : Int64) : ¬ x < x := by rw [own_ltt]; omega
theorem own_tri (t1 t2 : Int64) : t1 < t2 ∨ t1 = t2 ∨ t2 < t1 := by
  rw [own_ltt, own_ltt, ← Int64.toInt_inj]; omega
theorem own_pos_lt (h : t1 < t2) : own_pos [t1] t2 = 1 := by simp [own_pos, h]
theorem own_pos_nl (h : ¬ t1 < t2) : own_pos [t1] t2 = 0 := by simp [own_pos, h]
theorem own_two (t1 t2 n d p : Int64) : (t1 < t2 ∧ own_ti [t1] t2 = [t1, t2] ∧ own_bump (own_ni d [t1] [n] t2) (own_pos [t1] t2) p = [n, n + p]) ∨ (t1 = t2 ∧ own_ti [t1] t2 = [t1] ∧ own_bump (own_ni d [t1] [n] t2) (own_pos [t1] t2) p = [n + p]) ∨ (t2 < t1 ∧ own_ti [t1] t2 = [t2, t1] ∧ own_bump (own_ni d [t1] [n] t2) (own_pos [t1] t2) p = [d + p, n + p]) := by
  rcases own_tri t1 t2 with h | h | h
  · refine Or.inl ⟨h, ?_, ?_⟩
    · unfold own_ti; rw [own_pos_lt h]; simp [own_at]
    · unfold own_ni; rw [own_pos_lt h]; simp [own_at, own_bump, own_nbv]
  · subst h
    refine Or.inr (Or.inl ⟨rfl, ?_, ?_⟩)
    · unfold own_ti; rw [own_pos_nl (own_irr _)]; simp
    · unfold own_ni; rw [own_pos_nl (own_irr _)]; simp [own_bump]
  · have h' : ¬ t1 < t2 := by rw [own_ltt] at h ⊢; omega
    have hne : ¬ t1 = t2 := fun e => by rw [e] at h; exact own_irr _ h
    refine Or.inr (Or.inr ⟨h, ?_, ?_⟩)
    · unfold own_ti; rw [own_pos_nl h']; simp [own_at, hne]
    · unfold own_ni; rw [own_pos_nl h']; simp [own_at, own_bump, own_nbv, hne]
theorem own_m31 (p : Int32) {v : Int64} (h : (p.toInt64 &&& (2147483647 : Int64)) = v) : 0 ≤ v.toInt ∧ v.toInt ≤ 2147483647 := by
  have h1 := c_maskL p.toInt64 2147483647 31 (by omega) (by decide)
  rw [h] at h1
  omega
theorem own_m63 (q : Int64) {v : Int64} (h : (q &&& (9223372036854775807 : Int64)) = v) : 0 ≤ v.toInt := by
  have h1 := c_maskL q 9223372036854775807 63 (by omega) (by decide)
  rw [h] at h1
  omega
theorem own_z0 (v : Int64) : (0 : Int64) + v = v := by simp
theorem own_tt1 : own_tt d [d + a] = a := by
  show (d + a) - d = a
  apply Int64.toInt_inj.mp
  have h1 := c_ladd d a
  have h2 := c_lsub (d + a) d
  have r1 := rng64 a
  have r2 := rng64 (d + a - d)
  omega
theorem own_ktot : ∀ {ns ts : List Int64} {d e : Int64} {R : Int64 × List Int64 × List Int64}, R = own_kp d ts ns e → ns.length = ts.length → own_M d ns → e.toInt ≤ (own_tt d ns).toInt → (own_tt R.1 R.2.2).toInt = (own_tt d ns).toInt - (if 0 < e.toInt then e.toInt else 0)
  | [], ts, d, e, R, hR, hl, hM, he => by
    have : ts = [] := List.length_eq_zero_iff.mp hl.symm
    subst this
    subst hR
    have h0 : (own_tt d []).toInt = 0 := own_el0
    rw [h0] at he
    rw [if_neg (by omega), h0]
    exact own_el0
  | n :: r, [], d, e, R, hR, hl, hM, he => by simp at hl
  | n :: r, t :: ts, d, e, R, hR, hl, hM, he => by
    have hd := hM.2 d (List.mem_cons_self ..)
    have hn := hM.2 n (List.mem_cons_of_mem _ (List.mem_cons_self ..))
    have hdn := (List.pairwise_cons.mp hM.1).1 n (List.mem_cons_self ..)
    have hs := own_lsub n d (by omega) hd.1
    simp only [own_kp] at hR
    by_cases c : (0 : Int64) < e
    · have c' := (own_ltt _ _).mp c
      rw [own_el0] at c'
      rw [if_pos c] at hR
      rw [if_pos c']
      by_cases c2 : e < n - d
      · rw [if_pos c2] at hR
        subst hR
        have c3 := (own_ltt _ _).mp c2
        have ha := own_ladd d e (by omega) (by omega)
        have hM' := own_MB hM c c2
        have h1 := (own_ttv hM').1
        have h2 := (own_ttv hM).1
        show (own_tt (d + e) (n :: r)).toInt = _
        rw [h1, h2]
        cases hg : (n :: r).getLast? with
        | none => simp at hg
        | some y =>
          show y.toInt - (d + e).toInt = y.toInt - d.toInt - e.toInt
          omega
      · rw [if_neg c2] at hR
        have c3 := mt (own_ltt _ _).mpr c2
        have hM' := own_MA hM
        have he' := own_eA hM c c2 he
        have ih := own_ktot hR (by simpa using hl) hM' he'
        have hb := (own_ttv hM).2.2
        have hsub := own_lsub e (n - d) (by omega) (by omega)
        rw [ih, hsub, hs]
        have h1 := (own_ttv hM').1
        have h2 := (own_ttv hM).1
        have h3 : (own_tt d (n :: r)).toInt = (n.toInt - d.toInt) + (own_tt n r).toInt := by
          rw [h1, h2]
          cases r with
          | nil => show n.toInt - d.toInt = n.toInt - d.toInt + 0; omega
          | cons b br =>
            rw [List.getLast?_cons_cons]
            cases hg : (b :: br).getLast? with
            | none => simp at hg
            | some y => show y.toInt - d.toInt = n.toInt - d.toInt + (y.toInt - n.toInt); omega
        rw [h3]
        split <;> omega
    · have c' := mt (own_ltt _ _).mpr c
      rw [own_el0] at c'
      rw [if_neg c] at hR
      subst hR
      rw [if_neg c']
      show (own_tt d (n :: r)).toInt = _
      omega
end
theorem own_lt2 {t1 t2 n d p : Int64} (h : t1 < t2) : own_ti [t1] t2 = [t1, t2] ∧ own_bump (own_ni d [t1] [n] t2) (own_pos [t1] t2) p = [n, n + p] := by
  refine ⟨?_, ?_⟩
  · unfold own_ti; rw [own_pos_lt h]; simp [own_at]
  · unfold own_ni; rw [own_pos_lt h]; simp [own_at, own_bump, own_nbv]
theorem own_lt3 {t0 t1 t2 n m d p : Int64} (h0 : t0 < t2) (h : t1 < t2) : own_ti [t0, t1] t2 = [t0, t1, t2] ∧ own_bump (own_ni d [t0, t1] [n, m] t2) (own_pos [t0, t1] t2) p = [n, m, m + p] := by
  have e : own_pos [t0, t1] t2 = 2 := by simp [own_pos, h, h0]
  refine ⟨?_, ?_⟩
  · unfold own_ti; rw [e]; simp [own_at]
  · unfold own_ni; rw [e]; simp [own_at, own_bump, own_nbv]
theorem own_kk0 {d e : Int64} {ts ns : List Int64} (h : e.toInt ≤ 0) : own_kp d ts ns e = (d, ts, ns) := (own_kend (R := own_kp d ts ns e) rfl (by rw [own_ltt, own_el0]; omega)).symm
theorem own_kk1 {d e t n : Int64} {ts ns : List Int64} (h : 0 < e.toInt) (h2 : e.toInt < (n - d).toInt) : own_kp d (t :: ts) (n :: ns) e = (d + e, t :: ts, n :: ns) := by
  simp only [own_kp]
  rw [if_pos (by rw [own_ltt, own_el0]; exact h), if_pos (by rw [own_ltt]; exact h2)]
theorem own_kk2 {d e t n : Int64} {ts ns : List Int64} (h : 0 < e.toInt) (h2 : ¬ e.toInt < (n - d).toInt) : own_kp d (t :: ts) (n :: ns) e = own_kp n ts ns (e - (n - d)) := by
  simp only [own_kp]
  rw [if_pos (by rw [own_ltt, own_el0]; exact h), if_neg (by rw [own_ltt]; exact h2)]
def own_R (t0 t1 t2 n0 n1 n2 D : Int64) (R : Int64 × List Int64 × List Int64) : Prop := 0 ≤ D.toInt ∧ ((D.toInt < n0.toInt ∧ R = (D, [t0, t1, t2], [n0, n1, n2])) ∨ (n0.toInt ≤ D.toInt ∧ D.toInt < n1.toInt ∧ R = (D, [t1, t2], [n1, n2])) ∨ (n1.toInt ≤ D.toInt ∧ D.toInt < n2.toInt ∧ R = (D, [t2], [n2])) ∨ (D.toInt = n2.toInt ∧ R = (D, [], [])))
def own_mx (e : Int64) : Int := if 0 < e.toInt then e.toInt else 0
section
variable {t0 t1 t2 n0 n1 n2 D e : Int64}
theorem own_R0 (hn : 0 < n0.toInt ∧ n0.toInt < n1.toInt ∧ n1.toInt < n2.toInt ∧ n2.toInt ≤ 1000) (hD : D.toInt = n2.toInt) (he : e.toInt ≤ n2.toInt - D.toInt) : ∃ D', D'.toInt = D.toInt + own_mx e ∧ own_R t0 t1 t2 n0 n1 n2 D' (own_kp D [] [] e) := by
  refine ⟨D, ?_, by omega, ?_⟩
  · unfold own_mx; rw [if_neg (by omega)]; omega
  · exact Or.inr (Or.inr (Or.inr ⟨hD, rfl⟩))
theorem own_R1 (hn : 0 < n0.toInt ∧ n0.toInt < n1.toInt ∧ n1.toInt < n2.toInt ∧ n2.toInt ≤ 1000) (hD : n1.toInt ≤ D.toInt ∧ D.toInt < n2.toInt) (he : e.toInt ≤ n2.toInt - D.toInt) : ∃ D', D'.toInt = D.toInt + own_mx e ∧ own_R t0 t1 t2 n0 n1 n2 D' (own_kp D [t2] [n2] e) := by
  have hs := own_lsub n2 D (by omega) (by omega)
  by_cases c : 0 < e.toInt
  · have hm : own_mx e = e.toInt := if_pos c
    by_cases c2 : e.toInt < (n2 - D).toInt
    · have ha := own_ladd D e (by omega) (by omega)
      refine ⟨D + e, by omega, by omega, ?_⟩
      rw [own_kk1 c c2]
      exact Or.inr (Or.inr (Or.inl ⟨by omega, by omega, rfl⟩))
    · have hs2 := own_lsub e (n2 - D) (by omega) (by omega)
      rw [own_kk2 c c2]
      obtain ⟨D', h1, h2⟩ := own_R0 (t0 := t0) (t1 := t1) (t2 := t2) (e := e - (n2 - D)) hn (D := n2) rfl (by omega)
      refine ⟨D', ?_, h2⟩
      rw [h1, hm]; unfold own_mx; split <;> omega
  · have hm : own_mx e = 0 := if_neg c
    rw [own_kk0 (by omega)]
    exact ⟨D, by omega, by omega, Or.inr (Or.inr (Or.inl ⟨by omega, by omega, rfl⟩))⟩
theorem own_R2 (hn : 0 < n0.toInt ∧ n0.toInt < n1.toInt ∧ n1.toInt < n2.toInt ∧ n2.toInt ≤ 1000) (hD : n0.toInt ≤ D.toInt ∧ D.toInt < n1.toInt) (he : e.toInt ≤ n2.toInt - D.toInt) : ∃ D', D'.toInt = D.toInt + own_mx e ∧ own_R t0 t1 t2 n0 n1 n2 D' (own_kp D [t1, t2] [n1, n2] e) := by
  have hs := own_lsub n1 D (by omega) (by omega)
  by_cases c : 0 < e.toInt
  · have hm : own_mx e = e.toInt := if_pos c
    by_cases c2 : e.toInt < (n1 - D).toInt
    · have ha := own_ladd D e (by omega) (by omega)
      refine ⟨D + e, by omega, by omega, ?_⟩
      rw [own_kk1 c c2]
      exact Or.inr (Or.inl ⟨by omega, by omega, rfl⟩)
    · have hs2 := own_lsub e (n1 - D) (by omega) (by omega)
      rw [own_kk2 c c2]
      obtain ⟨D', h1, h2⟩ := own_R1 (t0 := t0) (t1 := t1) (t2 := t2) (e := e - (n1 - D)) hn (D := n1) (by omega) (by omega)
      refine ⟨D', ?_, h2⟩
      rw [h1, hm]; unfold own_mx; split <;> omega
  · have hm : own_mx e = 0 := if_neg c
    rw [own_kk0 (by omega)]
    exact ⟨D, by omega, by omega, Or.inr (Or.inl ⟨by omega, by omega, rfl⟩)⟩
theorem own_R3 (hn : 0 < n0.toInt ∧ n0.toInt < n1.toInt ∧ n1.toInt < n2.toInt ∧ n2.toInt ≤ 1000) (hD : 0 ≤ D.toInt ∧ D.toInt < n0.toInt) (he : e.toInt ≤ n2.toInt - D.toInt) : ∃ D', D'.toInt = D.toInt + own_mx e ∧ own_R t0 t1 t2 n0 n1 n2 D' (own_kp D [t0, t1, t2] [n0, n1, n2] e) := by
  have hs := own_lsub n0 D (by omega) (by omega)
  by_cases c : 0 < e.toInt
  · have hm : own_mx e = e.toInt := if_pos c
    by_cases c2 : e.toInt < (n0 - D).toInt
    · have ha := own_ladd D e (by omega) (by omega)
      refine ⟨D + e, by omega, by omega, ?_⟩
      rw [own_kk1 c c2]
      exact Or.inl ⟨by omega, rfl⟩
    · have hs2 := own_lsub e (n0 - D) (by omega) (by omega)
      rw [own_kk2 c c2]
      obtain ⟨D', h1, h2⟩ := own_R2 (t0 := t0) (t1 := t1) (t2 := t2) (e := e - (n0 - D)) hn (D := n0) (by omega) (by omega)
      refine ⟨D', ?_, h2⟩
      rw [h1, hm]; unfold own_mx; split <;> omega
  · have hm : own_mx e = 0 := if_neg c
    rw [own_kk0 (by omega)]
    exact ⟨D, by omega, by omega, Or.inl ⟨by omega, rfl⟩⟩
theorem own_Rk {R : Int64 × List Int64 × List Int64} (hn : 0 < n0.toInt ∧ n0.toInt < n1.toInt ∧ n1.toInt < n2.toInt ∧ n2.toInt ≤ 1000) (hR : own_R t0 t1 t2 n0 n1 n2 D R) (he : e.toInt ≤ n2.toInt - D.toInt) : ∃ D', D'.toInt = D.toInt + own_mx e ∧ own_R t0 t1 t2 n0 n1 n2 D' (own_kp R.1 R.2.1 R.2.2 e) := by
  obtain ⟨h0, ⟨h1, rfl⟩ | ⟨h1, h2, rfl⟩ | ⟨h1, h2, rfl⟩ | ⟨h1, rfl⟩⟩ := hR
  · exact own_R3 hn ⟨h0, h1⟩ he
  · exact own_R2 hn ⟨h1, h2⟩ he
  · exact own_R1 hn ⟨h1, h2⟩ he
  · exact own_R0 hn h1 he
theorem own_Rt {R : Int64 × List Int64 × List Int64} (hn : 0 < n0.toInt ∧ n0.toInt < n1.toInt ∧ n1.toInt < n2.toInt ∧ n2.toInt ≤ 1000) (hR : own_R t0 t1 t2 n0 n1 n2 D R) : R.1 = D ∧ (own_tt R.1 R.2.2).toInt = n2.toInt - D.toInt := by
  obtain ⟨h0, ⟨h1, rfl⟩ | ⟨h1, h2, rfl⟩ | ⟨h1, h2, rfl⟩ | ⟨h1, rfl⟩⟩ := hR
  · exact ⟨rfl, own_lsub n2 D (by omega) (by omega)⟩
  · exact ⟨rfl, own_lsub n2 D (by omega) (by omega)⟩
  · exact ⟨rfl, own_lsub n2 D (by omega) (by omega)⟩
  · refine ⟨rfl, ?_⟩
    show (0 : Int64).toInt = _
    rw [own_el0]; omega
end
theorem own_min_s (a b : Int64) {r : Int64} (h : own_min a b = r) : (r.toInt = b.toInt ∧ b.toInt < a.toInt) ∨ (r.toInt = a.toInt ∧ a.toInt ≤ b.toInt) := by
  have := own_min_t a b
  rw [h] at this
  split at this <;> omega
theorem own_fx {v4 v5 v6 v7 v8 k r0 r1 r2 n0 n1 n2 D1 D2 : Int} (h4 : 1 ≤ v4 ∧ v4 ≤ 8) (h5 : 1 ≤ v5 ∧ v5 ≤ 8) (h6 : 1 ≤ v6 ∧ v6 ≤ 8) (h7 : 0 ≤ v7) (h8 : 0 ≤ v8) (e0 : n0 = v4) (e1 : n1 = v4 + v5) (e2 : n2 = v4 + v5 + v6) (hD1 : D1 = (if 0 < n2 - v7 then n2 - v7 else 0)) (hD2 : D2 = D1 + (if 0 < n2 - D1 - v8 then n2 - D1 - v8 else 0)) (hk : (k = v8 ∧ v8 < v7) ∨ (k = v7 ∧ v7 ≤ v8)) (hr2 : (r2 = k ∧ k < v6) ∨ (r2 = v6 ∧ v6 ≤ k)) (hr1 : (r1 = k - r2 ∧ k - r2 < v5) ∨ (r1 = v5 ∧ v5 ≤ k - r2)) (hr0 : (r0 = k - r2 - r1 ∧ k - r2 - r1 < v4) ∨ (r0 = v4 ∧ v4 ≤ k - r2 - r1)) : (0 ≤ k ∧ 0 ≤ r2 ∧ 0 ≤ r1 ∧ 0 ≤ r0 ∧ r0 + r1 + r2 = n2 - D2) ∧ (D2 < n0 → 0 < r0 ∧ 0 < r1 ∧ 0 < r2 ∧ n0 - D2 = r0) ∧ (n0 ≤ D2 → D2 < n1 → r0 = 0 ∧ 0 < r1 ∧ 0 < r2 ∧ n1 - D2 = r1) ∧ (n1 ≤ D2 → D2 < n2 → r0 = 0 ∧ r1 = 0 ∧ 0 < r2 ∧ n2 - D2 = r2) ∧ (D2 = n2 → r0 = 0 ∧ r1 = 0 ∧ r2 = 0) := by
  have hk0 : 0 ≤ k := by omega
  have hkD : D2 = if 0 < n2 - k then n2 - k else 0 := by
    split at hD1 <;> split at hD2 <;> split <;> omega
  clear hD1 hD2 hk
  split at hkD <;> refine ⟨by omega, fun _ => by omega, fun _ _ => by omega, fun _ _ => by omega, fun _ => by omega⟩
theorem own_ssub (a b c : Int64) : (a - c) - (a - b) = b - c := by
  apply Int64.toInt_inj.mp
  have h1 := c_lsub a c
  have h2 := c_lsub a b
  have h3 := c_lsub (a - c) (a - b)
  have h4 := c_lsub b c
  have r1 := rng64 ((a - c) - (a - b))
  have r2 := rng64 (b - c)
  omega
def own_fa (sz : Int32) (ts : List Int64) (m : Int64) : Int32 := if m = (9223372036854775807 : Int64) then sz else Int32.ofNat (own_pos ts (m + (1 : Int64)))
def own_cnt (o w f : Int32) (d : Int64) (N : Nat → Int64) : Int64 := if w < o then 0 else N ((f + w) &&& (3 : Int32)).toNatClampNeg - own_nbf o d (N ((f + (o - (1 : Int32))) &&& (3 : Int32)).toNatClampNeg)
theorem own_emx : (9223372036854775807 : Int64).toInt = 9223372036854775807 := by decide
theorem own_el1 : (1 : Int64).toInt = 1 := by decide
section
variable {t t0 t1 t2 u n0 n1 n2 d : Int64} {f sz : Int32} {N : Nat → Int64}
theorem own_ltm (h : t.toInt < 9000000000000000000) : t < (9223372036854775807 : Int64) := by rw [own_ltt, own_emx]; omega
theorem own_nem (h : t.toInt < 9000000000000000000) : ¬ t = (9223372036854775807 : Int64) := fun q => by rw [q, own_emx] at h; omega
theorem own_p1 (h : t.toInt < 9000000000000000000) : (t + (1 : Int64)).toInt = t.toInt + 1 := by
  have a := c_ladd t 1
  rw [own_el1] at a
  have r := rng64 t
  have r2 := rng64 (t + 1)
  omega
theorem own_lp1 (h : t.toInt < 9000000000000000000) : t < t + (1 : Int64) := by rw [own_ltt, own_p1 h]; omega
theorem own_np1 (h : t.toInt < 9000000000000000000) (hu : t < u) : ¬ u < t + (1 : Int64) := by rw [own_ltt] at *; rw [own_p1 h]; omega
theorem own_cv3 (hN : own_Q f N [n0, n1, n2]) (h01 : t0 < t1) (h12 : t1 < t2) (hb : t2.toInt < 9000000000000000000) : own_cnt (own_fa sz [t0, t1, t2] t0) (Int32.ofNat (own_pos [t0, t1, t2] (9223372036854775807 : Int64)) - (1 : Int32)) f d N = n2 - n0 := by
  have a := (own_ltt _ _).mp h01
  have b := (own_ltt _ _).mp h12
  have e1 : own_pos [t0, t1, t2] (9223372036854775807 : Int64) = 3 := by simp [own_pos, own_ltm (t := t0) (by omega), own_ltm (t := t1) (by omega), own_ltm (t := t2) (by omega)]
  have e2 : own_fa sz [t0, t1, t2] t0 = (1 : Int32) := by
    unfold own_fa; rw [if_neg (own_nem (by omega))]
    have : own_pos [t0, t1, t2] (t0 + 1) = 1 := by simp [own_pos, own_lp1 (t := t0) (by omega), own_np1 (by omega) h01]
    rw [this]; rfl
  rw [e1, e2]
  have e3 : Int32.ofNat 3 - (1 : Int32) = 2 := by decide
  rw [e3]; unfold own_cnt own_nbf
  rw [if_neg (by decide), if_neg (by decide), own_get (p := 2) (i := 2) hN (by decide) rfl, own_get (p := (1 - 1)) (i := 0) hN (by decide) rfl]
theorem own_cv2 (hN : own_Q f N [n1, n2]) (h12 : t1 < t2) (hb : t2.toInt < 9000000000000000000) : own_cnt (own_fa sz [t1, t2] t1) (Int32.ofNat (own_pos [t1, t2] (9223372036854775807 : Int64)) - (1 : Int32)) f d N = n2 - n1 := by
  have b := (own_ltt _ _).mp h12
  have e1 : own_pos [t1, t2] (9223372036854775807 : Int64) = 2 := by simp [own_pos, own_ltm (t := t1) (by omega), own_ltm (t := t2) (by omega)]
  have e2 : own_fa sz [t1, t2] t1 = (1 : Int32) := by
    unfold own_fa; rw [if_neg (own_nem (by omega))]
    have : own_pos [t1, t2] (t1 + 1) = 1 := by simp [own_pos, own_lp1 (t := t1) (by omega), own_np1 (by omega) h12]
    rw [this]; rfl
  rw [e1, e2]
  have e3 : Int32.ofNat 2 - (1 : Int32) = 1 := by decide
  rw [e3]; unfold own_cnt own_nbf
  rw [if_neg (by decide), if_neg (by decide), own_get (p := 1) (i := 1) hN (by decide) rfl, own_get (p := (1 - 1)) (i := 0) hN (by decide) rfl]
theorem own_cv1 (hb : t2.toInt < 9000000000000000000) : own_cnt (own_fa sz [t2] t2) (Int32.ofNat (own_pos [t2] (9223372036854775807 : Int64)) - (1 : Int32)) f d N = 0 := by
  have e1 : own_pos [t2] (9223372036854775807 : Int64) = 1 := by simp [own_pos, own_ltm hb]
  have e2 : own_fa sz [t2] t2 = (1 : Int32) := by
    unfold own_fa; rw [if_neg (own_nem (by omega))]
    have : own_pos [t2] (t2 + 1) = 1 := by simp [own_pos, own_lp1 hb]
    rw [this]; rfl
  rw [e1, e2]
  have e3 : Int32.ofNat 1 - (1 : Int32) = 0 := by decide
  rw [e3]; unfold own_cnt
  rw [if_pos (by decide)]
end
theorem own_M3 {v4 v5 v6 : Int64} (h4 : 1 ≤ v4.toInt ∧ v4.toInt ≤ 8) (h5 : 1 ≤ v5.toInt ∧ v5.toInt ≤ 8) (h6 : 1 ≤ v6.toInt ∧ v6.toInt ≤ 8) : ((0 : Int64) + v4).toInt = v4.toInt ∧ ((0 : Int64) + v4 + v5).toInt = v4.toInt + v5.toInt ∧ ((0 : Int64) + v4 + v5 + v6).toInt = v4.toInt + v5.toInt + v6.toInt := by
  have a := own_ladd v4 v5 (by omega) (by omega)
  have b := own_ladd (v4 + v5) v6 (by omega) (by omega)
  rw [own_z0]
  refine ⟨rfl, a, by omega⟩
theorem own_Ml {n0 n1 n2 : Int64} (h : 0 ≤ n0.toInt ∧ n0.toInt ≤ n1.toInt ∧ n1.toInt ≤ n2.toInt ∧ n2.toInt ≤ 1000) : own_M (0 : Int64) [n0, n1, n2] := by
  have e := own_el0
  refine ⟨?_, ?_⟩
  · simp only [List.pairwise_cons, List.mem_cons, List.not_mem_nil, or_false, forall_eq_or_imp, forall_eq, e]
    refine ⟨⟨by omega, by omega, by omega⟩, ⟨by omega, by omega⟩, by omega, by simp, List.Pairwise.nil⟩
  · intro x hx
    simp only [List.mem_cons, List.not_mem_nil, or_false] at hx
    rcases hx with rfl | rfl | rfl | rfl <;> omega
theorem own_Mv {v4 v5 v6 : Int64} (h4 : 1 ≤ v4.toInt ∧ v4.toInt ≤ 8) (h5 : 1 ≤ v5.toInt ∧ v5.toInt ≤ 8) (h6 : 1 ≤ v6.toInt ∧ v6.toInt ≤ 8) : own_M (0 : Int64) [((0 : Int64) + v4), ((0 : Int64) + v4 + v5), ((0 : Int64) + v4 + v5 + v6)] := by
  have h := own_M3 h4 h5 h6
  exact own_Ml (by omega)
theorem own_fin {t0 t1 t2 v4 v5 v6 v7 v8 k r2 r1 r0 d3 d4 : Int64} {ts3 ns3 ts4 ns4 : List Int64} (h4 : 1 ≤ v4.toInt ∧ v4.toInt ≤ 8) (h5 : 1 ≤ v5.toInt ∧ v5.toInt ≤ 8) (h6 : 1 ≤ v6.toInt ∧ v6.toInt ≤ 8) (h7 : 0 ≤ v7.toInt ∧ v7.toInt ≤ 31) (h8 : 0 ≤ v8.toInt ∧ v8.toInt ≤ 31)
    (hr1 : (d3, ts3, ns3) = own_kp (0 : Int64) [t0, t1, t2] [((0 : Int64) + v4), ((0 : Int64) + v4 + v5), ((0 : Int64) + v4 + v5 + v6)] ((own_tt (0 : Int64) [((0 : Int64) + v4), ((0 : Int64) + v4 + v5), ((0 : Int64) + v4 + v5 + v6)]) - v7))
    (hr2 : (d4, ts4, ns4) = own_kp d3 ts3 ns3 ((own_tt d3 ns3) - v8)) (hk : own_min v7 v8 = k) (x2 : own_min v6 k = r2) (x1 : own_min v5 (k - r2) = r1) (x0 : own_min v4 (k - r2 - r1) = r0) :
    (ts4 = [t0, t1, t2] ∧ ns4 = [((0 : Int64) + v4), ((0 : Int64) + v4 + v5), ((0 : Int64) + v4 + v5 + v6)] ∧ own_tt d4 ns4 = r0 + r1 + r2 ∧ 0 < r0 ∧ 0 < r1 ∧ 0 < r2 ∧ ((0 : Int64) + v4) - d4 = r0) ∨
    (ts4 = [t1, t2] ∧ ns4 = [((0 : Int64) + v4 + v5), ((0 : Int64) + v4 + v5 + v6)] ∧ own_tt d4 ns4 = r0 + r1 + r2 ∧ ¬ 0 < r0 ∧ 0 < r1 ∧ 0 < r2 ∧ ((0 : Int64) + v4 + v5) - d4 = r1) ∨
    (ts4 = [t2] ∧ ns4 = [((0 : Int64) + v4 + v5 + v6)] ∧ own_tt d4 ns4 = r0 + r1 + r2 ∧ ¬ 0 < r0 ∧ ¬ 0 < r1 ∧ 0 < r2 ∧ ((0 : Int64) + v4 + v5 + v6) - d4 = r2) ∨
    (ts4 = [] ∧ ns4 = [] ∧ own_tt d4 ns4 = r0 + r1 + r2 ∧ ¬ 0 < r0 ∧ ¬ 0 < r1 ∧ ¬ 0 < r2 ∧ True) := by
  obtain ⟨a0, a1, a2⟩ := own_M3 h4 h5 h6
  generalize (0 : Int64) + v4 + v5 + v6 = n2 at *
  generalize (0 : Int64) + v4 + v5 = n1 at *
  generalize (0 : Int64) + v4 = n0 at *
  have hn : 0 < n0.toInt ∧ n0.toInt < n1.toInt ∧ n1.toInt < n2.toInt ∧ n2.toInt ≤ 1000 := by omega
  have hI : own_R t0 t1 t2 n0 n1 n2 0 ((0 : Int64), [t0, t1, t2], [n0, n1, n2]) := ⟨by rw [own_el0]; omega, Or.inl ⟨by rw [own_el0]; omega, rfl⟩⟩
  have hI2 := (own_Rt hn hI).2
  have hI3 : (own_tt (0 : Int64) [n0, n1, n2]).toInt = n2.toInt := by
    have : (own_tt (0 : Int64) [n0, n1, n2]).toInt = n2.toInt - (0 : Int64).toInt := hI2
    rw [own_el0] at this; omega
  have s1 := own_lsub (own_tt (0 : Int64) [n0, n1, n2]) v7 (by omega) h7.1
  obtain ⟨D1, q1, R1⟩ := own_Rk (e := (own_tt (0 : Int64) [n0, n1, n2]) - v7) hn hI (by rw [own_el0]; omega)
  have R1' : own_R t0 t1 t2 n0 n1 n2 D1 (d3, ts3, ns3) := by rw [hr1]; exact R1
  obtain ⟨e1, e2⟩ := own_Rt hn R1'
  have e1' : d3 = D1 := e1
  have e2' : (own_tt d3 ns3).toInt = n2.toInt - D1.toInt := e2
  have d0 := R1'.1
  have hD1 : D1.toInt = if 0 < n2.toInt - v7.toInt then n2.toInt - v7.toInt else 0 := by
    rw [q1, own_el0]; unfold own_mx; rw [s1, hI3]; split <;> omega
  have hD1b : D1.toInt ≤ n2.toInt := by split at hD1 <;> omega
  have s2 := own_lsub (own_tt d3 ns3) v8 (by omega) h8.1
  obtain ⟨D2, q2, R2⟩ := own_Rk (e := (own_tt d3 ns3) - v8) hn R1' (by omega)
  have R2' : own_R t0 t1 t2 n0 n1 n2 D2 (d4, ts4, ns4) := by rw [hr2]; exact R2
  have hD2 : D2.toInt = D1.toInt + if 0 < n2.toInt - D1.toInt - v8.toInt then n2.toInt - D1.toInt - v8.toInt else 0 := by
    rw [q2]; unfold own_mx; rw [s2, e2']
  have hk' := own_min_s _ _ hk
  have hx2 := own_min_s _ _ x2
  have hx1 := own_min_s _ _ x1
  have hx0 := own_min_s _ _ x0
  have b1 := own_lsub k r2 (by omega) (by omega)
  rw [b1] at hx1
  have b2 := own_lsub (k - r2) r1 (by omega) (by omega)
  rw [b2, b1] at hx0
  obtain ⟨⟨g0, g1, g2, g3, g4⟩, fA, fB, fC, fD⟩ := own_fx h4 h5 h6 h7.1 h8.1 a0 a1 a2 hD1 hD2 hk' hx2 hx1 hx0
  obtain ⟨w1, w2⟩ := own_Rt hn R2'
  have w1' : d4 = D2 := w1
  have w2' : (own_tt d4 ns4).toInt = n2.toInt - D2.toInt := w2
  have tot : own_tt d4 ns4 = r0 + r1 + r2 := by
    apply Int64.toInt_inj.mp
    have z1 := own_ladd r0 r1 (by omega) (by omega)
    have z2 := own_ladd (r0 + r1) r2 (by omega) (by omega)
    omega
  have pl : ∀ x : Int64, (0 : Int64) < x ↔ 0 < x.toInt := fun x => by rw [own_ltt, own_el0]
  have sb : ∀ n r : Int64, 0 ≤ n.toInt ∧ n.toInt ≤ 1000 → n.toInt - D2.toInt = r.toInt → n - d4 = r := fun n r hn' h => by
    apply Int64.toInt_inj.mp
    rw [w1', own_lsub n D2 (by omega) (by have := R2'.1; omega)]; exact h
  obtain ⟨y0, ⟨y1, y⟩ | ⟨y1, y2, y⟩ | ⟨y1, y2, y⟩ | ⟨y1, y⟩⟩ := R2' <;> simp only [Prod.mk.injEq] at y <;> obtain ⟨-, eT, eN⟩ := y
  · obtain ⟨c0, c1, c2, c3⟩ := fA y1
    exact Or.inl ⟨eT, eN, tot, (pl _).mpr c0, (pl _).mpr c1, (pl _).mpr c2, sb _ _ (by omega) c3⟩
  · obtain ⟨c0, c1, c2, c3⟩ := fB y1 y2
    exact Or.inr (Or.inl ⟨eT, eN, tot, mt (pl _).mp (by omega), (pl _).mpr c1, (pl _).mpr c2, sb _ _ (by omega) c3⟩)
  · obtain ⟨c0, c1, c2, c3⟩ := fC y1 y2
    exact Or.inr (Or.inr (Or.inl ⟨eT, eN, tot, mt (pl _).mp (by omega), mt (pl _).mp (by omega), (pl _).mpr c2, sb _ _ (by omega) c3⟩))
  · obtain ⟨c0, c1, c2⟩ := fD y1
    exact Or.inr (Or.inr (Or.inr ⟨eT, eN, tot, mt (pl _).mp (by omega), mt (pl _).mp (by omega), mt (pl _).mp (by omega), trivial⟩))
theorem own_m7 (p : Int32) {v : Int64} (h : (((p &&& (7 : Int32)) + (1 : Int32)).toInt64) = v) : 1 ≤ v.toInt ∧ v.toInt ≤ 8 := by
  have a := c_mask p 7 3 (by omega) (by decide)
  have b := c_iadd (p &&& 7) 1
  have r := rng32 ((p &&& 7) + 1)
  rw [own_e1] at b
  rw [← h, c_i2l]
  omega
theorem own_m5 (p : Int32) {v : Int64} (h : (p &&& (31 : Int32)).toInt64 = v) : 0 ≤ v.toInt ∧ v.toInt ≤ 31 := by
  have a := c_mask p 31 5 (by omega) (by decide)
  rw [← h, c_i2l]
  omega
theorem own_v1 (q : Int64) {v : Int64} (h : (q >>> ((1 : Int32) &&& 0x3f).toInt64) = v) : -4611686018427387904 ≤ v.toInt ∧ v.toInt ≤ 4611686018427387904 := by
  have a := c_lshr q 1 1 (by decide)
  have r := rng64 q
  rw [h] at a
  omega
theorem own_v2 {x v B : Int64} {p : Int32} (hx : -4611686018427387904 ≤ x.toInt ∧ x.toInt ≤ 5000000000000000000) (h : ((x + (p &&& (3 : Int32)).toInt64) + (1 : Int64)) = v) : x.toInt < v.toInt ∧ v.toInt ≤ x.toInt + 4 := by
  have a := c_mask p 3 2 (by omega) (by decide)
  have a2 := c_i2l (p &&& 3)
  generalize (p &&& (3 : Int32)).toInt64 = y at *
  have b := c_ladd x y
  have c := c_ladd (x + y) 1
  rw [own_el1] at c
  have r := rng64 (x + y)
  have r2 := rng64 (x + y + 1)
  rw [← h]
  omega
theorem own_tb {v1 v2 v3 q : Int64} {p1 p2 : Int32} (h1 : (q >>> ((1 : Int32) &&& 0x3f).toInt64) = v1) (h2 : ((v1 + (p1 &&& (3 : Int32)).toInt64) + (1 : Int64)) = v2) (h3 : ((v2 + (p2 &&& (3 : Int32)).toInt64) + (1 : Int64)) = v3) : v1 < v2 ∧ v2 < v3 ∧ v1 < v3 ∧ v3.toInt < 9000000000000000000 := by
  have a := own_v1 q h1
  have b := own_v2 (B := 0) (by omega) h2
  have c := own_v2 (B := 0) (by omega) h3
  rw [own_ltt, own_ltt, own_ltt]
  omega
section
variable {P Q R : Prop} [Decidable P] [Decidable Q] [Decidable R] {s : Int32} {ts : List Int64} {a b c : Int64}
theorem own_n3 (hs : s.toInt = (ts.length : Int)) (e : ts = [a, b, c]) (h0 : P) (h1 : Q) (h2 : R) : s = ((bi P + bi Q) + bi R) := by
  rw [bi_pos h0, bi_pos h1, bi_pos h2]; subst e; exact own_eqn (k := 3) hs (by omega)
theorem own_n2 (hs : s.toInt = (ts.length : Int)) (e : ts = [b, c]) (h0 : ¬ P) (h1 : Q) (h2 : R) : s = ((bi P + bi Q) + bi R) := by
  rw [bi_neg h0, bi_pos h1, bi_pos h2]; subst e; exact own_eqn (k := 2) hs (by omega)
theorem own_n1 (hs : s.toInt = (ts.length : Int)) (e : ts = [c]) (h0 : ¬ P) (h1 : ¬ Q) (h2 : R) : s = ((bi P + bi Q) + bi R) := by
  rw [bi_neg h0, bi_neg h1, bi_pos h2]; subst e; exact own_eqn (k := 1) hs (by omega)
theorem own_n0 (hs : s.toInt = (ts.length : Int)) (e : ts = []) (h0 : ¬ P) (h1 : ¬ Q) (h2 : ¬ R) : s = ((bi P + bi Q) + bi R) := by
  rw [bi_neg h0, bi_neg h1, bi_neg h2]; subst e; exact own_eqn (k := 0) hs (by omega)
theorem own_z3 (h0 : P) (h1 : Q) (h2 : R) : ¬ ((bi P + bi Q) + bi R) = (0 : Int32) := by rw [bi_pos h0, bi_pos h1, bi_pos h2]; decide
theorem own_z2 (h0 : ¬ P) (h1 : Q) (h2 : R) : ¬ ((bi P + bi Q) + bi R) = (0 : Int32) := by rw [bi_neg h0, bi_pos h1, bi_pos h2]; decide
theorem own_z1 (h0 : ¬ P) (h1 : ¬ Q) (h2 : R) : ¬ ((bi P + bi Q) + bi R) = (0 : Int32) := by rw [bi_neg h0, bi_neg h1, bi_pos h2]; decide
theorem own_zz (h0 : ¬ P) (h1 : ¬ Q) (h2 : ¬ R) : ((bi P + bi Q) + bi R) = (0 : Int32) := by rw [bi_neg h0, bi_neg h1, bi_neg h2]; decide
end
section
variable {ts4 ns4 : List Int64} {t0 t1 t2 n0 n1 n2 d r H : Int64} {f sz : Int32} {N : Nat → Int64}
theorem own_fA3 (eT : ts4 = [t0, t1, t2]) (eN : ns4 = [n0, n1, n2]) (hN : own_Q f N ns4) (h01 : t0 < t1) (h12 : t1 < t2) (hb : t2.toInt < 9000000000000000000) (hH : own_tt d ns4 = H) (hr : n0 - d = r) : (H - (own_cnt (own_fa sz ts4 t0) ((Int32.ofNat (own_pos ts4 (9223372036854775807 : Int64))) - (1 : Int32)) f d N)) = r := by
  subst eT eN
  rw [own_cv3 hN h01 h12 hb, ← hH, ← hr]
  exact own_ssub n2 n0 d
theorem own_fA2 (eT : ts4 = [t1, t2]) (eN : ns4 = [n1, n2]) (hN : own_Q f N ns4) (h12 : t1 < t2) (hb : t2.toInt < 9000000000000000000) (hH : own_tt d ns4 = H) (hr : n1 - d = r) : (H - (own_cnt (own_fa sz ts4 t1) ((Int32.ofNat (own_pos ts4 (9223372036854775807 : Int64))) - (1 : Int32)) f d N)) = r := by
  subst eT eN
  rw [own_cv2 hN h12 hb, ← hH, ← hr]
  exact own_ssub n2 n1 d
theorem own_fA1 (eT : ts4 = [t2]) (eN : ns4 = [n2]) (hb : t2.toInt < 9000000000000000000) (hH : own_tt d ns4 = H) (hr : n2 - d = r) : (H - (own_cnt (own_fa sz ts4 t2) ((Int32.ofNat (own_pos ts4 (9223372036854775807 : Int64))) - (1 : Int32)) f d N)) = r := by
  subst eT eN
  rw [own_cv1 hb, ← hH, ← hr]
  show (n2 - d) - 0 = n2 - d
  simp
theorem own_S3 (e : ts4 = [t0, t1, t2]) (h01 : t0 < t1) (h12 : t1 < t2) (h02 : t0 < t2) : own_S ts4 := by
  subst e; unfold own_S; simp [h01, h12, h02]
theorem own_S2 (e : ts4 = [t1, t2]) (h12 : t1 < t2) : own_S ts4 := by
  subst e; unfold own_S; simp [h12]
theorem own_S1 (e : ts4 = [t2]) : own_S ts4 := by
  subst e; unfold own_S; simp
end

theorem ef_rmI (m : MethodId) (a0 : Addr) (q1 : Int64) : entryFrame m #[(.ref a0), (.long q1)] 3 = mkF m 0 #[.val (.ref a0), .val (.long q1), .second] [] := by first | (simp [entryFrame, mkF, argsToLocals, Value.category]; done) | rfl
def Q_rmI (Z : State) (a0 : Addr) (q1 : Int64) (h0 : Heap) (n0 : Nat) (v : Option Value) (h : Heap) : Prop := ∃ (gI : Addr) (gN : Addr), v = none ∧ h0.size ≤ gI ∧ h0.size ≤ gN ∧ gI ≠ gN ∧ Keep h0 h [a0] ∧ Exa Z h a0 "com/example/bucket_brigade/bucketbrigade/PermitLog" ∧ Fld Z h a0 "com/example/bucket_brigade/bucketbrigade/PermitLog" "instants" "[J" (.ref gI) ∧ Fld Z h a0 "com/example/bucket_brigade/bucketbrigade/PermitLog" "lastNumbers" "[J" (.ref gN) ∧ Fld Z h a0 "com/example/bucket_brigade/bucketbrigade/PermitLog" "first" "I" (.int (0 : Int32)) ∧ Fld Z h a0 "com/example/bucket_brigade/bucketbrigade/PermitLog" "size" "I" (.int (0 : Int32)) ∧ Fld Z h a0 "com/example/bucket_brigade/bucketbrigade/PermitLog" "dropped" "J" (.long (0 : Int64)) ∧ Ary Z h gI .long 4 (fun i => (.long ((fun _ => 0) i))) ∧ Ary Z h gN .long 4 (fun i => (.long ((fun _ => 0) i)))
set_option maxRecDepth 65536 in
set_option maxHeartbeats 40000000 in
theorem rmI (l : Launch) (Z : State) (aw : Array Value) (hw : ∀ d ∈ tables_1, d.before aw Z = true) (a0 : Addr) (q1 : Int64) (h0 : Heap) (n0 : Nat) (E_a0 : Exa Z h0 a0 "com/example/bucket_brigade/bucketbrigade/PermitLog") (F_a0_instants : Fld Z h0 a0 "com/example/bucket_brigade/bucketbrigade/PermitLog" "instants" "[J" .null) (F_a0_lastNumbers : Fld Z h0 a0 "com/example/bucket_brigade/bucketbrigade/PermitLog" "lastNumbers" "[J" .null) (F_a0_first : Fld Z h0 a0 "com/example/bucket_brigade/bucketbrigade/PermitLog" "first" "I" (.int (0 : Int32))) (F_a0_size : Fld Z h0 a0 "com/example/bucket_brigade/bucketbrigade/PermitLog" "size" "I" (.int (0 : Int32))) (F_a0_dropped : Fld Z h0 a0 "com/example/bucket_brigade/bucketbrigade/PermitLog" "dropped" "J" (.long (0 : Int64))) (F_a0_completeFrom : Fld Z h0 a0 "com/example/bucket_brigade/bucketbrigade/PermitLog" "completeFrom" "J" (.long (0 : Int64))) (g_a0 : n0 ≤ a0) :
    Con l Z (⟨"com/example/bucket_brigade/bucketbrigade/PermitLog", "<init>", "(J)V"⟩ : MethodName) prog_25_method_1_code 3 none ({ frames := 1, cells := 2, slots := 8, locals := 12 } : Room) #[(.ref a0), (.long q1)] h0 n0 (Q_rmI Z a0 q1 h0 n0) := by
  refine Con.body (plainFor_of_name pn_0) ?_
  intro pr_ en_ st_ me_ below meth co_ T B S
  refine Goes.cast (ef_rmI me_ a0 q1) ?_
  have K : Keep h0 h0 [a0] := Keep.refl _ _
  refine Goes.go (fun _ => XS.aloadN S.here B.x rfl (B.d d_prog_25_method_1_0) rfl rfl) ?_
  show Goes _ _ _ _ T (mkF me_ 1 #[.val (.ref a0), .val (.long q1), .second] [(.ref a0)])
  refine Goes.initO (W := 0) S B (w6 hw) (w7 hw) (w8 hw) d_prog_25_method_1_1 rfl (by decide) (Nat.le_of_eq rfl) (by decide) ?_
  intro T S
  show Goes _ _ _ _ T (mkF me_ 4 #[.val (.ref a0), .val (.long q1), .second] [])
  refine Goes.go (fun _ => XS.aloadN S.here B.x rfl (B.d d_prog_25_method_1_4) rfl rfl) ?_
  show Goes _ _ _ _ T (mkF me_ 5 #[.val (.ref a0), .val (.long q1), .second] [(.ref a0)])
  refine Goes.go (fun _ => XS.iconst S.here B.x rfl (B.d d_prog_25_method_1_5)) ?_
  show Goes _ _ _ _ T (mkF me_ 6 #[.val (.ref a0), .val (.long q1), .second] [(.int (4 : Int32)), (.ref a0)])
  refine Goes.newP (aty := .long) (cap := 4) S B (w9 hw) d_prog_25_method_1_6 (by decide) (by decide) (by decide) (by decide) (by decide) ?_
  intro T h b1 S X zb g_b1 A_b1
  have ne_a0__b1 : a0 ≠ b1 := Nat.ne_of_lt (Nat.lt_of_lt_of_le E_a0.lt (Nat.le_of_eq zb.symm))
  have z_b1 : h0.size ≤ b1 := Nat.le_trans K.1 (Nat.le_of_eq zb.symm)
  replace K := K.ext X
  replace E_a0 := E_a0.ext X
  replace F_a0_instants := F_a0_instants.ext X
  replace F_a0_lastNumbers := F_a0_lastNumbers.ext X
  replace F_a0_first := F_a0_first.ext X
  replace F_a0_size := F_a0_size.ext X
  replace F_a0_dropped := F_a0_dropped.ext X
  replace F_a0_completeFrom := F_a0_completeFrom.ext X
  replace A_b1 : Ary Z h b1 .long 4 (fun i => (.long ((fun _ => 0) i))) := A_b1
  show Goes _ _ _ _ T (mkF me_ 8 #[.val (.ref a0), .val (.long q1), .second] [(.ref b1), (.ref a0)])
  refine Goes.putF (v' := (.ref b1)) S B (w10 hw) F_a0_instants E_a0 (Or.inl (w11 hw)) (w1 hw) (ty := (.array .long)) (by decide) rfl rfl g_a0 d_prog_25_method_1_8 ?_
  intro T h S W
  replace K := K.wr W (Or.inl (by simp))
  replace E_a0 := E_a0.wr W
  replace F_a0_instants := F_a0_instants.same W
  replace F_a0_lastNumbers := F_a0_lastNumbers.other W (Or.inr (slot_ne (Or.inl (w13 hw)) (Or.inl (w11 hw)) (by decide) (t := (.array .long)) (t' := (.array .long)) (by decide) (by decide)))
  replace F_a0_first := F_a0_first.other W (Or.inr (slot_ne (Or.inl (w42 hw)) (Or.inl (w11 hw)) (by decide) (t := .int) (t' := (.array .long)) (by decide) (by decide)))
  replace F_a0_size := F_a0_size.other W (Or.inr (slot_ne (Or.inl (w26 hw)) (Or.inl (w11 hw)) (by decide) (t := .int) (t' := (.array .long)) (by decide) (by decide)))
  replace F_a0_dropped := F_a0_dropped.other W (Or.inr (slot_ne (Or.inl (w32 hw)) (Or.inl (w11 hw)) (by decide) (t := .long) (t' := (.array .long)) (by decide) (by decide)))
  replace F_a0_completeFrom := F_a0_completeFrom.other W (Or.inr (slot_ne (Or.inr (w15 hw)) (Or.inl (w11 hw)) (by decide) (t := .long) (t' := (.array .long)) (by decide) (by decide)))
  replace A_b1 := A_b1.other W ne_a0__b1.symm
  show Goes _ _ _ _ T (mkF me_ 11 #[.val (.ref a0), .val (.long q1), .second] [])
  refine Goes.go (fun _ => XS.aloadN S.here B.x rfl (B.d d_prog_25_method_1_11) rfl rfl) ?_
  show Goes _ _ _ _ T (mkF me_ 12 #[.val (.ref a0), .val (.long q1), .second] [(.ref a0)])
  refine Goes.go (fun _ => XS.iconst S.here B.x rfl (B.d d_prog_25_method_1_12)) ?_
  show Goes _ _ _ _ T (mkF me_ 13 #[.val (.ref a0), .val (.long q1), .second] [(.int (4 : Int32)), (.ref a0)])
  refine Goes.newP (aty := .long) (cap := 4) S B (w9 hw) d_prog_25_method_1_13 (by decide) (by decide) (by decide) (by decide) (by decide) ?_
  intro T h b2 S X zb g_b2 A_b2
  have ne_a0__b2 : a0 ≠ b2 := Nat.ne_of_lt (Nat.lt_of_lt_of_le E_a0.lt (Nat.le_of_eq zb.symm))
  have ne_b1__b2 : b1 ≠ b2 := Nat.ne_of_lt (Nat.lt_of_lt_of_le A_b1.lt (Nat.le_of_eq zb.symm))
  have z_b2 : h0.size ≤ b2 := Nat.le_trans K.1 (Nat.le_of_eq zb.symm)
  replace K := K.ext X
  replace E_a0 := E_a0.ext X
  replace F_a0_instants := F_a0_instants.ext X
  replace F_a0_lastNumbers := F_a0_lastNumbers.ext X
  replace F_a0_first := F_a0_first.ext X
  replace F_a0_size := F_a0_size.ext X
  replace F_a0_dropped := F_a0_dropped.ext X
  replace F_a0_completeFrom := F_a0_completeFrom.ext X
  replace A_b1 := A_b1.ext X
  replace A_b2 : Ary Z h b2 .long 4 (fun i => (.long ((fun _ => 0) i))) := A_b2
  show Goes _ _ _ _ T (mkF me_ 15 #[.val (.ref a0), .val (.long q1), .second] [(.ref b2), (.ref a0)])
  refine Goes.putF (v' := (.ref b2)) S B (w12 hw) F_a0_lastNumbers E_a0 (Or.inl (w13 hw)) (w1 hw) (ty := (.array .long)) (by decide) rfl rfl g_a0 d_prog_25_method_1_15 ?_
  intro T h S W
  replace K := K.wr W (Or.inl (by simp))
  replace E_a0 := E_a0.wr W
  replace F_a0_instants := F_a0_instants.other W (Or.inr (slot_ne (Or.inl (w11 hw)) (Or.inl (w13 hw)) (by decide) (t := (.array .long)) (t' := (.array .long)) (by decide) (by decide)))
  replace F_a0_lastNumbers := F_a0_lastNumbers.same W
  replace F_a0_first := F_a0_first.other W (Or.inr (slot_ne (Or.inl (w42 hw)) (Or.inl (w13 hw)) (by decide) (t := .int) (t' := (.array .long)) (by decide) (by decide)))
  replace F_a0_size := F_a0_size.other W (Or.inr (slot_ne (Or.inl (w26 hw)) (Or.inl (w13 hw)) (by decide) (t := .int) (t' := (.array .long)) (by decide) (by decide)))
  replace F_a0_dropped := F_a0_dropped.other W (Or.inr (slot_ne (Or.inl (w32 hw)) (Or.inl (w13 hw)) (by decide) (t := .long) (t' := (.array .long)) (by decide) (by decide)))
  replace F_a0_completeFrom := F_a0_completeFrom.other W (Or.inr (slot_ne (Or.inr (w15 hw)) (Or.inl (w13 hw)) (by decide) (t := .long) (t' := (.array .long)) (by decide) (by decide)))
  replace A_b1 := A_b1.other W ne_a0__b1.symm
  replace A_b2 := A_b2.other W ne_a0__b2.symm
  show Goes _ _ _ _ T (mkF me_ 18 #[.val (.ref a0), .val (.long q1), .second] [])
  refine Goes.go (fun _ => XS.aloadN S.here B.x rfl (B.d d_prog_25_method_1_18) rfl rfl) ?_
  show Goes _ _ _ _ T (mkF me_ 19 #[.val (.ref a0), .val (.long q1), .second] [(.ref a0)])
  refine Goes.go (fun _ => XS.lloadN S.here B.x rfl (B.d d_prog_25_method_1_19) rfl) ?_
  show Goes _ _ _ _ T (mkF me_ 20 #[.val (.ref a0), .val (.long q1), .second] [(.long q1), (.ref a0)])
  refine Goes.putF (v' := (.long q1)) S B (w14 hw) F_a0_completeFrom E_a0 (Or.inr ⟨(w15 hw), rfl, rfl⟩) (w1 hw) (ty := .long) (by decide) rfl rfl g_a0 d_prog_25_method_1_20 ?_
  intro T h S W
  replace K := K.wr W (Or.inl (by simp))
  replace E_a0 := E_a0.wr W
  replace F_a0_instants := F_a0_instants.other W (Or.inr (slot_ne (Or.inl (w11 hw)) (Or.inr (w15 hw)) (by decide) (t := (.array .long)) (t' := .long) (by decide) (by decide)))
  replace F_a0_lastNumbers := F_a0_lastNumbers.other W (Or.inr (slot_ne (Or.inl (w13 hw)) (Or.inr (w15 hw)) (by decide) (t := (.array .long)) (t' := .long) (by decide) (by decide)))
  replace F_a0_first := F_a0_first.other W (Or.inr (slot_ne (Or.inl (w42 hw)) (Or.inr (w15 hw)) (by decide) (t := .int) (t' := .long) (by decide) (by decide)))
  replace F_a0_size := F_a0_size.other W (Or.inr (slot_ne (Or.inl (w26 hw)) (Or.inr (w15 hw)) (by decide) (t := .int) (t' := .long) (by decide) (by decide)))
  replace F_a0_dropped := F_a0_dropped.other W (Or.inr (slot_ne (Or.inl (w32 hw)) (Or.inr (w15 hw)) (by decide) (t := .long) (t' := .long) (by decide) (by decide)))
  replace F_a0_completeFrom := F_a0_completeFrom.same W
  replace A_b1 := A_b1.other W ne_a0__b1.symm
  replace A_b2 := A_b2.other W ne_a0__b2.symm
  show Goes _ _ _ _ T (mkF me_ 23 #[.val (.ref a0), .val (.long q1), .second] [])
  refine Goes.retV S B d_prog_25_method_1_23 (by decide) (by decide) ?_
  exact ⟨b1, b2, rfl, z_b1, z_b2, ne_b1__b2, K, E_a0, F_a0_instants, F_a0_lastNumbers, F_a0_first, F_a0_size, F_a0_dropped, A_b1, A_b2⟩
theorem ef_rm_slot (m : MethodId) (a0 : Addr) (p1 : Int32) : entryFrame m #[(.ref a0), (.int p1)] 2 = mkF m 0 #[.val (.ref a0), .val (.int p1)] [] := by first | (simp [entryFrame, mkF, argsToLocals, Value.category]; done) | rfl
def Q_rm_slot (Z : State) (a0 : Addr) (p1 : Int32) (gI : Addr) (fn : Nat → Value) (f : Int32) (h0 : Heap) (n0 : Nat) (v : Option Value) (h : Heap) : Prop := v = some (.int ((f + p1) &&& (3 : Int32))) ∧ h = h0
set_option maxRecDepth 65536 in
set_option maxHeartbeats 40000000 in
theorem rm_slot (l : Launch) (Z : State) (aw : Array Value) (hw : ∀ d ∈ tables_1, d.before aw Z = true) (a0 : Addr) (p1 : Int32) (gI : Addr) (fn : Nat → Value) (f : Int32) (h0 : Heap) (n0 : Nat) (F_a0_first : Fld Z h0 a0 "com/example/bucket_brigade/bucketbrigade/PermitLog" "first" "I" (.int f)) (F_a0_instants : Fld Z h0 a0 "com/example/bucket_brigade/bucketbrigade/PermitLog" "instants" "[J" (.ref gI)) (A_gI : Ary Z h0 gI .long 4 fn) :
    Con l Z (⟨"com/example/bucket_brigade/bucketbrigade/PermitLog", "slot", "(I)I"⟩ : MethodName) prog_25_method_20_code 2 (some .int) ({ frames := 0, cells := 0, slots := 0, locals := 0 } : Room) #[(.ref a0), (.int p1)] h0 n0 (Q_rm_slot Z a0 p1 gI fn f h0 n0) := by
  refine Con.body (plainFor_of_name pn_0) ?_
  intro pr_ en_ st_ me_ below meth co_ T B S
  refine Goes.cast (ef_rm_slot me_ a0 p1) ?_
  refine Goes.go (fun _ => XS.aloadN S.here B.x rfl (B.d d_prog_25_method_20_0) rfl rfl) ?_
  show Goes _ _ _ _ T (mkF me_ 1 #[.val (.ref a0), .val (.int p1)] [(.ref a0)])
  refine Goes.getF S B (w41 hw) F_a0_first d_prog_25_method_20_1 ?_
  intro T S
  show Goes _ _ _ _ T (mkF me_ 4 #[.val (.ref a0), .val (.int p1)] [(.int f)])
  refine Goes.go (fun _ => XS.iloadN S.here B.x rfl (B.d d_prog_25_method_20_4) rfl) ?_
  show Goes _ _ _ _ T (mkF me_ 5 #[.val (.ref a0), .val (.int p1)] [(.int p1), (.int f)])
  refine Goes.go (fun _ => XS.iadd S.here B.x rfl (B.d d_prog_25_method_20_5) rfl) ?_
  show Goes _ _ _ _ T (mkF me_ 6 #[.val (.ref a0), .val (.int p1)] [(.int (f + p1))])
  refine Goes.go (fun _ => XS.aloadN S.here B.x rfl (B.d d_prog_25_method_20_6) rfl rfl) ?_
  show Goes _ _ _ _ T (mkF me_ 7 #[.val (.ref a0), .val (.int p1)] [(.ref a0), (.int (f + p1))])
  refine Goes.getF S B (w10 hw) F_a0_instants d_prog_25_method_20_7 ?_
  intro T S
  show Goes _ _ _ _ T (mkF me_ 10 #[.val (.ref a0), .val (.int p1)] [(.ref gI), (.int (f + p1))])
  refine Goes.alen S B A_gI (z := (4 : Int32)) rfl d_prog_25_method_20_10 ?_
  show Goes _ _ _ _ T (mkF me_ 11 #[.val (.ref a0), .val (.int p1)] [(.int (4 : Int32)), (.int (f + p1))])
  refine Goes.go (fun _ => XS.iconst S.here B.x rfl (B.d d_prog_25_method_20_11)) ?_
  show Goes _ _ _ _ T (mkF me_ 12 #[.val (.ref a0), .val (.int p1)] [(.int (1 : Int32)), (.int (4 : Int32)), (.int (f + p1))])
  refine Goes.go (fun _ => XS.isub S.here B.x rfl (B.d d_prog_25_method_20_12) rfl) ?_
  show Goes _ _ _ _ T (mkF me_ 13 #[.val (.ref a0), .val (.int p1)] [(.int (3 : Int32)), (.int (f + p1))])
  refine Goes.go (fun _ => XS.iand S.here B.x rfl (B.d d_prog_25_method_20_13) rfl) ?_
  show Goes _ _ _ _ T (mkF me_ 14 #[.val (.ref a0), .val (.int p1)] [(.int ((f + p1) &&& (3 : Int32)))])
  refine Goes.retI S B d_prog_25_method_20_14 (by decide) (by decide) ?_
  exact ⟨(by first | rfl | (rw [bi_pos (by assumption)]; rfl) | (rw [bi_neg (by assumption)]; rfl) | (rw [nar_bi]; exact congrArg (fun z => some (Value.int z)) (bi_congr (by simp_all))) | (simp_all [bi, nar]; done)), rfl⟩
theorem ef_rm_instant (m : MethodId) (a0 : Addr) (p1 : Int32) : entryFrame m #[(.ref a0), (.int p1)] 2 = mkF m 0 #[.val (.ref a0), .val (.int p1)] [] := by first | (simp [entryFrame, mkF, argsToLocals, Value.category]; done) | rfl
def Q_rm_instant (Z : State) (a0 : Addr) (p1 : Int32) (gI : Addr) (I : Nat → Int64) (f : Int32) (h0 : Heap) (n0 : Nat) (v : Option Value) (h : Heap) : Prop := v = some (.long (I ((f + p1) &&& (3 : Int32)).toNatClampNeg)) ∧ h = h0
set_option maxRecDepth 65536 in
set_option maxHeartbeats 40000000 in
theorem rm_instant (l : Launch) (Z : State) (aw : Array Value) (hw : ∀ d ∈ tables_1, d.before aw Z = true) (a0 : Addr) (p1 : Int32) (gI : Addr) (I : Nat → Int64) (f : Int32) (h0 : Heap) (n0 : Nat) (E_a0 : Exa Z h0 a0 "com/example/bucket_brigade/bucketbrigade/PermitLog") (F_a0_first : Fld Z h0 a0 "com/example/bucket_brigade/bucketbrigade/PermitLog" "first" "I" (.int f)) (F_a0_instants : Fld Z h0 a0 "com/example/bucket_brigade/bucketbrigade/PermitLog" "instants" "[J" (.ref gI)) (A_gI : Ary Z h0 gI .long 4 (fun i => (.long (I i)))) :
    Con l Z (⟨"com/example/bucket_brigade/bucketbrigade/PermitLog", "instant", "(I)J"⟩ : MethodName) prog_25_method_18_code 2 (some .long) ({ frames := 1, cells := 0, slots := 0, locals := 14 } : Room) #[(.ref a0), (.int p1)] h0 n0 (Q_rm_instant Z a0 p1 gI I f h0 n0) := by
  refine Con.body (plainFor_of_name pn_0) ?_
  intro pr_ en_ st_ me_ below meth co_ T B S
  refine Goes.cast (ef_rm_instant me_ a0 p1) ?_
  refine Goes.go (fun _ => XS.aloadN S.here B.x rfl (B.d d_prog_25_method_18_0) rfl rfl) ?_
  show Goes _ _ _ _ T (mkF me_ 1 #[.val (.ref a0), .val (.int p1)] [(.ref a0)])
  refine Goes.getF S B (w10 hw) F_a0_instants d_prog_25_method_18_1 ?_
  intro T S
  show Goes _ _ _ _ T (mkF me_ 4 #[.val (.ref a0), .val (.int p1)] [(.ref gI)])
  refine Goes.go (fun _ => XS.aloadN S.here B.x rfl (B.d d_prog_25_method_18_4) rfl rfl) ?_
  show Goes _ _ _ _ T (mkF me_ 5 #[.val (.ref a0), .val (.int p1)] [(.ref a0), (.ref gI)])
  refine Goes.go (fun _ => XS.iloadN S.here B.x rfl (B.d d_prog_25_method_18_5) rfl) ?_
  show Goes _ _ _ _ T (mkF me_ 6 #[.val (.ref a0), .val (.int p1)] [(.int p1), (.ref a0), (.ref gI)])
  refine Goes.callP (argsL := [(.int p1)]) (rest := [(.ref gI)]) (W := 1) S B (rm_slot l Z aw hw a0 p1 gI (fun i => (.long (I i))) f _ n0 F_a0_first F_a0_instants A_gI) E_a0 (w37 hw) (w39 hw) (w1 hw) (w38 hw) (w2 hw) (w40 hw) (by decide) (by decide) (by decide) (by decide) (by decide) rfl (lenOf pd_0 rfl) rfl (Nat.le_of_eq rfl) d_prog_25_method_18_6 ?_
  intro v T h S hQ
  obtain ⟨rfl, hh⟩ := hQ
  replace hh := hh.symm
  subst hh
  show Goes _ _ _ _ T (mkF me_ 9 #[.val (.ref a0), .val (.int p1)] [(.int ((f + p1) &&& (3 : Int32))), (.ref gI)])
  refine Goes.laload S B A_gI (own_m3 _).1 (own_m3 _).2 d_prog_25_method_18_9 (v := (.long (I ((f + p1) &&& (3 : Int32)).toNatClampNeg))) rfl ?_
  show Goes _ _ _ _ T (mkF me_ 10 #[.val (.ref a0), .val (.int p1)] [(.long (I ((f + p1) &&& (3 : Int32)).toNatClampNeg))])
  refine Goes.retL S B d_prog_25_method_18_10 (by decide) (by decide) ?_
  exact ⟨(by first | rfl | (rw [bi_pos (by assumption)]; rfl) | (rw [bi_neg (by assumption)]; rfl) | (rw [nar_bi]; exact congrArg (fun z => some (Value.int z)) (bi_congr (by simp_all))) | (simp_all [bi, nar]; done)), rfl⟩
theorem ef_rm_last (m : MethodId) (a0 : Addr) (p1 : Int32) : entryFrame m #[(.ref a0), (.int p1)] 2 = mkF m 0 #[.val (.ref a0), .val (.int p1)] [] := by first | (simp [entryFrame, mkF, argsToLocals, Value.category]; done) | rfl
def Q_rm_last (Z : State) (a0 : Addr) (p1 : Int32) (gI : Addr) (gN : Addr) (fn : Nat → Value) (N : Nat → Int64) (f : Int32) (h0 : Heap) (n0 : Nat) (v : Option Value) (h : Heap) : Prop := v = some (.long (N ((f + p1) &&& (3 : Int32)).toNatClampNeg)) ∧ h = h0
set_option maxRecDepth 65536 in
set_option maxHeartbeats 40000000 in
theorem rm_last (l : Launch) (Z : State) (aw : Array Value) (hw : ∀ d ∈ tables_1, d.before aw Z = true) (a0 : Addr) (p1 : Int32) (gI : Addr) (gN : Addr) (fn : Nat → Value) (N : Nat → Int64) (f : Int32) (h0 : Heap) (n0 : Nat) (E_a0 : Exa Z h0 a0 "com/example/bucket_brigade/bucketbrigade/PermitLog") (F_a0_first : Fld Z h0 a0 "com/example/bucket_brigade/bucketbrigade/PermitLog" "first" "I" (.int f)) (F_a0_instants : Fld Z h0 a0 "com/example/bucket_brigade/bucketbrigade/PermitLog" "instants" "[J" (.ref gI)) (F_a0_lastNumbers : Fld Z h0 a0 "com/example/bucket_brigade/bucketbrigade/PermitLog" "lastNumbers" "[J" (.ref gN)) (A_gI : Ary Z h0 gI .long 4 fn) (A_gN : Ary Z h0 gN .long 4 (fun i => (.long (N i)))) :
    Con l Z (⟨"com/example/bucket_brigade/bucketbrigade/PermitLog", "lastNumber", "(I)J"⟩ : MethodName) prog_25_method_19_code 2 (some .long) ({ frames := 1, cells := 0, slots := 0, locals := 14 } : Room) #[(.ref a0), (.int p1)] h0 n0 (Q_rm_last Z a0 p1 gI gN fn N f h0 n0) := by
  refine Con.body (plainFor_of_name pn_0) ?_
  intro pr_ en_ st_ me_ below meth co_ T B S
  refine Goes.cast (ef_rm_last me_ a0 p1) ?_
  refine Goes.go (fun _ => XS.aloadN S.here B.x rfl (B.d d_prog_25_method_19_0) rfl rfl) ?_
  show Goes _ _ _ _ T (mkF me_ 1 #[.val (.ref a0), .val (.int p1)] [(.ref a0)])
  refine Goes.getF S B (w12 hw) F_a0_lastNumbers d_prog_25_method_19_1 ?_
  intro T S
  show Goes _ _ _ _ T (mkF me_ 4 #[.val (.ref a0), .val (.int p1)] [(.ref gN)])
  refine Goes.go (fun _ => XS.aloadN S.here B.x rfl (B.d d_prog_25_method_19_4) rfl rfl) ?_
  show Goes _ _ _ _ T (mkF me_ 5 #[.val (.ref a0), .val (.int p1)] [(.ref a0), (.ref gN)])
  refine Goes.go (fun _ => XS.iloadN S.here B.x rfl (B.d d_prog_25_method_19_5) rfl) ?_
  show Goes _ _ _ _ T (mkF me_ 6 #[.val (.ref a0), .val (.int p1)] [(.int p1), (.ref a0), (.ref gN)])
  refine Goes.callP (argsL := [(.int p1)]) (rest := [(.ref gN)]) (W := 1) S B (rm_slot l Z aw hw a0 p1 gI fn f _ n0 F_a0_first F_a0_instants A_gI) E_a0 (w37 hw) (w39 hw) (w1 hw) (w38 hw) (w2 hw) (w40 hw) (by decide) (by decide) (by decide) (by decide) (by decide) rfl (lenOf pd_0 rfl) rfl (Nat.le_of_eq rfl) d_prog_25_method_19_6 ?_
  intro v T h S hQ
  obtain ⟨rfl, hh⟩ := hQ
  replace hh := hh.symm
  subst hh
  show Goes _ _ _ _ T (mkF me_ 9 #[.val (.ref a0), .val (.int p1)] [(.int ((f + p1) &&& (3 : Int32))), (.ref gN)])
  refine Goes.laload S B A_gN (own_m3 _).1 (own_m3 _).2 d_prog_25_method_19_9 (v := (.long (N ((f + p1) &&& (3 : Int32)).toNatClampNeg))) rfl ?_
  show Goes _ _ _ _ T (mkF me_ 10 #[.val (.ref a0), .val (.int p1)] [(.long (N ((f + p1) &&& (3 : Int32)).toNatClampNeg))])
  refine Goes.retL S B d_prog_25_method_19_10 (by decide) (by decide) ?_
  exact ⟨(by first | rfl | (rw [bi_pos (by assumption)]; rfl) | (rw [bi_neg (by assumption)]; rfl) | (rw [nar_bi]; exact congrArg (fun z => some (Value.int z)) (bi_congr (by simp_all))) | (simp_all [bi, nar]; done)), rfl⟩
theorem ef_rm_permits (m : MethodId) (a0 : Addr) : entryFrame m #[(.ref a0)] 1 = mkF m 0 #[.val (.ref a0)] [] := by first | (simp [entryFrame, mkF, argsToLocals, Value.category]; done) | rfl
def Q_rm_permits (Z : State) (a0 : Addr) (gI : Addr) (gN : Addr) (fn : Nat → Value) (N : Nat → Int64) (f : Int32) (sz : Int32) (d : Int64) (h0 : Heap) (n0 : Nat) (v : Option Value) (h : Heap) : Prop := v = some (.long (own_perm sz d (N ((f + (sz - (1 : Int32))) &&& (3 : Int32)).toNatClampNeg))) ∧ h = h0
set_option maxRecDepth 65536 in
set_option maxHeartbeats 40000000 in
theorem rm_permits (l : Launch) (Z : State) (aw : Array Value) (hw : ∀ d ∈ tables_1, d.before aw Z = true) (a0 : Addr) (gI : Addr) (gN : Addr) (fn : Nat → Value) (N : Nat → Int64) (f : Int32) (sz : Int32) (d : Int64) (h0 : Heap) (n0 : Nat) (E_a0 : Exa Z h0 a0 "com/example/bucket_brigade/bucketbrigade/PermitLog") (F_a0_instants : Fld Z h0 a0 "com/example/bucket_brigade/bucketbrigade/PermitLog" "instants" "[J" (.ref gI)) (F_a0_lastNumbers : Fld Z h0 a0 "com/example/bucket_brigade/bucketbrigade/PermitLog" "lastNumbers" "[J" (.ref gN)) (F_a0_first : Fld Z h0 a0 "com/example/bucket_brigade/bucketbrigade/PermitLog" "first" "I" (.int f)) (F_a0_size : Fld Z h0 a0 "com/example/bucket_brigade/bucketbrigade/PermitLog" "size" "I" (.int sz)) (F_a0_dropped : Fld Z h0 a0 "com/example/bucket_brigade/bucketbrigade/PermitLog" "dropped" "J" (.long d)) (A_gI : Ary Z h0 gI .long 4 fn) (A_gN : Ary Z h0 gN .long 4 (fun i => (.long (N i)))) :
    Con l Z (⟨"com/example/bucket_brigade/bucketbrigade/PermitLog", "permits", "()J"⟩ : MethodName) prog_25_method_4_code 1 (some .long) ({ frames := 2, cells := 0, slots := 0, locals := 27 } : Room) #[(.ref a0)] h0 n0 (Q_rm_permits Z a0 gI gN fn N f sz d h0 n0) := by
  refine Con.body (plainFor_of_name pn_0) ?_
  intro pr_ en_ st_ me_ below meth co_ T B S
  refine Goes.cast (ef_rm_permits me_ a0) ?_
  refine Goes.go (fun _ => XS.aloadN S.here B.x rfl (B.d d_prog_25_method_4_0) rfl rfl) ?_
  show Goes _ _ _ _ T (mkF me_ 1 #[.val (.ref a0)] [(.ref a0)])
  refine Goes.getF S B (w25 hw) F_a0_size d_prog_25_method_4_1 ?_
  intro T S
  show Goes _ _ _ _ T (mkF me_ 4 #[.val (.ref a0)] [(.int sz)])
  by_cases hc4 : sz = (0 : Int32)
  · skip
    refine Goes.go (fun _ => XS.ifNo S.here B.x rfl (B.d d_prog_25_method_4_4) rfl ((if0 _ _).trans (teq hc4).2)) ?_
    show Goes _ _ _ _ T (mkF me_ 7 #[.val (.ref a0)] [])
    refine Goes.go (fun _ => XS.lconst S.here B.x rfl (B.d d_prog_25_method_4_7)) ?_
    show Goes _ _ _ _ T (mkF me_ 8 #[.val (.ref a0)] [(.long (0 : Int64))])
    refine Goes.go (fun _ => XS.goto S.here B.x rfl (pc0 := 8) (pc' := 26) rfl (B.d d_prog_25_method_4_8) (by decide) (by decide)) ?_
    show Goes _ _ _ _ T (mkF me_ 26 #[.val (.ref a0)] [(.long (0 : Int64))])
    refine Goes.retL S B d_prog_25_method_4_26 (by decide) (by decide) ?_
    exact ⟨(by simp [own_perm, *]), rfl⟩
  · skip
    refine Goes.go (fun _ => XS.ifYes S.here B.x rfl (pc0 := 4) (pc' := 11) rfl (B.d d_prog_25_method_4_4) rfl ((if0 _ _).trans (feq hc4).2) (by decide) (by decide)) ?_
    show Goes _ _ _ _ T (mkF me_ 11 #[.val (.ref a0)] [])
    refine Goes.go (fun _ => XS.aloadN S.here B.x rfl (B.d d_prog_25_method_4_11) rfl rfl) ?_
    show Goes _ _ _ _ T (mkF me_ 12 #[.val (.ref a0)] [(.ref a0)])
    refine Goes.go (fun _ => XS.aloadN S.here B.x rfl (B.d d_prog_25_method_4_12) rfl rfl) ?_
    show Goes _ _ _ _ T (mkF me_ 13 #[.val (.ref a0)] [(.ref a0), (.ref a0)])
    refine Goes.getF S B (w25 hw) F_a0_size d_prog_25_method_4_13 ?_
    intro T S
    show Goes _ _ _ _ T (mkF me_ 16 #[.val (.ref a0)] [(.int sz), (.ref a0)])
    refine Goes.go (fun _ => XS.iconst S.here B.x rfl (B.d d_prog_25_method_4_16)) ?_
    show Goes _ _ _ _ T (mkF me_ 17 #[.val (.ref a0)] [(.int (1 : Int32)), (.int sz), (.ref a0)])
    refine Goes.go (fun _ => XS.isub S.here B.x rfl (B.d d_prog_25_method_4_17) rfl) ?_
    show Goes _ _ _ _ T (mkF me_ 18 #[.val (.ref a0)] [(.int (sz - (1 : Int32))), (.ref a0)])
    refine Goes.callP (argsL := [(.int (sz - (1 : Int32)))]) (rest := []) (W := 0) S B (rm_last l Z aw hw a0 (sz - (1 : Int32)) gI gN fn N f _ n0 E_a0 F_a0_first F_a0_instants F_a0_lastNumbers A_gI A_gN) E_a0 (w47 hw) (w49 hw) (w1 hw) (w48 hw) (w2 hw) (w50 hw) (by decide) (by decide) (by decide) (by decide) (by decide) rfl (lenOf pd_1 rfl) rfl (Nat.le_of_eq rfl) d_prog_25_method_4_18 ?_
    intro v T h S hQ
    obtain ⟨rfl, hh⟩ := hQ
    replace hh := hh.symm
    subst hh
    show Goes _ _ _ _ T (mkF me_ 21 #[.val (.ref a0)] [(.long (N ((f + (sz - (1 : Int32))) &&& (3 : Int32)).toNatClampNeg))])
    refine Goes.go (fun _ => XS.aloadN S.here B.x rfl (B.d d_prog_25_method_4_21) rfl rfl) ?_
    show Goes _ _ _ _ T (mkF me_ 22 #[.val (.ref a0)] [(.ref a0), (.long (N ((f + (sz - (1 : Int32))) &&& (3 : Int32)).toNatClampNeg))])
    refine Goes.getF S B (w31 hw) F_a0_dropped d_prog_25_method_4_22 ?_
    intro T S
    show Goes _ _ _ _ T (mkF me_ 25 #[.val (.ref a0)] [(.long d), (.long (N ((f + (sz - (1 : Int32))) &&& (3 : Int32)).toNatClampNeg))])
    refine Goes.go (fun _ => XS.lsub S.here B.x rfl (B.d d_prog_25_method_4_25) rfl) ?_
    show Goes _ _ _ _ T (mkF me_ 26 #[.val (.ref a0)] [(.long ((N ((f + (sz - (1 : Int32))) &&& (3 : Int32)).toNatClampNeg) - d))])
    refine Goes.retL S B d_prog_25_method_4_26 (by decide) (by decide) ?_
    exact ⟨(by simp [own_perm, *]), rfl⟩
theorem ef_rm_nb (m : MethodId) (a0 : Addr) (p1 : Int32) : entryFrame m #[(.ref a0), (.int p1)] 2 = mkF m 0 #[.val (.ref a0), .val (.int p1)] [] := by first | (simp [entryFrame, mkF, argsToLocals, Value.category]; done) | rfl
def Q_rm_nb (Z : State) (a0 : Addr) (p1 : Int32) (gI : Addr) (gN : Addr) (fn : Nat → Value) (N : Nat → Int64) (f : Int32) (d : Int64) (h0 : Heap) (n0 : Nat) (v : Option Value) (h : Heap) : Prop := v = some (.long (own_nbf p1 d (N ((f + (p1 - (1 : Int32))) &&& (3 : Int32)).toNatClampNeg))) ∧ h = h0
set_option maxRecDepth 65536 in
set_option maxHeartbeats 40000000 in
theorem rm_nb (l : Launch) (Z : State) (aw : Array Value) (hw : ∀ d ∈ tables_1, d.before aw Z = true) (a0 : Addr) (p1 : Int32) (gI : Addr) (gN : Addr) (fn : Nat → Value) (N : Nat → Int64) (f : Int32) (d : Int64) (h0 : Heap) (n0 : Nat) (E_a0 : Exa Z h0 a0 "com/example/bucket_brigade/bucketbrigade/PermitLog") (F_a0_instants : Fld Z h0 a0 "com/example/bucket_brigade/bucketbrigade/PermitLog" "instants" "[J" (.ref gI)) (F_a0_lastNumbers : Fld Z h0 a0 "com/example/bucket_brigade/bucketbrigade/PermitLog" "lastNumbers" "[J" (.ref gN)) (F_a0_first : Fld Z h0 a0 "com/example/bucket_brigade/bucketbrigade/PermitLog" "first" "I" (.int f)) (F_a0_dropped : Fld Z h0 a0 "com/example/bucket_brigade/bucketbrigade/PermitLog" "dropped" "J" (.long d)) (A_gI : Ary Z h0 gI .long 4 fn) (A_gN : Ary Z h0 gN .long 4 (fun i => (.long (N i)))) :
    Con l Z (⟨"com/example/bucket_brigade/bucketbrigade/PermitLog", "numberBefore", "(I)J"⟩ : MethodName) prog_25_method_17_code 2 (some .long) ({ frames := 2, cells := 0, slots := 0, locals := 27 } : Room) #[(.ref a0), (.int p1)] h0 n0 (Q_rm_nb Z a0 p1 gI gN fn N f d h0 n0) := by
  refine Con.body (plainFor_of_name pn_0) ?_
  intro pr_ en_ st_ me_ below meth co_ T B S
  refine Goes.cast (ef_rm_nb me_ a0 p1) ?_
  refine Goes.go (fun _ => XS.iloadN S.here B.x rfl (B.d d_prog_25_method_17_0) rfl) ?_
  show Goes _ _ _ _ T (mkF me_ 1 #[.val (.ref a0), .val (.int p1)] [(.int p1)])
  by_cases hc1 : p1 = (0 : Int32)
  · skip
    refine Goes.go (fun _ => XS.ifNo S.here B.x rfl (B.d d_prog_25_method_17_1) rfl ((if0 _ _).trans (teq hc1).2)) ?_
    show Goes _ _ _ _ T (mkF me_ 4 #[.val (.ref a0), .val (.int p1)] [])
    refine Goes.go (fun _ => XS.aloadN S.here B.x rfl (B.d d_prog_25_method_17_4) rfl rfl) ?_
    show Goes _ _ _ _ T (mkF me_ 5 #[.val (.ref a0), .val (.int p1)] [(.ref a0)])
    refine Goes.getF S B (w31 hw) F_a0_dropped d_prog_25_method_17_5 ?_
    intro T S
    show Goes _ _ _ _ T (mkF me_ 8 #[.val (.ref a0), .val (.int p1)] [(.long d)])
    refine Goes.go (fun _ => XS.goto S.here B.x rfl (pc0 := 8) (pc' := 18) rfl (B.d d_prog_25_method_17_8) (by decide) (by decide)) ?_
    show Goes _ _ _ _ T (mkF me_ 18 #[.val (.ref a0), .val (.int p1)] [(.long d)])
    refine Goes.retL S B d_prog_25_method_17_18 (by decide) (by decide) ?_
    exact ⟨(by simp [own_nbf, *]), rfl⟩
  · skip
    refine Goes.go (fun _ => XS.ifYes S.here B.x rfl (pc0 := 1) (pc' := 11) rfl (B.d d_prog_25_method_17_1) rfl ((if0 _ _).trans (feq hc1).2) (by decide) (by decide)) ?_
    show Goes _ _ _ _ T (mkF me_ 11 #[.val (.ref a0), .val (.int p1)] [])
    refine Goes.go (fun _ => XS.aloadN S.here B.x rfl (B.d d_prog_25_method_17_11) rfl rfl) ?_
    show Goes _ _ _ _ T (mkF me_ 12 #[.val (.ref a0), .val (.int p1)] [(.ref a0)])
    refine Goes.go (fun _ => XS.iloadN S.here B.x rfl (B.d d_prog_25_method_17_12) rfl) ?_
    show Goes _ _ _ _ T (mkF me_ 13 #[.val (.ref a0), .val (.int p1)] [(.int p1), (.ref a0)])
    refine Goes.go (fun _ => XS.iconst S.here B.x rfl (B.d d_prog_25_method_17_13)) ?_
    show Goes _ _ _ _ T (mkF me_ 14 #[.val (.ref a0), .val (.int p1)] [(.int (1 : Int32)), (.int p1), (.ref a0)])
    refine Goes.go (fun _ => XS.isub S.here B.x rfl (B.d d_prog_25_method_17_14) rfl) ?_
    show Goes _ _ _ _ T (mkF me_ 15 #[.val (.ref a0), .val (.int p1)] [(.int (p1 - (1 : Int32))), (.ref a0)])
    refine Goes.callP (argsL := [(.int (p1 - (1 : Int32)))]) (rest := []) (W := 0) S B (rm_last l Z aw hw a0 (p1 - (1 : Int32)) gI gN fn N f _ n0 E_a0 F_a0_first F_a0_instants F_a0_lastNumbers A_gI A_gN) E_a0 (w47 hw) (w49 hw) (w1 hw) (w48 hw) (w2 hw) (w50 hw) (by decide) (by decide) (by decide) (by decide) (by decide) rfl (lenOf pd_1 rfl) rfl (Nat.le_of_eq rfl) d_prog_25_method_17_15 ?_
    intro v T h S hQ
    obtain ⟨rfl, hh⟩ := hQ
    replace hh := hh.symm
    subst hh
    show Goes _ _ _ _ T (mkF me_ 18 #[.val (.ref a0), .val (.int p1)] [(.long (N ((f + (p1 - (1 : Int32))) &&& (3 : Int32)).toNatClampNeg))])
    refine Goes.retL S B d_prog_25_method_17_18 (by decide) (by decide) ?_
    exact ⟨(by simp [own_nbf, *]), rfl⟩
theorem ef_rm_drop (m : MethodId) (a0 : Addr) : entryFrame m #[(.ref a0)] 1 = mkF m 0 #[.val (.ref a0)] [] := by first | (simp [entryFrame, mkF, argsToLocals, Value.category]; done) | rfl
def Q_rm_drop (Z : State) (a0 : Addr) (gI : Addr) (gN : Addr) (fn : Nat → Value) (N : Nat → Int64) (f : Int32) (sz : Int32) (d : Int64) (h0 : Heap) (n0 : Nat) (v : Option Value) (h : Heap) : Prop := v = none ∧ Keep h0 h [a0] ∧ Exa Z h a0 "com/example/bucket_brigade/bucketbrigade/PermitLog" ∧ Fld Z h a0 "com/example/bucket_brigade/bucketbrigade/PermitLog" "instants" "[J" (.ref gI) ∧ Fld Z h a0 "com/example/bucket_brigade/bucketbrigade/PermitLog" "lastNumbers" "[J" (.ref gN) ∧ Fld Z h a0 "com/example/bucket_brigade/bucketbrigade/PermitLog" "first" "I" (.int ((f + (1 : Int32)) &&& (3 : Int32))) ∧ Fld Z h a0 "com/example/bucket_brigade/bucketbrigade/PermitLog" "size" "I" (.int (sz - (1 : Int32))) ∧ Fld Z h a0 "com/example/bucket_brigade/bucketbrigade/PermitLog" "dropped" "J" (.long (N ((f + (0 : Int32)) &&& (3 : Int32)).toNatClampNeg))
set_option maxRecDepth 65536 in
set_option maxHeartbeats 40000000 in
theorem rm_drop (l : Launch) (Z : State) (aw : Array Value) (hw : ∀ d ∈ tables_1, d.before aw Z = true) (a0 : Addr) (gI : Addr) (gN : Addr) (fn : Nat → Value) (N : Nat → Int64) (f : Int32) (sz : Int32) (d : Int64) (h0 : Heap) (n0 : Nat) (E_a0 : Exa Z h0 a0 "com/example/bucket_brigade/bucketbrigade/PermitLog") (F_a0_instants : Fld Z h0 a0 "com/example/bucket_brigade/bucketbrigade/PermitLog" "instants" "[J" (.ref gI)) (F_a0_lastNumbers : Fld Z h0 a0 "com/example/bucket_brigade/bucketbrigade/PermitLog" "lastNumbers" "[J" (.ref gN)) (F_a0_first : Fld Z h0 a0 "com/example/bucket_brigade/bucketbrigade/PermitLog" "first" "I" (.int f)) (F_a0_size : Fld Z h0 a0 "com/example/bucket_brigade/bucketbrigade/PermitLog" "size" "I" (.int sz)) (F_a0_dropped : Fld Z h0 a0 "com/example/bucket_brigade/bucketbrigade/PermitLog" "dropped" "J" (.long d)) (A_gI : Ary Z h0 gI .long 4 fn) (A_gN : Ary Z h0 gN .long 4 (fun i => (.long (N i)))) (g_a0 : n0 ≤ a0) (ne_a0__gI : a0 ≠ gI) (ne_a0__gN : a0 ≠ gN) :
    Con l Z (⟨"com/example/bucket_brigade/bucketbrigade/PermitLog", "dropOldest", "()V"⟩ : MethodName) prog_25_method_12_code 1 none ({ frames := 2, cells := 0, slots := 0, locals := 28 } : Room) #[(.ref a0)] h0 n0 (Q_rm_drop Z a0 gI gN fn N f sz d h0 n0) := by
  refine Con.body (plainFor_of_name pn_0) ?_
  intro pr_ en_ st_ me_ below meth co_ T B S
  refine Goes.cast (ef_rm_drop me_ a0) ?_
  have K : Keep h0 h0 [a0] := Keep.refl _ _
  refine Goes.go (fun _ => XS.aloadN S.here B.x rfl (B.d d_prog_25_method_12_0) rfl rfl) ?_
  show Goes _ _ _ _ T (mkF me_ 1 #[.val (.ref a0)] [(.ref a0)])
  refine Goes.go (fun _ => XS.aloadN S.here B.x rfl (B.d d_prog_25_method_12_1) rfl rfl) ?_
  show Goes _ _ _ _ T (mkF me_ 2 #[.val (.ref a0)] [(.ref a0), (.ref a0)])
  refine Goes.go (fun _ => XS.iconst S.here B.x rfl (B.d d_prog_25_method_12_2)) ?_
  show Goes _ _ _ _ T (mkF me_ 3 #[.val (.ref a0)] [(.int (0 : Int32)), (.ref a0), (.ref a0)])
  refine Goes.callP (argsL := [(.int (0 : Int32))]) (rest := [(.ref a0)]) (W := 1) S B (rm_last l Z aw hw a0 (0 : Int32) gI gN fn N f _ n0 E_a0 F_a0_first F_a0_instants F_a0_lastNumbers A_gI A_gN) E_a0 (w47 hw) (w49 hw) (w1 hw) (w48 hw) (w2 hw) (w50 hw) (by decide) (by decide) (by decide) (by decide) (by decide) rfl (lenOf pd_1 rfl) rfl (Nat.le_of_eq rfl) d_prog_25_method_12_3 ?_
  intro v T h S hQ
  obtain ⟨rfl, hh⟩ := hQ
  replace hh := hh.symm
  subst hh
  show Goes _ _ _ _ T (mkF me_ 6 #[.val (.ref a0)] [(.long (N ((f + (0 : Int32)) &&& (3 : Int32)).toNatClampNeg)), (.ref a0)])
  refine Goes.putF (v' := (.long (N ((f + (0 : Int32)) &&& (3 : Int32)).toNatClampNeg))) S B (w31 hw) F_a0_dropped E_a0 (Or.inl (w32 hw)) (w1 hw) (ty := .long) (by decide) rfl rfl g_a0 d_prog_25_method_12_6 ?_
  intro T h S W
  replace K := K.wr W (Or.inl (by simp))
  replace E_a0 := E_a0.wr W
  replace F_a0_instants := F_a0_instants.other W (Or.inr (slot_ne (Or.inl (w11 hw)) (Or.inl (w32 hw)) (by decide) (t := (.array .long)) (t' := .long) (by decide) (by decide)))
  replace F_a0_lastNumbers := F_a0_lastNumbers.other W (Or.inr (slot_ne (Or.inl (w13 hw)) (Or.inl (w32 hw)) (by decide) (t := (.array .long)) (t' := .long) (by decide) (by decide)))
  replace F_a0_first := F_a0_first.other W (Or.inr (slot_ne (Or.inl (w42 hw)) (Or.inl (w32 hw)) (by decide) (t := .int) (t' := .long) (by decide) (by decide)))
  replace F_a0_size := F_a0_size.other W (Or.inr (slot_ne (Or.inl (w26 hw)) (Or.inl (w32 hw)) (by decide) (t := .int) (t' := .long) (by decide) (by decide)))
  replace F_a0_dropped := F_a0_dropped.same W
  replace A_gI := A_gI.other W ne_a0__gI.symm
  replace A_gN := A_gN.other W ne_a0__gN.symm
  show Goes _ _ _ _ T (mkF me_ 9 #[.val (.ref a0)] [])
  refine Goes.go (fun _ => XS.aloadN S.here B.x rfl (B.d d_prog_25_method_12_9) rfl rfl) ?_
  show Goes _ _ _ _ T (mkF me_ 10 #[.val (.ref a0)] [(.ref a0)])
  refine Goes.go (fun _ => XS.aloadN S.here B.x rfl (B.d d_prog_25_method_12_10) rfl rfl) ?_
  show Goes _ _ _ _ T (mkF me_ 11 #[.val (.ref a0)] [(.ref a0), (.ref a0)])
  refine Goes.go (fun _ => XS.iconst S.here B.x rfl (B.d d_prog_25_method_12_11)) ?_
  show Goes _ _ _ _ T (mkF me_ 12 #[.val (.ref a0)] [(.int (1 : Int32)), (.ref a0), (.ref a0)])
  refine Goes.callP (argsL := [(.int (1 : Int32))]) (rest := [(.ref a0)]) (W := 1) S B (rm_slot l Z aw hw a0 (1 : Int32) gI fn f _ n0 F_a0_first F_a0_instants A_gI) E_a0 (w37 hw) (w39 hw) (w1 hw) (w38 hw) (w2 hw) (w40 hw) (by decide) (by decide) (by decide) (by decide) (by decide) rfl (lenOf pd_0 rfl) rfl (Nat.le_of_eq rfl) d_prog_25_method_12_12 ?_
  intro v T h S hQ
  obtain ⟨rfl, hh⟩ := hQ
  replace hh := hh.symm
  subst hh
  show Goes _ _ _ _ T (mkF me_ 15 #[.val (.ref a0)] [(.int ((f + (1 : Int32)) &&& (3 : Int32))), (.ref a0)])
  refine Goes.putF (v' := (.int ((f + (1 : Int32)) &&& (3 : Int32)))) S B (w41 hw) F_a0_first E_a0 (Or.inl (w42 hw)) (w1 hw) (ty := .int) (by decide) rfl rfl g_a0 d_prog_25_method_12_15 ?_
  intro T h S W
  replace K := K.wr W (Or.inl (by simp))
  replace E_a0 := E_a0.wr W
  replace F_a0_instants := F_a0_instants.other W (Or.inr (slot_ne (Or.inl (w11 hw)) (Or.inl (w42 hw)) (by decide) (t := (.array .long)) (t' := .int) (by decide) (by decide)))
  replace F_a0_lastNumbers := F_a0_lastNumbers.other W (Or.inr (slot_ne (Or.inl (w13 hw)) (Or.inl (w42 hw)) (by decide) (t := (.array .long)) (t' := .int) (by decide) (by decide)))
  replace F_a0_first := F_a0_first.same W
  replace F_a0_size := F_a0_size.other W (Or.inr (slot_ne (Or.inl (w26 hw)) (Or.inl (w42 hw)) (by decide) (t := .int) (t' := .int) (by decide) (by decide)))
  replace F_a0_dropped := F_a0_dropped.other W (Or.inr (slot_ne (Or.inl (w32 hw)) (Or.inl (w42 hw)) (by decide) (t := .long) (t' := .int) (by decide) (by decide)))
  replace A_gI := A_gI.other W ne_a0__gI.symm
  replace A_gN := A_gN.other W ne_a0__gN.symm
  show Goes _ _ _ _ T (mkF me_ 18 #[.val (.ref a0)] [])
  refine Goes.go (fun _ => XS.aloadN S.here B.x rfl (B.d d_prog_25_method_12_18) rfl rfl) ?_
  show Goes _ _ _ _ T (mkF me_ 19 #[.val (.ref a0)] [(.ref a0)])
  refine Goes.go (fun _ => XS.dup S.here B.x rfl (B.d d_prog_25_method_12_19) rfl rfl) ?_
  show Goes _ _ _ _ T (mkF me_ 20 #[.val (.ref a0)] [(.ref a0), (.ref a0)])
  refine Goes.getF S B (w25 hw) F_a0_size d_prog_25_method_12_20 ?_
  intro T S
  show Goes _ _ _ _ T (mkF me_ 23 #[.val (.ref a0)] [(.int sz), (.ref a0)])
  refine Goes.go (fun _ => XS.iconst S.here B.x rfl (B.d d_prog_25_method_12_23)) ?_
  show Goes _ _ _ _ T (mkF me_ 24 #[.val (.ref a0)] [(.int (1 : Int32)), (.int sz), (.ref a0)])
  refine Goes.go (fun _ => XS.isub S.here B.x rfl (B.d d_prog_25_method_12_24) rfl) ?_
  show Goes _ _ _ _ T (mkF me_ 25 #[.val (.ref a0)] [(.int (sz - (1 : Int32))), (.ref a0)])
  refine Goes.putF (v' := (.int (sz - (1 : Int32)))) S B (w25 hw) F_a0_size E_a0 (Or.inl (w26 hw)) (w1 hw) (ty := .int) (by decide) rfl rfl g_a0 d_prog_25_method_12_25 ?_
  intro T h S W
  replace K := K.wr W (Or.inl (by simp))
  replace E_a0 := E_a0.wr W
  replace F_a0_instants := F_a0_instants.other W (Or.inr (slot_ne (Or.inl (w11 hw)) (Or.inl (w26 hw)) (by decide) (t := (.array .long)) (t' := .int) (by decide) (by decide)))
  replace F_a0_lastNumbers := F_a0_lastNumbers.other W (Or.inr (slot_ne (Or.inl (w13 hw)) (Or.inl (w26 hw)) (by decide) (t := (.array .long)) (t' := .int) (by decide) (by decide)))
  replace F_a0_first := F_a0_first.other W (Or.inr (slot_ne (Or.inl (w42 hw)) (Or.inl (w26 hw)) (by decide) (t := .int) (t' := .int) (by decide) (by decide)))
  replace F_a0_size := F_a0_size.same W
  replace F_a0_dropped := F_a0_dropped.other W (Or.inr (slot_ne (Or.inl (w32 hw)) (Or.inl (w26 hw)) (by decide) (t := .long) (t' := .int) (by decide) (by decide)))
  replace A_gI := A_gI.other W ne_a0__gI.symm
  replace A_gN := A_gN.other W ne_a0__gN.symm
  show Goes _ _ _ _ T (mkF me_ 28 #[.val (.ref a0)] [])
  refine Goes.retV S B d_prog_25_method_12_28 (by decide) (by decide) ?_
  exact ⟨(by first | rfl | (rw [bi_pos (by assumption)]; rfl) | (rw [bi_neg (by assumption)]; rfl) | (rw [nar_bi]; exact congrArg (fun z => some (Value.int z)) (bi_congr (by simp_all))) | (simp_all [bi, nar]; done)), K, (by first | exact E_a0 | (simpa using E_a0)), (by first | exact F_a0_instants | (simpa using F_a0_instants)), (by first | exact F_a0_lastNumbers | (simpa using F_a0_lastNumbers)), (by first | exact F_a0_first | (simpa using F_a0_first)), (by first | exact F_a0_size | (simpa using F_a0_size)), (by first | exact F_a0_dropped | (simpa using F_a0_dropped))⟩
theorem ef_rm_fao (m : MethodId) (a0 : Addr) (q1 : Int64) : entryFrame m #[(.ref a0), (.long q1)] 6 = mkF m 0 #[.val (.ref a0), .val (.long q1), .second, .unset, .unset, .unset] [] := by first | (simp [entryFrame, mkF, argsToLocals, Value.category]; done) | rfl
def Q_rm_fao (Z : State) (a0 : Addr) (q1 : Int64) (gI : Addr) (I : Nat → Int64) (f : Int32) (sz : Int32) (ts : List Int64) (h0 : Heap) (n0 : Nat) (v : Option Value) (h : Heap) : Prop := v = some (.int (Int32.ofNat (own_pos ts q1))) ∧ h = h0
set_option maxRecDepth 65536 in
set_option maxHeartbeats 40000000 in
theorem rm_fao (l : Launch) (Z : State) (aw : Array Value) (hw : ∀ d ∈ tables_1, d.before aw Z = true) (a0 : Addr) (q1 : Int64) (gI : Addr) (I : Nat → Int64) (f : Int32) (sz : Int32) (ts : List Int64) (h0 : Heap) (n0 : Nat) (E_a0 : Exa Z h0 a0 "com/example/bucket_brigade/bucketbrigade/PermitLog") (F_a0_instants : Fld Z h0 a0 "com/example/bucket_brigade/bucketbrigade/PermitLog" "instants" "[J" (.ref gI)) (F_a0_first : Fld Z h0 a0 "com/example/bucket_brigade/bucketbrigade/PermitLog" "first" "I" (.int f)) (F_a0_size : Fld Z h0 a0 "com/example/bucket_brigade/bucketbrigade/PermitLog" "size" "I" (.int sz)) (A_gI : Ary Z h0 gI .long 4 (fun i => (.long (I i)))) (hQ : own_Q f I ts) (hsz : sz.toInt = (ts.length : Int)) (hS : own_S ts) :
    Con l Z (⟨"com/example/bucket_brigade/bucketbrigade/PermitLog", "firstAtOrAfter", "(J)I"⟩ : MethodName) prog_25_method_16_code 6 (some .int) ({ frames := 2, cells := 0, slots := 0, locals := 27 } : Room) #[(.ref a0), (.long q1)] h0 n0 (Q_rm_fao Z a0 q1 gI I f sz ts h0 n0) := by
  refine Con.body (plainFor_of_name pn_0) ?_
  intro pr_ en_ st_ me_ below meth co_ T B S
  refine Goes.cast (ef_rm_fao me_ a0 q1) ?_
  refine Goes.go (fun _ => XS.iconst S.here B.x rfl (B.d d_prog_25_method_16_0)) ?_
  show Goes _ _ _ _ T (mkF me_ 1 #[.val (.ref a0), .val (.long q1), .second, .unset, .unset, .unset] [(.int (0 : Int32))])
  refine Goes.go (fun _ => XS.istoreN S.here B.x rfl (B.d d_prog_25_method_16_1) rfl (l' := #[.val (.ref a0), .val (.long q1), .second, .val (.int (0 : Int32)), .unset, .unset]) rfl) ?_
  show Goes _ _ _ _ T (mkF me_ 2 #[.val (.ref a0), .val (.long q1), .second, .val (.int (0 : Int32)), .unset, .unset] [])
  refine Goes.go (fun _ => XS.aloadN S.here B.x rfl (B.d d_prog_25_method_16_2) rfl rfl) ?_
  show Goes _ _ _ _ T (mkF me_ 3 #[.val (.ref a0), .val (.long q1), .second, .val (.int (0 : Int32)), .unset, .unset] [(.ref a0)])
  refine Goes.getF S B (w25 hw) F_a0_size d_prog_25_method_16_3 ?_
  intro T S
  show Goes _ _ _ _ T (mkF me_ 6 #[.val (.ref a0), .val (.long q1), .second, .val (.int (0 : Int32)), .unset, .unset] [(.int sz)])
  refine Goes.go (fun _ => XS.istore S.here B.x rfl (B.d d_prog_25_method_16_6) rfl (l' := #[.val (.ref a0), .val (.long q1), .second, .val (.int (0 : Int32)), .val (.int sz), .unset]) rfl) ?_
  show Goes _ _ _ _ T (mkF me_ 8 #[.val (.ref a0), .val (.long q1), .second, .val (.int (0 : Int32)), .val (.int sz), .unset] [])
  have J1 : ∀ (T : State) (lo : Int32) (hi : Int32), Sd pr_ l en_ ({ frames := 2, cells := 0, slots := 0, locals := 27 } : Room) st_ me_ #[(.ref a0), (.long q1)] below meth co_ T h0 n0 0 0 → 0 ≤ lo.toInt ∧ lo.toInt ≤ ((own_pos ts q1) : Int) ∧ ((own_pos ts q1) : Int) ≤ hi.toInt ∧ hi.toInt ≤ (ts.length : Int) → Goes pr_.tables en_ below (Fine st_ n0 (Q_rm_fao Z a0 q1 gI I f sz ts h0 n0) ({ frames := 2, cells := 0, slots := 0, locals := 27 } : Room).cells ({ frames := 2, cells := 0, slots := 0, locals := 27 } : Room).slots) T (mkF me_ 79 #[.val (.ref a0), .val (.long q1), .second, .val (.int lo), .val (.int hi), .unset] []) := by
    intro T lo hi S hB
    have LP2 : ∀ (k : Nat) (T : State) (lo : Int32) (hi : Int32) (s5 : Slot), Sd pr_ l en_ ({ frames := 2, cells := 0, slots := 0, locals := 27 } : Room) st_ me_ #[(.ref a0), (.long q1)] below meth co_ T h0 n0 0 0 → One s5 → 0 ≤ lo.toInt ∧ lo.toInt ≤ ((own_pos ts q1) : Int) ∧ ((own_pos ts q1) : Int) ≤ hi.toInt ∧ hi.toInt ≤ (ts.length : Int) → hi.toInt - lo.toInt ≤ (k : Int) → Goes pr_.tables en_ below (Fine st_ n0 (Q_rm_fao Z a0 q1 gI I f sz ts h0 n0) ({ frames := 2, cells := 0, slots := 0, locals := 27 } : Room).cells ({ frames := 2, cells := 0, slots := 0, locals := 27 } : Room).slots) T (mkF me_ 79 #[.val (.ref a0), .val (.long q1), .second, .val (.int lo), .val (.int hi), s5] []) := by
      intro k
      induction k with
      | zero =>
        intro T lo hi s5 S hs5 hB hk
        refine Goes.go (fun _ => XS.iloadN S.here B.x rfl (B.d d_prog_25_method_16_79) rfl) ?_
        show Goes _ _ _ _ T (mkF me_ 80 #[.val (.ref a0), .val (.long q1), .second, .val (.int lo), .val (.int hi), s5] [(.int lo)])
        refine Goes.go (fun _ => XS.iload S.here B.x rfl (B.d d_prog_25_method_16_80) rfl) ?_
        show Goes _ _ _ _ T (mkF me_ 82 #[.val (.ref a0), .val (.long q1), .second, .val (.int lo), .val (.int hi), s5] [(.int hi), (.int lo)])
        refine Goes.go (fun _ => XS.icmpYes S.here B.x rfl (pc0 := 82) (pc' := 119) rfl (B.d d_prog_25_method_16_82) rfl (flt (show ¬ (lo < hi) from own_z hB hk)).2.1 (by decide) (by decide)) ?_
        show Goes _ _ _ _ T (mkF me_ 119 #[.val (.ref a0), .val (.long q1), .second, .val (.int lo), .val (.int hi), s5] [])
        refine Goes.go (fun _ => XS.iloadN S.here B.x rfl (B.d d_prog_25_method_16_119) rfl) ?_
        show Goes _ _ _ _ T (mkF me_ 120 #[.val (.ref a0), .val (.long q1), .second, .val (.int lo), .val (.int hi), s5] [(.int lo)])
        refine Goes.retI S B d_prog_25_method_16_120 (by decide) (by decide) ?_
        exact ⟨(by first | exact congrArg (fun z => some (Value.int z)) (own_done hQ hB (by first | exact own_z hB hk | assumption))), rfl⟩
      | succ k ih =>
        intro T lo hi s5 S hs5 hB hk
        refine Goes.go (fun _ => XS.iloadN S.here B.x rfl (B.d d_prog_25_method_16_79) rfl) ?_
        show Goes _ _ _ _ T (mkF me_ 80 #[.val (.ref a0), .val (.long q1), .second, .val (.int lo), .val (.int hi), s5] [(.int lo)])
        refine Goes.go (fun _ => XS.iload S.here B.x rfl (B.d d_prog_25_method_16_80) rfl) ?_
        show Goes _ _ _ _ T (mkF me_ 82 #[.val (.ref a0), .val (.long q1), .second, .val (.int lo), .val (.int hi), s5] [(.int hi), (.int lo)])
        by_cases hc82 : lo < hi
        · skip
          refine Goes.go (fun _ => XS.icmpNo S.here B.x rfl (B.d d_prog_25_method_16_82) rfl (tlt hc82).2.1) ?_
          show Goes _ _ _ _ T (mkF me_ 85 #[.val (.ref a0), .val (.long q1), .second, .val (.int lo), .val (.int hi), s5] [])
          refine Goes.go (fun _ => XS.iloadN S.here B.x rfl (B.d d_prog_25_method_16_85) rfl) ?_
          show Goes _ _ _ _ T (mkF me_ 86 #[.val (.ref a0), .val (.long q1), .second, .val (.int lo), .val (.int hi), s5] [(.int lo)])
          refine Goes.go (fun _ => XS.iload S.here B.x rfl (B.d d_prog_25_method_16_86) rfl) ?_
          show Goes _ _ _ _ T (mkF me_ 88 #[.val (.ref a0), .val (.long q1), .second, .val (.int lo), .val (.int hi), s5] [(.int hi), (.int lo)])
          refine Goes.go (fun _ => XS.iadd S.here B.x rfl (B.d d_prog_25_method_16_88) rfl) ?_
          show Goes _ _ _ _ T (mkF me_ 89 #[.val (.ref a0), .val (.long q1), .second, .val (.int lo), .val (.int hi), s5] [(.int (lo + hi))])
          refine Goes.go (fun _ => XS.iconst S.here B.x rfl (B.d d_prog_25_method_16_89)) ?_
          show Goes _ _ _ _ T (mkF me_ 90 #[.val (.ref a0), .val (.long q1), .second, .val (.int lo), .val (.int hi), s5] [(.int (1 : Int32)), (.int (lo + hi))])
          refine Goes.go (fun _ => XS.iushr S.here B.x rfl (B.d d_prog_25_method_16_90) rfl) ?_
          show Goes _ _ _ _ T (mkF me_ 91 #[.val (.ref a0), .val (.long q1), .second, .val (.int lo), .val (.int hi), s5] [(.int (((lo + hi).toUInt32 >>> ((1 : Int32) &&& 31).toUInt32).toInt32))])
          refine Goes.go (fun _ => XS.istore S.here B.x rfl (B.d d_prog_25_method_16_91) rfl (l' := #[.val (.ref a0), .val (.long q1), .second, .val (.int lo), .val (.int hi), .val (.int (((lo + hi).toUInt32 >>> ((1 : Int32) &&& 31).toUInt32).toInt32))]) (XS.store1 rfl hs5 rfl)) ?_
          show Goes _ _ _ _ T (mkF me_ 93 #[.val (.ref a0), .val (.long q1), .second, .val (.int lo), .val (.int hi), .val (.int (((lo + hi).toUInt32 >>> ((1 : Int32) &&& 31).toUInt32).toInt32))] [])
          refine Goes.go (fun _ => XS.aloadN S.here B.x rfl (B.d d_prog_25_method_16_93) rfl rfl) ?_
          show Goes _ _ _ _ T (mkF me_ 94 #[.val (.ref a0), .val (.long q1), .second, .val (.int lo), .val (.int hi), .val (.int (((lo + hi).toUInt32 >>> ((1 : Int32) &&& 31).toUInt32).toInt32))] [(.ref a0)])
          refine Goes.go (fun _ => XS.iload S.here B.x rfl (B.d d_prog_25_method_16_94) rfl) ?_
          show Goes _ _ _ _ T (mkF me_ 96 #[.val (.ref a0), .val (.long q1), .second, .val (.int lo), .val (.int hi), .val (.int (((lo + hi).toUInt32 >>> ((1 : Int32) &&& 31).toUInt32).toInt32))] [(.int (((lo + hi).toUInt32 >>> ((1 : Int32) &&& 31).toUInt32).toInt32)), (.ref a0)])
          refine Goes.callP (argsL := [(.int (((lo + hi).toUInt32 >>> ((1 : Int32) &&& 31).toUInt32).toInt32))]) (rest := []) (W := 0) S B (rm_instant l Z aw hw a0 (((lo + hi).toUInt32 >>> ((1 : Int32) &&& 31).toUInt32).toInt32) gI I f _ n0 E_a0 F_a0_first F_a0_instants A_gI) E_a0 (w43 hw) (w45 hw) (w1 hw) (w44 hw) (w2 hw) (w46 hw) (by decide) (by decide) (by decide) (by decide) (by decide) rfl (lenOf pd_1 rfl) rfl (Nat.le_of_eq rfl) d_prog_25_method_16_96 ?_
          intro v T h S hQ
          obtain ⟨rfl, hh⟩ := hQ
          replace hh := hh.symm
          subst hh
          show Goes _ _ _ _ T (mkF me_ 99 #[.val (.ref a0), .val (.long q1), .second, .val (.int lo), .val (.int hi), .val (.int (((lo + hi).toUInt32 >>> ((1 : Int32) &&& 31).toUInt32).toInt32))] [(.long (I ((f + (((lo + hi).toUInt32 >>> ((1 : Int32) &&& 31).toUInt32).toInt32)) &&& (3 : Int32)).toNatClampNeg))])
          refine Goes.go (fun _ => XS.lloadN S.here B.x rfl (B.d d_prog_25_method_16_99) rfl) ?_
          show Goes _ _ _ _ T (mkF me_ 100 #[.val (.ref a0), .val (.long q1), .second, .val (.int lo), .val (.int hi), .val (.int (((lo + hi).toUInt32 >>> ((1 : Int32) &&& 31).toUInt32).toInt32))] [(.long q1), (.long (I ((f + (((lo + hi).toUInt32 >>> ((1 : Int32) &&& 31).toUInt32).toInt32)) &&& (3 : Int32)).toNatClampNeg))])
          refine Goes.go (fun _ => XS.lcmp S.here B.x rfl (B.d d_prog_25_method_16_100) rfl) ?_
          show Goes _ _ _ _ T (mkF me_ 101 #[.val (.ref a0), .val (.long q1), .second, .val (.int lo), .val (.int hi), .val (.int (((lo + hi).toUInt32 >>> ((1 : Int32) &&& 31).toUInt32).toInt32))] [(.int (lcmpW (I ((f + (((lo + hi).toUInt32 >>> ((1 : Int32) &&& 31).toUInt32).toInt32)) &&& (3 : Int32)).toNatClampNeg) q1))])
          by_cases hc101 : (I ((f + (((lo + hi).toUInt32 >>> ((1 : Int32) &&& 31).toUInt32).toInt32)) &&& (3 : Int32)).toNatClampNeg) < q1
          · skip
            refine Goes.go (fun _ => XS.ifYes S.here B.x rfl (pc0 := 101) (pc' := 111) rfl (B.d d_prog_25_method_16_101) rfl ((if0 _ _).trans (tlt ((lw_lt (I ((f + (((lo + hi).toUInt32 >>> ((1 : Int32) &&& 31).toUInt32).toInt32)) &&& (3 : Int32)).toNatClampNeg) q1).mpr hc101)).1) (by decide) (by decide)) ?_
            show Goes _ _ _ _ T (mkF me_ 111 #[.val (.ref a0), .val (.long q1), .second, .val (.int lo), .val (.int hi), .val (.int (((lo + hi).toUInt32 >>> ((1 : Int32) &&& 31).toUInt32).toInt32))] [])
            refine Goes.go (fun _ => XS.iload S.here B.x rfl (B.d d_prog_25_method_16_111) rfl) ?_
            show Goes _ _ _ _ T (mkF me_ 113 #[.val (.ref a0), .val (.long q1), .second, .val (.int lo), .val (.int hi), .val (.int (((lo + hi).toUInt32 >>> ((1 : Int32) &&& 31).toUInt32).toInt32))] [(.int (((lo + hi).toUInt32 >>> ((1 : Int32) &&& 31).toUInt32).toInt32))])
            refine Goes.go (fun _ => XS.iconst S.here B.x rfl (B.d d_prog_25_method_16_113)) ?_
            show Goes _ _ _ _ T (mkF me_ 114 #[.val (.ref a0), .val (.long q1), .second, .val (.int lo), .val (.int hi), .val (.int (((lo + hi).toUInt32 >>> ((1 : Int32) &&& 31).toUInt32).toInt32))] [(.int (1 : Int32)), (.int (((lo + hi).toUInt32 >>> ((1 : Int32) &&& 31).toUInt32).toInt32))])
            refine Goes.go (fun _ => XS.iadd S.here B.x rfl (B.d d_prog_25_method_16_114) rfl) ?_
            show Goes _ _ _ _ T (mkF me_ 115 #[.val (.ref a0), .val (.long q1), .second, .val (.int lo), .val (.int hi), .val (.int (((lo + hi).toUInt32 >>> ((1 : Int32) &&& 31).toUInt32).toInt32))] [(.int ((((lo + hi).toUInt32 >>> ((1 : Int32) &&& 31).toUInt32).toInt32) + (1 : Int32)))])
            refine Goes.go (fun _ => XS.istoreN S.here B.x rfl (B.d d_prog_25_method_16_115) rfl (l' := #[.val (.ref a0), .val (.long q1), .second, .val (.int ((((lo + hi).toUInt32 >>> ((1 : Int32) &&& 31).toUInt32).toInt32) + (1 : Int32))), .val (.int hi), .val (.int (((lo + hi).toUInt32 >>> ((1 : Int32) &&& 31).toUInt32).toInt32))]) rfl) ?_
            show Goes _ _ _ _ T (mkF me_ 116 #[.val (.ref a0), .val (.long q1), .second, .val (.int ((((lo + hi).toUInt32 >>> ((1 : Int32) &&& 31).toUInt32).toInt32) + (1 : Int32))), .val (.int hi), .val (.int (((lo + hi).toUInt32 >>> ((1 : Int32) &&& 31).toUInt32).toInt32))] [])
            refine Goes.go (fun _ => XS.goto S.here B.x rfl (pc0 := 116) (pc' := 79) rfl (B.d d_prog_25_method_16_116) (by decide) (by decide)) ?_
            show Goes _ _ _ _ T (mkF me_ 79 #[.val (.ref a0), .val (.long q1), .second, .val (.int ((((lo + hi).toUInt32 >>> ((1 : Int32) &&& 31).toUInt32).toInt32) + (1 : Int32))), .val (.int hi), .val (.int (((lo + hi).toUInt32 >>> ((1 : Int32) &&& 31).toUInt32).toInt32))] [])
            exact ih T ((((lo + hi).toUInt32 >>> ((1 : Int32) &&& 31).toUInt32).toInt32) + (1 : Int32)) hi (.val (.int (((lo + hi).toUInt32 >>> ((1 : Int32) &&& 31).toUInt32).toInt32))) S (One.val rfl) (own_lo hQ hsz hS hB hc82 hc101) (own_kl1 hQ hB hk hc82)
          · skip
            refine Goes.go (fun _ => XS.ifNo S.here B.x rfl (B.d d_prog_25_method_16_101) rfl ((if0 _ _).trans (flt (mt (lw_lt (I ((f + (((lo + hi).toUInt32 >>> ((1 : Int32) &&& 31).toUInt32).toInt32)) &&& (3 : Int32)).toNatClampNeg) q1).mp hc101)).1)) ?_
            show Goes _ _ _ _ T (mkF me_ 104 #[.val (.ref a0), .val (.long q1), .second, .val (.int lo), .val (.int hi), .val (.int (((lo + hi).toUInt32 >>> ((1 : Int32) &&& 31).toUInt32).toInt32))] [])
            refine Goes.go (fun _ => XS.iload S.here B.x rfl (B.d d_prog_25_method_16_104) rfl) ?_
            show Goes _ _ _ _ T (mkF me_ 106 #[.val (.ref a0), .val (.long q1), .second, .val (.int lo), .val (.int hi), .val (.int (((lo + hi).toUInt32 >>> ((1 : Int32) &&& 31).toUInt32).toInt32))] [(.int (((lo + hi).toUInt32 >>> ((1 : Int32) &&& 31).toUInt32).toInt32))])
            refine Goes.go (fun _ => XS.istore S.here B.x rfl (B.d d_prog_25_method_16_106) rfl (l' := #[.val (.ref a0), .val (.long q1), .second, .val (.int lo), .val (.int (((lo + hi).toUInt32 >>> ((1 : Int32) &&& 31).toUInt32).toInt32)), .val (.int (((lo + hi).toUInt32 >>> ((1 : Int32) &&& 31).toUInt32).toInt32))]) rfl) ?_
            show Goes _ _ _ _ T (mkF me_ 108 #[.val (.ref a0), .val (.long q1), .second, .val (.int lo), .val (.int (((lo + hi).toUInt32 >>> ((1 : Int32) &&& 31).toUInt32).toInt32)), .val (.int (((lo + hi).toUInt32 >>> ((1 : Int32) &&& 31).toUInt32).toInt32))] [])
            refine Goes.go (fun _ => XS.goto S.here B.x rfl (pc0 := 108) (pc' := 116) rfl (B.d d_prog_25_method_16_108) (by decide) (by decide)) ?_
            show Goes _ _ _ _ T (mkF me_ 116 #[.val (.ref a0), .val (.long q1), .second, .val (.int lo), .val (.int (((lo + hi).toUInt32 >>> ((1 : Int32) &&& 31).toUInt32).toInt32)), .val (.int (((lo + hi).toUInt32 >>> ((1 : Int32) &&& 31).toUInt32).toInt32))] [])
            refine Goes.go (fun _ => XS.goto S.here B.x rfl (pc0 := 116) (pc' := 79) rfl (B.d d_prog_25_method_16_116) (by decide) (by decide)) ?_
            show Goes _ _ _ _ T (mkF me_ 79 #[.val (.ref a0), .val (.long q1), .second, .val (.int lo), .val (.int (((lo + hi).toUInt32 >>> ((1 : Int32) &&& 31).toUInt32).toInt32)), .val (.int (((lo + hi).toUInt32 >>> ((1 : Int32) &&& 31).toUInt32).toInt32))] [])
            exact ih T lo (((lo + hi).toUInt32 >>> ((1 : Int32) &&& 31).toUInt32).toInt32) (.val (.int (((lo + hi).toUInt32 >>> ((1 : Int32) &&& 31).toUInt32).toInt32))) S (One.val rfl) (own_hi hQ hsz hS hB hc82 hc101) (own_kl2 hQ hB hk hc82)
        · skip
          refine Goes.go (fun _ => XS.icmpYes S.here B.x rfl (pc0 := 82) (pc' := 119) rfl (B.d d_prog_25_method_16_82) rfl (flt hc82).2.1 (by decide) (by decide)) ?_
          show Goes _ _ _ _ T (mkF me_ 119 #[.val (.ref a0), .val (.long q1), .second, .val (.int lo), .val (.int hi), s5] [])
          refine Goes.go (fun _ => XS.iloadN S.here B.x rfl (B.d d_prog_25_method_16_119) rfl) ?_
          show Goes _ _ _ _ T (mkF me_ 120 #[.val (.ref a0), .val (.long q1), .second, .val (.int lo), .val (.int hi), s5] [(.int lo)])
          refine Goes.retI S B d_prog_25_method_16_120 (by decide) (by decide) ?_
          exact ⟨(by first | exact congrArg (fun z => some (Value.int z)) (own_done hQ hB (by first | exact own_z hB hk | assumption))), rfl⟩
    exact LP2 4 T lo hi (.unset) S One.u hB (own_k0 hQ hB)
  refine Goes.go (fun _ => XS.aloadN S.here B.x rfl (B.d d_prog_25_method_16_8) rfl rfl) ?_
  show Goes _ _ _ _ T (mkF me_ 9 #[.val (.ref a0), .val (.long q1), .second, .val (.int (0 : Int32)), .val (.int sz), .unset] [(.ref a0)])
  refine Goes.getF S B (w25 hw) F_a0_size d_prog_25_method_16_9 ?_
  intro T S
  show Goes _ _ _ _ T (mkF me_ 12 #[.val (.ref a0), .val (.long q1), .second, .val (.int (0 : Int32)), .val (.int sz), .unset] [(.int sz)])
  by_cases hc12 : sz = (0 : Int32)
  · skip
    refine Goes.go (fun _ => XS.ifYes S.here B.x rfl (pc0 := 12) (pc' := 30) rfl (B.d d_prog_25_method_16_12) rfl ((if0 _ _).trans (teq hc12).1) (by decide) (by decide)) ?_
    show Goes _ _ _ _ T (mkF me_ 30 #[.val (.ref a0), .val (.long q1), .second, .val (.int (0 : Int32)), .val (.int sz), .unset] [])
    refine Goes.go (fun _ => XS.aloadN S.here B.x rfl (B.d d_prog_25_method_16_30) rfl rfl) ?_
    show Goes _ _ _ _ T (mkF me_ 31 #[.val (.ref a0), .val (.long q1), .second, .val (.int (0 : Int32)), .val (.int sz), .unset] [(.ref a0)])
    refine Goes.getF S B (w25 hw) F_a0_size d_prog_25_method_16_31 ?_
    intro T S
    show Goes _ _ _ _ T (mkF me_ 34 #[.val (.ref a0), .val (.long q1), .second, .val (.int (0 : Int32)), .val (.int sz), .unset] [(.int sz)])
    refine Goes.go (fun _ => XS.istoreN S.here B.x rfl (B.d d_prog_25_method_16_34) rfl (l' := #[.val (.ref a0), .val (.long q1), .second, .val (.int sz), .val (.int sz), .unset]) rfl) ?_
    show Goes _ _ _ _ T (mkF me_ 35 #[.val (.ref a0), .val (.long q1), .second, .val (.int sz), .val (.int sz), .unset] [])
    refine Goes.go (fun _ => XS.goto S.here B.x rfl (pc0 := 35) (pc' := 79) rfl (B.d d_prog_25_method_16_35) (by decide) (by decide)) ?_
    show Goes _ _ _ _ T (mkF me_ 79 #[.val (.ref a0), .val (.long q1), .second, .val (.int sz), .val (.int sz), .unset] [])
    exact J1 T sz sz S (own_b0 hsz hc12)
  · skip
    refine Goes.go (fun _ => XS.ifNo S.here B.x rfl (B.d d_prog_25_method_16_12) rfl ((if0 _ _).trans (feq hc12).1)) ?_
    show Goes _ _ _ _ T (mkF me_ 15 #[.val (.ref a0), .val (.long q1), .second, .val (.int (0 : Int32)), .val (.int sz), .unset] [])
    refine Goes.go (fun _ => XS.aloadN S.here B.x rfl (B.d d_prog_25_method_16_15) rfl rfl) ?_
    show Goes _ _ _ _ T (mkF me_ 16 #[.val (.ref a0), .val (.long q1), .second, .val (.int (0 : Int32)), .val (.int sz), .unset] [(.ref a0)])
    refine Goes.go (fun _ => XS.aloadN S.here B.x rfl (B.d d_prog_25_method_16_16) rfl rfl) ?_
    show Goes _ _ _ _ T (mkF me_ 17 #[.val (.ref a0), .val (.long q1), .second, .val (.int (0 : Int32)), .val (.int sz), .unset] [(.ref a0), (.ref a0)])
    refine Goes.getF S B (w25 hw) F_a0_size d_prog_25_method_16_17 ?_
    intro T S
    show Goes _ _ _ _ T (mkF me_ 20 #[.val (.ref a0), .val (.long q1), .second, .val (.int (0 : Int32)), .val (.int sz), .unset] [(.int sz), (.ref a0)])
    refine Goes.go (fun _ => XS.iconst S.here B.x rfl (B.d d_prog_25_method_16_20)) ?_
    show Goes _ _ _ _ T (mkF me_ 21 #[.val (.ref a0), .val (.long q1), .second, .val (.int (0 : Int32)), .val (.int sz), .unset] [(.int (1 : Int32)), (.int sz), (.ref a0)])
    refine Goes.go (fun _ => XS.isub S.here B.x rfl (B.d d_prog_25_method_16_21) rfl) ?_
    show Goes _ _ _ _ T (mkF me_ 22 #[.val (.ref a0), .val (.long q1), .second, .val (.int (0 : Int32)), .val (.int sz), .unset] [(.int (sz - (1 : Int32))), (.ref a0)])
    refine Goes.callP (argsL := [(.int (sz - (1 : Int32)))]) (rest := []) (W := 0) S B (rm_instant l Z aw hw a0 (sz - (1 : Int32)) gI I f _ n0 E_a0 F_a0_first F_a0_instants A_gI) E_a0 (w43 hw) (w45 hw) (w1 hw) (w44 hw) (w2 hw) (w46 hw) (by decide) (by decide) (by decide) (by decide) (by decide) rfl (lenOf pd_1 rfl) rfl (Nat.le_of_eq rfl) d_prog_25_method_16_22 ?_
    intro v T h S hQ
    obtain ⟨rfl, hh⟩ := hQ
    replace hh := hh.symm
    subst hh
    show Goes _ _ _ _ T (mkF me_ 25 #[.val (.ref a0), .val (.long q1), .second, .val (.int (0 : Int32)), .val (.int sz), .unset] [(.long (I ((f + (sz - (1 : Int32))) &&& (3 : Int32)).toNatClampNeg))])
    refine Goes.go (fun _ => XS.lloadN S.here B.x rfl (B.d d_prog_25_method_16_25) rfl) ?_
    show Goes _ _ _ _ T (mkF me_ 26 #[.val (.ref a0), .val (.long q1), .second, .val (.int (0 : Int32)), .val (.int sz), .unset] [(.long q1), (.long (I ((f + (sz - (1 : Int32))) &&& (3 : Int32)).toNatClampNeg))])
    refine Goes.go (fun _ => XS.lcmp S.here B.x rfl (B.d d_prog_25_method_16_26) rfl) ?_
    show Goes _ _ _ _ T (mkF me_ 27 #[.val (.ref a0), .val (.long q1), .second, .val (.int (0 : Int32)), .val (.int sz), .unset] [(.int (lcmpW (I ((f + (sz - (1 : Int32))) &&& (3 : Int32)).toNatClampNeg) q1))])
    by_cases hc27 : (I ((f + (sz - (1 : Int32))) &&& (3 : Int32)).toNatClampNeg) < q1
    · skip
      refine Goes.go (fun _ => XS.ifNo S.here B.x rfl (B.d d_prog_25_method_16_27) rfl ((if0 _ _).trans (tlt ((lw_lt (I ((f + (sz - (1 : Int32))) &&& (3 : Int32)).toNatClampNeg) q1).mpr hc27)).2.1)) ?_
      show Goes _ _ _ _ T (mkF me_ 30 #[.val (.ref a0), .val (.long q1), .second, .val (.int (0 : Int32)), .val (.int sz), .unset] [])
      refine Goes.go (fun _ => XS.aloadN S.here B.x rfl (B.d d_prog_25_method_16_30) rfl rfl) ?_
      show Goes _ _ _ _ T (mkF me_ 31 #[.val (.ref a0), .val (.long q1), .second, .val (.int (0 : Int32)), .val (.int sz), .unset] [(.ref a0)])
      refine Goes.getF S B (w25 hw) F_a0_size d_prog_25_method_16_31 ?_
      intro T S
      show Goes _ _ _ _ T (mkF me_ 34 #[.val (.ref a0), .val (.long q1), .second, .val (.int (0 : Int32)), .val (.int sz), .unset] [(.int sz)])
      refine Goes.go (fun _ => XS.istoreN S.here B.x rfl (B.d d_prog_25_method_16_34) rfl (l' := #[.val (.ref a0), .val (.long q1), .second, .val (.int sz), .val (.int sz), .unset]) rfl) ?_
      show Goes _ _ _ _ T (mkF me_ 35 #[.val (.ref a0), .val (.long q1), .second, .val (.int sz), .val (.int sz), .unset] [])
      refine Goes.go (fun _ => XS.goto S.here B.x rfl (pc0 := 35) (pc' := 79) rfl (B.d d_prog_25_method_16_35) (by decide) (by decide)) ?_
      show Goes _ _ _ _ T (mkF me_ 79 #[.val (.ref a0), .val (.long q1), .second, .val (.int sz), .val (.int sz), .unset] [])
      exact J1 T sz sz S (own_b1 hQ hsz hS hc12 hc27)
    · skip
      refine Goes.go (fun _ => XS.ifYes S.here B.x rfl (pc0 := 27) (pc' := 38) rfl (B.d d_prog_25_method_16_27) rfl ((if0 _ _).trans (flt (mt (lw_lt (I ((f + (sz - (1 : Int32))) &&& (3 : Int32)).toNatClampNeg) q1).mp hc27)).2.1) (by decide) (by decide)) ?_
      show Goes _ _ _ _ T (mkF me_ 38 #[.val (.ref a0), .val (.long q1), .second, .val (.int (0 : Int32)), .val (.int sz), .unset] [])
      refine Goes.go (fun _ => XS.aloadN S.here B.x rfl (B.d d_prog_25_method_16_38) rfl rfl) ?_
      show Goes _ _ _ _ T (mkF me_ 39 #[.val (.ref a0), .val (.long q1), .second, .val (.int (0 : Int32)), .val (.int sz), .unset] [(.ref a0)])
      refine Goes.go (fun _ => XS.iconst S.here B.x rfl (B.d d_prog_25_method_16_39)) ?_
      show Goes _ _ _ _ T (mkF me_ 40 #[.val (.ref a0), .val (.long q1), .second, .val (.int (0 : Int32)), .val (.int sz), .unset] [(.int (0 : Int32)), (.ref a0)])
      refine Goes.callP (argsL := [(.int (0 : Int32))]) (rest := []) (W := 0) S B (rm_instant l Z aw hw a0 (0 : Int32) gI I f _ n0 E_a0 F_a0_first F_a0_instants A_gI) E_a0 (w43 hw) (w45 hw) (w1 hw) (w44 hw) (w2 hw) (w46 hw) (by decide) (by decide) (by decide) (by decide) (by decide) rfl (lenOf pd_1 rfl) rfl (Nat.le_of_eq rfl) d_prog_25_method_16_40 ?_
      intro v T h S hQ
      obtain ⟨rfl, hh⟩ := hQ
      replace hh := hh.symm
      subst hh
      show Goes _ _ _ _ T (mkF me_ 43 #[.val (.ref a0), .val (.long q1), .second, .val (.int (0 : Int32)), .val (.int sz), .unset] [(.long (I ((f + (0 : Int32)) &&& (3 : Int32)).toNatClampNeg))])
      refine Goes.go (fun _ => XS.lloadN S.here B.x rfl (B.d d_prog_25_method_16_43) rfl) ?_
      show Goes _ _ _ _ T (mkF me_ 44 #[.val (.ref a0), .val (.long q1), .second, .val (.int (0 : Int32)), .val (.int sz), .unset] [(.long q1), (.long (I ((f + (0 : Int32)) &&& (3 : Int32)).toNatClampNeg))])
      refine Goes.go (fun _ => XS.lcmp S.here B.x rfl (B.d d_prog_25_method_16_44) rfl) ?_
      show Goes _ _ _ _ T (mkF me_ 45 #[.val (.ref a0), .val (.long q1), .second, .val (.int (0 : Int32)), .val (.int sz), .unset] [(.int (lcmpW (I ((f + (0 : Int32)) &&& (3 : Int32)).toNatClampNeg) q1))])
      by_cases hc45 : (I ((f + (0 : Int32)) &&& (3 : Int32)).toNatClampNeg) < q1
      · skip
        refine Goes.go (fun _ => XS.ifYes S.here B.x rfl (pc0 := 45) (pc' := 54) rfl (B.d d_prog_25_method_16_45) rfl ((if0 _ _).trans (tlt ((lw_lt (I ((f + (0 : Int32)) &&& (3 : Int32)).toNatClampNeg) q1).mpr hc45)).1) (by decide) (by decide)) ?_
        show Goes _ _ _ _ T (mkF me_ 54 #[.val (.ref a0), .val (.long q1), .second, .val (.int (0 : Int32)), .val (.int sz), .unset] [])
        refine Goes.go (fun _ => XS.aloadN S.here B.x rfl (B.d d_prog_25_method_16_54) rfl rfl) ?_
        show Goes _ _ _ _ T (mkF me_ 55 #[.val (.ref a0), .val (.long q1), .second, .val (.int (0 : Int32)), .val (.int sz), .unset] [(.ref a0)])
        refine Goes.go (fun _ => XS.aloadN S.here B.x rfl (B.d d_prog_25_method_16_55) rfl rfl) ?_
        show Goes _ _ _ _ T (mkF me_ 56 #[.val (.ref a0), .val (.long q1), .second, .val (.int (0 : Int32)), .val (.int sz), .unset] [(.ref a0), (.ref a0)])
        refine Goes.getF S B (w25 hw) F_a0_size d_prog_25_method_16_56 ?_
        intro T S
        show Goes _ _ _ _ T (mkF me_ 59 #[.val (.ref a0), .val (.long q1), .second, .val (.int (0 : Int32)), .val (.int sz), .unset] [(.int sz), (.ref a0)])
        refine Goes.go (fun _ => XS.iconst S.here B.x rfl (B.d d_prog_25_method_16_59)) ?_
        show Goes _ _ _ _ T (mkF me_ 60 #[.val (.ref a0), .val (.long q1), .second, .val (.int (0 : Int32)), .val (.int sz), .unset] [(.int (1 : Int32)), (.int sz), (.ref a0)])
        refine Goes.go (fun _ => XS.isub S.here B.x rfl (B.d d_prog_25_method_16_60) rfl) ?_
        show Goes _ _ _ _ T (mkF me_ 61 #[.val (.ref a0), .val (.long q1), .second, .val (.int (0 : Int32)), .val (.int sz), .unset] [(.int (sz - (1 : Int32))), (.ref a0)])
        refine Goes.callP (argsL := [(.int (sz - (1 : Int32)))]) (rest := []) (W := 0) S B (rm_instant l Z aw hw a0 (sz - (1 : Int32)) gI I f _ n0 E_a0 F_a0_first F_a0_instants A_gI) E_a0 (w43 hw) (w45 hw) (w1 hw) (w44 hw) (w2 hw) (w46 hw) (by decide) (by decide) (by decide) (by decide) (by decide) rfl (lenOf pd_1 rfl) rfl (Nat.le_of_eq rfl) d_prog_25_method_16_61 ?_
        intro v T h S hQ
        obtain ⟨rfl, hh⟩ := hQ
        replace hh := hh.symm
        subst hh
        show Goes _ _ _ _ T (mkF me_ 64 #[.val (.ref a0), .val (.long q1), .second, .val (.int (0 : Int32)), .val (.int sz), .unset] [(.long (I ((f + (sz - (1 : Int32))) &&& (3 : Int32)).toNatClampNeg))])
        refine Goes.go (fun _ => XS.lloadN S.here B.x rfl (B.d d_prog_25_method_16_64) rfl) ?_
        show Goes _ _ _ _ T (mkF me_ 65 #[.val (.ref a0), .val (.long q1), .second, .val (.int (0 : Int32)), .val (.int sz), .unset] [(.long q1), (.long (I ((f + (sz - (1 : Int32))) &&& (3 : Int32)).toNatClampNeg))])
        refine Goes.go (fun _ => XS.lcmp S.here B.x rfl (B.d d_prog_25_method_16_65) rfl) ?_
        show Goes _ _ _ _ T (mkF me_ 66 #[.val (.ref a0), .val (.long q1), .second, .val (.int (0 : Int32)), .val (.int sz), .unset] [(.int (lcmpW (I ((f + (sz - (1 : Int32))) &&& (3 : Int32)).toNatClampNeg) q1))])
        by_cases hc66 : (I ((f + (sz - (1 : Int32))) &&& (3 : Int32)).toNatClampNeg) = q1
        · skip
          refine Goes.go (fun _ => XS.ifNo S.here B.x rfl (B.d d_prog_25_method_16_66) rfl ((if0 _ _).trans (teq ((lw_eq (I ((f + (sz - (1 : Int32))) &&& (3 : Int32)).toNatClampNeg) q1).mpr hc66)).2)) ?_
          show Goes _ _ _ _ T (mkF me_ 69 #[.val (.ref a0), .val (.long q1), .second, .val (.int (0 : Int32)), .val (.int sz), .unset] [])
          refine Goes.go (fun _ => XS.aloadN S.here B.x rfl (B.d d_prog_25_method_16_69) rfl rfl) ?_
          show Goes _ _ _ _ T (mkF me_ 70 #[.val (.ref a0), .val (.long q1), .second, .val (.int (0 : Int32)), .val (.int sz), .unset] [(.ref a0)])
          refine Goes.getF S B (w25 hw) F_a0_size d_prog_25_method_16_70 ?_
          intro T S
          show Goes _ _ _ _ T (mkF me_ 73 #[.val (.ref a0), .val (.long q1), .second, .val (.int (0 : Int32)), .val (.int sz), .unset] [(.int sz)])
          refine Goes.go (fun _ => XS.iconst S.here B.x rfl (B.d d_prog_25_method_16_73)) ?_
          show Goes _ _ _ _ T (mkF me_ 74 #[.val (.ref a0), .val (.long q1), .second, .val (.int (0 : Int32)), .val (.int sz), .unset] [(.int (1 : Int32)), (.int sz)])
          refine Goes.go (fun _ => XS.isub S.here B.x rfl (B.d d_prog_25_method_16_74) rfl) ?_
          show Goes _ _ _ _ T (mkF me_ 75 #[.val (.ref a0), .val (.long q1), .second, .val (.int (0 : Int32)), .val (.int sz), .unset] [(.int (sz - (1 : Int32)))])
          refine Goes.go (fun _ => XS.istoreN S.here B.x rfl (B.d d_prog_25_method_16_75) rfl (l' := #[.val (.ref a0), .val (.long q1), .second, .val (.int (sz - (1 : Int32))), .val (.int sz), .unset]) rfl) ?_
          show Goes _ _ _ _ T (mkF me_ 76 #[.val (.ref a0), .val (.long q1), .second, .val (.int (sz - (1 : Int32))), .val (.int sz), .unset] [])
          refine Goes.go (fun _ => XS.iloadN S.here B.x rfl (B.d d_prog_25_method_16_76) rfl) ?_
          show Goes _ _ _ _ T (mkF me_ 77 #[.val (.ref a0), .val (.long q1), .second, .val (.int (sz - (1 : Int32))), .val (.int sz), .unset] [(.int (sz - (1 : Int32)))])
          refine Goes.go (fun _ => XS.istore S.here B.x rfl (B.d d_prog_25_method_16_77) rfl (l' := #[.val (.ref a0), .val (.long q1), .second, .val (.int (sz - (1 : Int32))), .val (.int (sz - (1 : Int32))), .unset]) rfl) ?_
          show Goes _ _ _ _ T (mkF me_ 79 #[.val (.ref a0), .val (.long q1), .second, .val (.int (sz - (1 : Int32))), .val (.int (sz - (1 : Int32))), .unset] [])
          exact J1 T (sz - (1 : Int32)) (sz - (1 : Int32)) S (own_b3 hQ hsz hS hc12 hc66)
        · skip
          refine Goes.go (fun _ => XS.ifYes S.here B.x rfl (pc0 := 66) (pc' := 79) rfl (B.d d_prog_25_method_16_66) rfl ((if0 _ _).trans (feq (mt (lw_eq (I ((f + (sz - (1 : Int32))) &&& (3 : Int32)).toNatClampNeg) q1).mp hc66)).2) (by decide) (by decide)) ?_
          show Goes _ _ _ _ T (mkF me_ 79 #[.val (.ref a0), .val (.long q1), .second, .val (.int (0 : Int32)), .val (.int sz), .unset] [])
          exact J1 T (0 : Int32) sz S (own_b4 hsz)
      · skip
        refine Goes.go (fun _ => XS.ifNo S.here B.x rfl (B.d d_prog_25_method_16_45) rfl ((if0 _ _).trans (flt (mt (lw_lt (I ((f + (0 : Int32)) &&& (3 : Int32)).toNatClampNeg) q1).mp hc45)).1)) ?_
        show Goes _ _ _ _ T (mkF me_ 48 #[.val (.ref a0), .val (.long q1), .second, .val (.int (0 : Int32)), .val (.int sz), .unset] [])
        refine Goes.go (fun _ => XS.iconst S.here B.x rfl (B.d d_prog_25_method_16_48)) ?_
        show Goes _ _ _ _ T (mkF me_ 49 #[.val (.ref a0), .val (.long q1), .second, .val (.int (0 : Int32)), .val (.int sz), .unset] [(.int (0 : Int32))])
        refine Goes.go (fun _ => XS.istore S.here B.x rfl (B.d d_prog_25_method_16_49) rfl (l' := #[.val (.ref a0), .val (.long q1), .second, .val (.int (0 : Int32)), .val (.int (0 : Int32)), .unset]) rfl) ?_
        show Goes _ _ _ _ T (mkF me_ 51 #[.val (.ref a0), .val (.long q1), .second, .val (.int (0 : Int32)), .val (.int (0 : Int32)), .unset] [])
        refine Goes.go (fun _ => XS.goto S.here B.x rfl (pc0 := 51) (pc' := 79) rfl (B.d d_prog_25_method_16_51) (by decide) (by decide)) ?_
        show Goes _ _ _ _ T (mkF me_ 79 #[.val (.ref a0), .val (.long q1), .second, .val (.int (0 : Int32)), .val (.int (0 : Int32)), .unset] [])
        exact J1 T (0 : Int32) (0 : Int32) S (own_b2 hQ hsz hS hc12 hc45)
theorem ef_rm_insert (m : MethodId) (a0 : Addr) (p1 : Int32) (q2 : Int64) (q3 : Int64) : entryFrame m #[(.ref a0), (.int p1), (.long q2), (.long q3)] 7 = mkF m 0 #[.val (.ref a0), .val (.int p1), .val (.long q2), .second, .val (.long q3), .second, .unset] [] := by first | (simp [entryFrame, mkF, argsToLocals, Value.category]; done) | rfl
def Q_rm_insert (Z : State) (a0 : Addr) (p1 : Int32) (q2 : Int64) (q3 : Int64) (gI : Addr) (gN : Addr) (I : Nat → Int64) (N : Nat → Int64) (f : Int32) (sz : Int32) (d : Int64) (ts : List Int64) (ns : List Int64) (kk : Nat) (h0 : Heap) (n0 : Nat) (v : Option Value) (h : Heap) : Prop := ∃ (I3 : Nat → Int64) (N3 : Nat → Int64), v = none ∧ Keep h0 h [a0, gI, gN] ∧ Exa Z h a0 "com/example/bucket_brigade/bucketbrigade/PermitLog" ∧ Fld Z h a0 "com/example/bucket_brigade/bucketbrigade/PermitLog" "instants" "[J" (.ref gI) ∧ Fld Z h a0 "com/example/bucket_brigade/bucketbrigade/PermitLog" "lastNumbers" "[J" (.ref gN) ∧ Fld Z h a0 "com/example/bucket_brigade/bucketbrigade/PermitLog" "first" "I" (.int f) ∧ Fld Z h a0 "com/example/bucket_brigade/bucketbrigade/PermitLog" "size" "I" (.int (sz + (1 : Int32))) ∧ Fld Z h a0 "com/example/bucket_brigade/bucketbrigade/PermitLog" "dropped" "J" (.long d) ∧ Ary Z h gI .long 4 (fun i => (.long (I3 i))) ∧ Ary Z h gN .long 4 (fun i => (.long (N3 i))) ∧ (own_Q f I3 (own_at ts kk q2)) ∧ (own_Q f N3 (own_at ns kk q3))
set_option maxRecDepth 65536 in
set_option maxHeartbeats 40000000 in
theorem rm_insert (l : Launch) (Z : State) (aw : Array Value) (hw : ∀ d ∈ tables_1, d.before aw Z = true) (a0 : Addr) (p1 : Int32) (q2 : Int64) (q3 : Int64) (gI : Addr) (gN : Addr) (I : Nat → Int64) (N : Nat → Int64) (f : Int32) (sz : Int32) (d : Int64) (ts : List Int64) (ns : List Int64) (kk : Nat) (h0 : Heap) (n0 : Nat) (E_a0 : Exa Z h0 a0 "com/example/bucket_brigade/bucketbrigade/PermitLog") (F_a0_instants : Fld Z h0 a0 "com/example/bucket_brigade/bucketbrigade/PermitLog" "instants" "[J" (.ref gI)) (F_a0_lastNumbers : Fld Z h0 a0 "com/example/bucket_brigade/bucketbrigade/PermitLog" "lastNumbers" "[J" (.ref gN)) (F_a0_first : Fld Z h0 a0 "com/example/bucket_brigade/bucketbrigade/PermitLog" "first" "I" (.int f)) (F_a0_size : Fld Z h0 a0 "com/example/bucket_brigade/bucketbrigade/PermitLog" "size" "I" (.int sz)) (F_a0_dropped : Fld Z h0 a0 "com/example/bucket_brigade/bucketbrigade/PermitLog" "dropped" "J" (.long d)) (A_gI : Ary Z h0 gI .long 4 (fun i => (.long (I i)))) (A_gN : Ary Z h0 gN .long 4 (fun i => (.long (N i)))) (g_a0 : n0 ≤ a0) (g_gI : n0 ≤ gI) (g_gN : n0 ≤ gN) (ne_a0__gI : a0 ≠ gI) (ne_a0__gN : a0 ≠ gN) (ne_gI__gN : gI ≠ gN) (hQ : own_Q f I ts) (hN : own_Q f N ns) (hsz : sz.toInt = (ts.length : Int)) (hll : ns.length = ts.length) (hl : ts.length < 4) (hat : p1.toInt = (kk : Int)) (hk0 : kk ≤ ts.length) :
    Con l Z (⟨"com/example/bucket_brigade/bucketbrigade/PermitLog", "insert", "(IJJ)V"⟩ : MethodName) prog_25_method_13_code 7 none ({ frames := 1, cells := 0, slots := 0, locals := 16 } : Room) #[(.ref a0), (.int p1), (.long q2), (.long q3)] h0 n0 (Q_rm_insert Z a0 p1 q2 q3 gI gN I N f sz d ts ns kk h0 n0) := by
  refine Con.body (plainFor_of_name pn_0) ?_
  intro pr_ en_ st_ me_ below meth co_ T B S
  refine Goes.cast (ef_rm_insert me_ a0 p1 q2 q3) ?_
  have K : Keep h0 h0 [a0, gI, gN] := Keep.refl _ _
  refine Goes.go (fun _ => XS.aloadN S.here B.x rfl (B.d d_prog_25_method_13_0) rfl rfl) ?_
  show Goes _ _ _ _ T (mkF me_ 1 #[.val (.ref a0), .val (.int p1), .val (.long q2), .second, .val (.long q3), .second, .unset] [(.ref a0)])
  refine Goes.getF S B (w25 hw) F_a0_size d_prog_25_method_13_1 ?_
  intro T S
  show Goes _ _ _ _ T (mkF me_ 4 #[.val (.ref a0), .val (.int p1), .val (.long q2), .second, .val (.long q3), .second, .unset] [(.int sz)])
  refine Goes.go (fun _ => XS.aloadN S.here B.x rfl (B.d d_prog_25_method_13_4) rfl rfl) ?_
  show Goes _ _ _ _ T (mkF me_ 5 #[.val (.ref a0), .val (.int p1), .val (.long q2), .second, .val (.long q3), .second, .unset] [(.ref a0), (.int sz)])
  refine Goes.getF S B (w10 hw) F_a0_instants d_prog_25_method_13_5 ?_
  intro T S
  show Goes _ _ _ _ T (mkF me_ 8 #[.val (.ref a0), .val (.int p1), .val (.long q2), .second, .val (.long q3), .second, .unset] [(.ref gI), (.int sz)])
  refine Goes.alen S B A_gI (z := (4 : Int32)) rfl d_prog_25_method_13_8 ?_
  show Goes _ _ _ _ T (mkF me_ 9 #[.val (.ref a0), .val (.int p1), .val (.long q2), .second, .val (.long q3), .second, .unset] [(.int (4 : Int32)), (.int sz)])
  refine Goes.go (fun _ => XS.icmpYes S.here B.x rfl (pc0 := 9) (pc' := 16) rfl (B.d d_prog_25_method_13_9) rfl (feq (show ¬ (sz = (4 : Int32)) from own_n4 hsz hl)).2 (by decide) (by decide)) ?_
  show Goes _ _ _ _ T (mkF me_ 16 #[.val (.ref a0), .val (.int p1), .val (.long q2), .second, .val (.long q3), .second, .unset] [])
  refine Goes.go (fun _ => XS.aloadN S.here B.x rfl (B.d d_prog_25_method_13_16) rfl rfl) ?_
  show Goes _ _ _ _ T (mkF me_ 17 #[.val (.ref a0), .val (.int p1), .val (.long q2), .second, .val (.long q3), .second, .unset] [(.ref a0)])
  refine Goes.getF S B (w25 hw) F_a0_size d_prog_25_method_13_17 ?_
  intro T S
  show Goes _ _ _ _ T (mkF me_ 20 #[.val (.ref a0), .val (.int p1), .val (.long q2), .second, .val (.long q3), .second, .unset] [(.int sz)])
  refine Goes.go (fun _ => XS.istore S.here B.x rfl (B.d d_prog_25_method_13_20) rfl (l' := #[.val (.ref a0), .val (.int p1), .val (.long q2), .second, .val (.long q3), .second, .val (.int sz)]) rfl) ?_
  show Goes _ _ _ _ T (mkF me_ 22 #[.val (.ref a0), .val (.int p1), .val (.long q2), .second, .val (.long q3), .second, .val (.int sz)] [])
  have LP1 : ∀ (k : Nat) (T : State) (h : Heap) (i6 : Int32) (I2 : Nat → Int64) (N2 : Nat → Int64), Sd pr_ l en_ ({ frames := 1, cells := 0, slots := 0, locals := 16 } : Room) st_ me_ #[(.ref a0), (.int p1), (.long q2), (.long q3)] below meth co_ T h n0 0 0 → Keep h0 h [a0, gI, gN] → Exa Z h a0 "com/example/bucket_brigade/bucketbrigade/PermitLog" → Fld Z h a0 "com/example/bucket_brigade/bucketbrigade/PermitLog" "instants" "[J" (.ref gI) → Fld Z h a0 "com/example/bucket_brigade/bucketbrigade/PermitLog" "lastNumbers" "[J" (.ref gN) → Fld Z h a0 "com/example/bucket_brigade/bucketbrigade/PermitLog" "first" "I" (.int f) → Fld Z h a0 "com/example/bucket_brigade/bucketbrigade/PermitLog" "size" "I" (.int sz) → Fld Z h a0 "com/example/bucket_brigade/bucketbrigade/PermitLog" "dropped" "J" (.long d) → Ary Z h gI .long 4 (fun i => (.long (I2 i))) → Ary Z h gN .long 4 (fun i => (.long (N2 i))) → i6.toInt = ((kk + k : Nat) : Int) → kk + k ≤ ts.length → own_sh f I I2 (kk + k) ts.length → own_sh f N N2 (kk + k) ts.length → Goes pr_.tables en_ below (Fine st_ n0 (Q_rm_insert Z a0 p1 q2 q3 gI gN I N f sz d ts ns kk h0 n0) ({ frames := 1, cells := 0, slots := 0, locals := 16 } : Room).cells ({ frames := 1, cells := 0, slots := 0, locals := 16 } : Room).slots) T (mkF me_ 22 #[.val (.ref a0), .val (.int p1), .val (.long q2), .second, .val (.long q3), .second, .val (.int i6)] []) := by
    intro k
    induction k with
    | zero =>
      intro T h i6 I2 N2 S K E_a0 F_a0_instants F_a0_lastNumbers F_a0_first F_a0_size F_a0_dropped A_gI A_gN hi hkl hsI hsN
      refine Goes.go (fun _ => XS.iload S.here B.x rfl (B.d d_prog_25_method_13_22) rfl) ?_
      show Goes _ _ _ _ T (mkF me_ 24 #[.val (.ref a0), .val (.int p1), .val (.long q2), .second, .val (.long q3), .second, .val (.int i6)] [(.int i6)])
      refine Goes.go (fun _ => XS.iloadN S.here B.x rfl (B.d d_prog_25_method_13_24) rfl) ?_
      show Goes _ _ _ _ T (mkF me_ 25 #[.val (.ref a0), .val (.int p1), .val (.long q2), .second, .val (.long q3), .second, .val (.int i6)] [(.int p1), (.int i6)])
      refine Goes.go (fun _ => XS.icmpYes S.here B.x rfl (pc0 := 25) (pc' := 82) rfl (B.d d_prog_25_method_13_25) rfl (flt (show ¬ (p1 < i6) from own_i0 hat hi)).2.2.2 (by decide) (by decide)) ?_
      show Goes _ _ _ _ T (mkF me_ 82 #[.val (.ref a0), .val (.int p1), .val (.long q2), .second, .val (.long q3), .second, .val (.int i6)] [])
      refine Goes.go (fun _ => XS.aloadN S.here B.x rfl (B.d d_prog_25_method_13_82) rfl rfl) ?_
      show Goes _ _ _ _ T (mkF me_ 83 #[.val (.ref a0), .val (.int p1), .val (.long q2), .second, .val (.long q3), .second, .val (.int i6)] [(.ref a0)])
      refine Goes.getF S B (w10 hw) F_a0_instants d_prog_25_method_13_83 ?_
      intro T S
      show Goes _ _ _ _ T (mkF me_ 86 #[.val (.ref a0), .val (.int p1), .val (.long q2), .second, .val (.long q3), .second, .val (.int i6)] [(.ref gI)])
      refine Goes.go (fun _ => XS.aloadN S.here B.x rfl (B.d d_prog_25_method_13_86) rfl rfl) ?_
      show Goes _ _ _ _ T (mkF me_ 87 #[.val (.ref a0), .val (.int p1), .val (.long q2), .second, .val (.long q3), .second, .val (.int i6)] [(.ref a0), (.ref gI)])
      refine Goes.go (fun _ => XS.iloadN S.here B.x rfl (B.d d_prog_25_method_13_87) rfl) ?_
      show Goes _ _ _ _ T (mkF me_ 88 #[.val (.ref a0), .val (.int p1), .val (.long q2), .second, .val (.long q3), .second, .val (.int i6)] [(.int p1), (.ref a0), (.ref gI)])
      refine Goes.callP (argsL := [(.int p1)]) (rest := [(.ref gI)]) (W := 1) S B (rm_slot l Z aw hw a0 p1 gI (fun i => (.long (I2 i))) f _ n0 F_a0_first F_a0_instants A_gI) E_a0 (w37 hw) (w39 hw) (w1 hw) (w38 hw) (w2 hw) (w40 hw) (by decide) (by decide) (by decide) (by decide) (by decide) rfl (lenOf pd_0 rfl) rfl (Nat.le_of_eq rfl) d_prog_25_method_13_88 ?_
      intro v T h S hQ
      obtain ⟨rfl, hh⟩ := hQ
      replace hh := hh.symm
      subst hh
      show Goes _ _ _ _ T (mkF me_ 91 #[.val (.ref a0), .val (.int p1), .val (.long q2), .second, .val (.long q3), .second, .val (.int i6)] [(.int ((f + p1) &&& (3 : Int32))), (.ref gI)])
      refine Goes.go (fun _ => XS.lloadN S.here B.x rfl (B.d d_prog_25_method_13_91) rfl) ?_
      show Goes _ _ _ _ T (mkF me_ 92 #[.val (.ref a0), .val (.int p1), .val (.long q2), .second, .val (.long q3), .second, .val (.int i6)] [(.long q2), (.int ((f + p1) &&& (3 : Int32))), (.ref gI)])
      refine Goes.lastore S B A_gI (own_m3 _).1 (own_m3 _).2 g_gI d_prog_25_method_13_92 ?_
      intro T h S W A_gI
      replace K := K.wr W (Or.inl (by simp))
      replace E_a0 := E_a0.wr W
      replace F_a0_instants := F_a0_instants.other W (Or.inl ne_a0__gI)
      replace F_a0_lastNumbers := F_a0_lastNumbers.other W (Or.inl ne_a0__gI)
      replace F_a0_first := F_a0_first.other W (Or.inl ne_a0__gI)
      replace F_a0_size := F_a0_size.other W (Or.inl ne_a0__gI)
      replace F_a0_dropped := F_a0_dropped.other W (Or.inl ne_a0__gI)
      replace A_gN := A_gN.other W ne_gI__gN.symm
      replace A_gI : Ary Z h gI .long 4 (aup (fun i => (.long (I2 i))) ((f + p1) &&& (3 : Int32)).toNatClampNeg (.long q2)) := A_gI
      rw [aup_long] at A_gI
      show Goes _ _ _ _ T (mkF me_ 93 #[.val (.ref a0), .val (.int p1), .val (.long q2), .second, .val (.long q3), .second, .val (.int i6)] [])
      refine Goes.go (fun _ => XS.aloadN S.here B.x rfl (B.d d_prog_25_method_13_93) rfl rfl) ?_
      show Goes _ _ _ _ T (mkF me_ 94 #[.val (.ref a0), .val (.int p1), .val (.long q2), .second, .val (.long q3), .second, .val (.int i6)] [(.ref a0)])
      refine Goes.getF S B (w12 hw) F_a0_lastNumbers d_prog_25_method_13_94 ?_
      intro T S
      show Goes _ _ _ _ T (mkF me_ 97 #[.val (.ref a0), .val (.int p1), .val (.long q2), .second, .val (.long q3), .second, .val (.int i6)] [(.ref gN)])
      refine Goes.go (fun _ => XS.aloadN S.here B.x rfl (B.d d_prog_25_method_13_97) rfl rfl) ?_
      show Goes _ _ _ _ T (mkF me_ 98 #[.val (.ref a0), .val (.int p1), .val (.long q2), .second, .val (.long q3), .second, .val (.int i6)] [(.ref a0), (.ref gN)])
      refine Goes.go (fun _ => XS.iloadN S.here B.x rfl (B.d d_prog_25_method_13_98) rfl) ?_
      show Goes _ _ _ _ T (mkF me_ 99 #[.val (.ref a0), .val (.int p1), .val (.long q2), .second, .val (.long q3), .second, .val (.int i6)] [(.int p1), (.ref a0), (.ref gN)])
      refine Goes.callP (argsL := [(.int p1)]) (rest := [(.ref gN)]) (W := 1) S B (rm_slot l Z aw hw a0 p1 gI (fun i => (.long ((aup I2 ((f + p1) &&& (3 : Int32)).toNatClampNeg q2) i))) f _ n0 F_a0_first F_a0_instants A_gI) E_a0 (w37 hw) (w39 hw) (w1 hw) (w38 hw) (w2 hw) (w40 hw) (by decide) (by decide) (by decide) (by decide) (by decide) rfl (lenOf pd_0 rfl) rfl (Nat.le_of_eq rfl) d_prog_25_method_13_99 ?_
      intro v T h S hQ
      obtain ⟨rfl, hh⟩ := hQ
      replace hh := hh.symm
      subst hh
      show Goes _ _ _ _ T (mkF me_ 102 #[.val (.ref a0), .val (.int p1), .val (.long q2), .second, .val (.long q3), .second, .val (.int i6)] [(.int ((f + p1) &&& (3 : Int32))), (.ref gN)])
      refine Goes.go (fun _ => XS.lload S.here B.x rfl (B.d d_prog_25_method_13_102) rfl) ?_
      show Goes _ _ _ _ T (mkF me_ 104 #[.val (.ref a0), .val (.int p1), .val (.long q2), .second, .val (.long q3), .second, .val (.int i6)] [(.long q3), (.int ((f + p1) &&& (3 : Int32))), (.ref gN)])
      refine Goes.lastore S B A_gN (own_m3 _).1 (own_m3 _).2 g_gN d_prog_25_method_13_104 ?_
      intro T h S W A_gN
      replace K := K.wr W (Or.inl (by simp))
      replace E_a0 := E_a0.wr W
      replace F_a0_instants := F_a0_instants.other W (Or.inl ne_a0__gN)
      replace F_a0_lastNumbers := F_a0_lastNumbers.other W (Or.inl ne_a0__gN)
      replace F_a0_first := F_a0_first.other W (Or.inl ne_a0__gN)
      replace F_a0_size := F_a0_size.other W (Or.inl ne_a0__gN)
      replace F_a0_dropped := F_a0_dropped.other W (Or.inl ne_a0__gN)
      replace A_gI := A_gI.other W ne_gI__gN
      replace A_gN : Ary Z h gN .long 4 (aup (fun i => (.long (N2 i))) ((f + p1) &&& (3 : Int32)).toNatClampNeg (.long q3)) := A_gN
      rw [aup_long] at A_gN
      show Goes _ _ _ _ T (mkF me_ 105 #[.val (.ref a0), .val (.int p1), .val (.long q2), .second, .val (.long q3), .second, .val (.int i6)] [])
      refine Goes.go (fun _ => XS.aloadN S.here B.x rfl (B.d d_prog_25_method_13_105) rfl rfl) ?_
      show Goes _ _ _ _ T (mkF me_ 106 #[.val (.ref a0), .val (.int p1), .val (.long q2), .second, .val (.long q3), .second, .val (.int i6)] [(.ref a0)])
      refine Goes.go (fun _ => XS.dup S.here B.x rfl (B.d d_prog_25_method_13_106) rfl rfl) ?_
      show Goes _ _ _ _ T (mkF me_ 107 #[.val (.ref a0), .val (.int p1), .val (.long q2), .second, .val (.long q3), .second, .val (.int i6)] [(.ref a0), (.ref a0)])
      refine Goes.getF S B (w25 hw) F_a0_size d_prog_25_method_13_107 ?_
      intro T S
      show Goes _ _ _ _ T (mkF me_ 110 #[.val (.ref a0), .val (.int p1), .val (.long q2), .second, .val (.long q3), .second, .val (.int i6)] [(.int sz), (.ref a0)])
      refine Goes.go (fun _ => XS.iconst S.here B.x rfl (B.d d_prog_25_method_13_110)) ?_
      show Goes _ _ _ _ T (mkF me_ 111 #[.val (.ref a0), .val (.int p1), .val (.long q2), .second, .val (.long q3), .second, .val (.int i6)] [(.int (1 : Int32)), (.int sz), (.ref a0)])
      refine Goes.go (fun _ => XS.iadd S.here B.x rfl (B.d d_prog_25_method_13_111) rfl) ?_
      show Goes _ _ _ _ T (mkF me_ 112 #[.val (.ref a0), .val (.int p1), .val (.long q2), .second, .val (.long q3), .second, .val (.int i6)] [(.int (sz + (1 : Int32))), (.ref a0)])
      refine Goes.putF (v' := (.int (sz + (1 : Int32)))) S B (w25 hw) F_a0_size E_a0 (Or.inl (w26 hw)) (w1 hw) (ty := .int) (by decide) rfl rfl g_a0 d_prog_25_method_13_112 ?_
      intro T h S W
      replace K := K.wr W (Or.inl (by simp))
      replace E_a0 := E_a0.wr W
      replace F_a0_instants := F_a0_instants.other W (Or.inr (slot_ne (Or.inl (w11 hw)) (Or.inl (w26 hw)) (by decide) (t := (.array .long)) (t' := .int) (by decide) (by decide)))
      replace F_a0_lastNumbers := F_a0_lastNumbers.other W (Or.inr (slot_ne (Or.inl (w13 hw)) (Or.inl (w26 hw)) (by decide) (t := (.array .long)) (t' := .int) (by decide) (by decide)))
      replace F_a0_first := F_a0_first.other W (Or.inr (slot_ne (Or.inl (w42 hw)) (Or.inl (w26 hw)) (by decide) (t := .int) (t' := .int) (by decide) (by decide)))
      replace F_a0_size := F_a0_size.same W
      replace F_a0_dropped := F_a0_dropped.other W (Or.inr (slot_ne (Or.inl (w32 hw)) (Or.inl (w26 hw)) (by decide) (t := .long) (t' := .int) (by decide) (by decide)))
      replace A_gI := A_gI.other W ne_a0__gI.symm
      replace A_gN := A_gN.other W ne_a0__gN.symm
      show Goes _ _ _ _ T (mkF me_ 115 #[.val (.ref a0), .val (.int p1), .val (.long q2), .second, .val (.long q3), .second, .val (.int i6)] [])
      refine Goes.retV S B d_prog_25_method_13_115 (by decide) (by decide) ?_
      exact ⟨_, _, rfl, K, E_a0, F_a0_instants, F_a0_lastNumbers, F_a0_first, F_a0_size, F_a0_dropped, A_gI, A_gN, own_inq hQ hQ rfl hl hat hk0 hsI, own_inq hQ hN hll hl hat hk0 hsN⟩
    | succ k ih =>
      intro T h i6 I2 N2 S K E_a0 F_a0_instants F_a0_lastNumbers F_a0_first F_a0_size F_a0_dropped A_gI A_gN hi hkl hsI hsN
      refine Goes.go (fun _ => XS.iload S.here B.x rfl (B.d d_prog_25_method_13_22) rfl) ?_
      show Goes _ _ _ _ T (mkF me_ 24 #[.val (.ref a0), .val (.int p1), .val (.long q2), .second, .val (.long q3), .second, .val (.int i6)] [(.int i6)])
      refine Goes.go (fun _ => XS.iloadN S.here B.x rfl (B.d d_prog_25_method_13_24) rfl) ?_
      show Goes _ _ _ _ T (mkF me_ 25 #[.val (.ref a0), .val (.int p1), .val (.long q2), .second, .val (.long q3), .second, .val (.int i6)] [(.int p1), (.int i6)])
      refine Goes.go (fun _ => XS.icmpNo S.here B.x rfl (B.d d_prog_25_method_13_25) rfl (tlt (show p1 < i6 from own_i1 hat hi)).2.2.2) ?_
      show Goes _ _ _ _ T (mkF me_ 28 #[.val (.ref a0), .val (.int p1), .val (.long q2), .second, .val (.long q3), .second, .val (.int i6)] [])
      refine Goes.go (fun _ => XS.aloadN S.here B.x rfl (B.d d_prog_25_method_13_28) rfl rfl) ?_
      show Goes _ _ _ _ T (mkF me_ 29 #[.val (.ref a0), .val (.int p1), .val (.long q2), .second, .val (.long q3), .second, .val (.int i6)] [(.ref a0)])
      refine Goes.getF S B (w10 hw) F_a0_instants d_prog_25_method_13_29 ?_
      intro T S
      show Goes _ _ _ _ T (mkF me_ 32 #[.val (.ref a0), .val (.int p1), .val (.long q2), .second, .val (.long q3), .second, .val (.int i6)] [(.ref gI)])
      refine Goes.go (fun _ => XS.aloadN S.here B.x rfl (B.d d_prog_25_method_13_32) rfl rfl) ?_
      show Goes _ _ _ _ T (mkF me_ 33 #[.val (.ref a0), .val (.int p1), .val (.long q2), .second, .val (.long q3), .second, .val (.int i6)] [(.ref a0), (.ref gI)])
      refine Goes.go (fun _ => XS.iload S.here B.x rfl (B.d d_prog_25_method_13_33) rfl) ?_
      show Goes _ _ _ _ T (mkF me_ 35 #[.val (.ref a0), .val (.int p1), .val (.long q2), .second, .val (.long q3), .second, .val (.int i6)] [(.int i6), (.ref a0), (.ref gI)])
      refine Goes.callP (argsL := [(.int i6)]) (rest := [(.ref gI)]) (W := 1) S B (rm_slot l Z aw hw a0 i6 gI (fun i => (.long (I2 i))) f _ n0 F_a0_first F_a0_instants A_gI) E_a0 (w37 hw) (w39 hw) (w1 hw) (w38 hw) (w2 hw) (w40 hw) (by decide) (by decide) (by decide) (by decide) (by decide) rfl (lenOf pd_0 rfl) rfl (Nat.le_of_eq rfl) d_prog_25_method_13_35 ?_
      intro v T h S hQ
      obtain ⟨rfl, hh⟩ := hQ
      replace hh := hh.symm
      subst hh
      show Goes _ _ _ _ T (mkF me_ 38 #[.val (.ref a0), .val (.int p1), .val (.long q2), .second, .val (.long q3), .second, .val (.int i6)] [(.int ((f + i6) &&& (3 : Int32))), (.ref gI)])
      refine Goes.go (fun _ => XS.aloadN S.here B.x rfl (B.d d_prog_25_method_13_38) rfl rfl) ?_
      show Goes _ _ _ _ T (mkF me_ 39 #[.val (.ref a0), .val (.int p1), .val (.long q2), .second, .val (.long q3), .second, .val (.int i6)] [(.ref a0), (.int ((f + i6) &&& (3 : Int32))), (.ref gI)])
      refine Goes.getF S B (w10 hw) F_a0_instants d_prog_25_method_13_39 ?_
      intro T S
      show Goes _ _ _ _ T (mkF me_ 42 #[.val (.ref a0), .val (.int p1), .val (.long q2), .second, .val (.long q3), .second, .val (.int i6)] [(.ref gI), (.int ((f + i6) &&& (3 : Int32))), (.ref gI)])
      refine Goes.go (fun _ => XS.aloadN S.here B.x rfl (B.d d_prog_25_method_13_42) rfl rfl) ?_
      show Goes _ _ _ _ T (mkF me_ 43 #[.val (.ref a0), .val (.int p1), .val (.long q2), .second, .val (.long q3), .second, .val (.int i6)] [(.ref a0), (.ref gI), (.int ((f + i6) &&& (3 : Int32))), (.ref gI)])
      refine Goes.go (fun _ => XS.iload S.here B.x rfl (B.d d_prog_25_method_13_43) rfl) ?_
      show Goes _ _ _ _ T (mkF me_ 45 #[.val (.ref a0), .val (.int p1), .val (.long q2), .second, .val (.long q3), .second, .val (.int i6)] [(.int i6), (.ref a0), (.ref gI), (.int ((f + i6) &&& (3 : Int32))), (.ref gI)])
      refine Goes.go (fun _ => XS.iconst S.here B.x rfl (B.d d_prog_25_method_13_45)) ?_
      show Goes _ _ _ _ T (mkF me_ 46 #[.val (.ref a0), .val (.int p1), .val (.long q2), .second, .val (.long q3), .second, .val (.int i6)] [(.int (1 : Int32)), (.int i6), (.ref a0), (.ref gI), (.int ((f + i6) &&& (3 : Int32))), (.ref gI)])
      refine Goes.go (fun _ => XS.isub S.here B.x rfl (B.d d_prog_25_method_13_46) rfl) ?_
      show Goes _ _ _ _ T (mkF me_ 47 #[.val (.ref a0), .val (.int p1), .val (.long q2), .second, .val (.long q3), .second, .val (.int i6)] [(.int (i6 - (1 : Int32))), (.ref a0), (.ref gI), (.int ((f + i6) &&& (3 : Int32))), (.ref gI)])
      refine Goes.callP (argsL := [(.int (i6 - (1 : Int32)))]) (rest := [(.ref gI), (.int ((f + i6) &&& (3 : Int32))), (.ref gI)]) (W := 3) S B (rm_slot l Z aw hw a0 (i6 - (1 : Int32)) gI (fun i => (.long (I2 i))) f _ n0 F_a0_first F_a0_instants A_gI) E_a0 (w37 hw) (w39 hw) (w1 hw) (w38 hw) (w2 hw) (w40 hw) (by decide) (by decide) (by decide) (by decide) (by decide) rfl (lenOf pd_0 rfl) rfl (Nat.le_of_eq rfl) d_prog_25_method_13_47 ?_
      intro v T h S hQ
      obtain ⟨rfl, hh⟩ := hQ
      replace hh := hh.symm
      subst hh
      show Goes _ _ _ _ T (mkF me_ 50 #[.val (.ref a0), .val (.int p1), .val (.long q2), .second, .val (.long q3), .second, .val (.int i6)] [(.int ((f + (i6 - (1 : Int32))) &&& (3 : Int32))), (.ref gI), (.int ((f + i6) &&& (3 : Int32))), (.ref gI)])
      refine Goes.laload S B A_gI (own_m3 _).1 (own_m3 _).2 d_prog_25_method_13_50 (v := (.long (I2 ((f + (i6 - (1 : Int32))) &&& (3 : Int32)).toNatClampNeg))) rfl ?_
      show Goes _ _ _ _ T (mkF me_ 51 #[.val (.ref a0), .val (.int p1), .val (.long q2), .second, .val (.long q3), .second, .val (.int i6)] [(.long (I2 ((f + (i6 - (1 : Int32))) &&& (3 : Int32)).toNatClampNeg)), (.int ((f + i6) &&& (3 : Int32))), (.ref gI)])
      refine Goes.lastore S B A_gI (own_m3 _).1 (own_m3 _).2 g_gI d_prog_25_method_13_51 ?_
      intro T h S W A_gI
      replace K := K.wr W (Or.inl (by simp))
      replace E_a0 := E_a0.wr W
      replace F_a0_instants := F_a0_instants.other W (Or.inl ne_a0__gI)
      replace F_a0_lastNumbers := F_a0_lastNumbers.other W (Or.inl ne_a0__gI)
      replace F_a0_first := F_a0_first.other W (Or.inl ne_a0__gI)
      replace F_a0_size := F_a0_size.other W (Or.inl ne_a0__gI)
      replace F_a0_dropped := F_a0_dropped.other W (Or.inl ne_a0__gI)
      replace A_gN := A_gN.other W ne_gI__gN.symm
      replace A_gI : Ary Z h gI .long 4 (aup (fun i => (.long (I2 i))) ((f + i6) &&& (3 : Int32)).toNatClampNeg (.long (I2 ((f + (i6 - (1 : Int32))) &&& (3 : Int32)).toNatClampNeg))) := A_gI
      rw [aup_long] at A_gI
      show Goes _ _ _ _ T (mkF me_ 52 #[.val (.ref a0), .val (.int p1), .val (.long q2), .second, .val (.long q3), .second, .val (.int i6)] [])
      refine Goes.go (fun _ => XS.aloadN S.here B.x rfl (B.d d_prog_25_method_13_52) rfl rfl) ?_
      show Goes _ _ _ _ T (mkF me_ 53 #[.val (.ref a0), .val (.int p1), .val (.long q2), .second, .val (.long q3), .second, .val (.int i6)] [(.ref a0)])
      refine Goes.getF S B (w12 hw) F_a0_lastNumbers d_prog_25_method_13_53 ?_
      intro T S
      show Goes _ _ _ _ T (mkF me_ 56 #[.val (.ref a0), .val (.int p1), .val (.long q2), .second, .val (.long q3), .second, .val (.int i6)] [(.ref gN)])
      refine Goes.go (fun _ => XS.aloadN S.here B.x rfl (B.d d_prog_25_method_13_56) rfl rfl) ?_
      show Goes _ _ _ _ T (mkF me_ 57 #[.val (.ref a0), .val (.int p1), .val (.long q2), .second, .val (.long q3), .second, .val (.int i6)] [(.ref a0), (.ref gN)])
      refine Goes.go (fun _ => XS.iload S.here B.x rfl (B.d d_prog_25_method_13_57) rfl) ?_
      show Goes _ _ _ _ T (mkF me_ 59 #[.val (.ref a0), .val (.int p1), .val (.long q2), .second, .val (.long q3), .second, .val (.int i6)] [(.int i6), (.ref a0), (.ref gN)])
      refine Goes.callP (argsL := [(.int i6)]) (rest := [(.ref gN)]) (W := 1) S B (rm_slot l Z aw hw a0 i6 gI (fun i => (.long ((aup I2 ((f + i6) &&& (3 : Int32)).toNatClampNeg (I2 ((f + (i6 - (1 : Int32))) &&& (3 : Int32)).toNatClampNeg)) i))) f _ n0 F_a0_first F_a0_instants A_gI) E_a0 (w37 hw) (w39 hw) (w1 hw) (w38 hw) (w2 hw) (w40 hw) (by decide) (by decide) (by decide) (by decide) (by decide) rfl (lenOf pd_0 rfl) rfl (Nat.le_of_eq rfl) d_prog_25_method_13_59 ?_
      intro v T h S hQ
      obtain ⟨rfl, hh⟩ := hQ
      replace hh := hh.symm
      subst hh
      show Goes _ _ _ _ T (mkF me_ 62 #[.val (.ref a0), .val (.int p1), .val (.long q2), .second, .val (.long q3), .second, .val (.int i6)] [(.int ((f + i6) &&& (3 : Int32))), (.ref gN)])
      refine Goes.go (fun _ => XS.aloadN S.here B.x rfl (B.d d_prog_25_method_13_62) rfl rfl) ?_
      show Goes _ _ _ _ T (mkF me_ 63 #[.val (.ref a0), .val (.int p1), .val (.long q2), .second, .val (.long q3), .second, .val (.int i6)] [(.ref a0), (.int ((f + i6) &&& (3 : Int32))), (.ref gN)])
      refine Goes.getF S B (w12 hw) F_a0_lastNumbers d_prog_25_method_13_63 ?_
      intro T S
      show Goes _ _ _ _ T (mkF me_ 66 #[.val (.ref a0), .val (.int p1), .val (.long q2), .second, .val (.long q3), .second, .val (.int i6)] [(.ref gN), (.int ((f + i6) &&& (3 : Int32))), (.ref gN)])
      refine Goes.go (fun _ => XS.aloadN S.here B.x rfl (B.d d_prog_25_method_13_66) rfl rfl) ?_
      show Goes _ _ _ _ T (mkF me_ 67 #[.val (.ref a0), .val (.int p1), .val (.long q2), .second, .val (.long q3), .second, .val (.int i6)] [(.ref a0), (.ref gN), (.int ((f + i6) &&& (3 : Int32))), (.ref gN)])
      refine Goes.go (fun _ => XS.iload S.here B.x rfl (B.d d_prog_25_method_13_67) rfl) ?_
      show Goes _ _ _ _ T (mkF me_ 69 #[.val (.ref a0), .val (.int p1), .val (.long q2), .second, .val (.long q3), .second, .val (.int i6)] [(.int i6), (.ref a0), (.ref gN), (.int ((f + i6) &&& (3 : Int32))), (.ref gN)])
      refine Goes.go (fun _ => XS.iconst S.here B.x rfl (B.d d_prog_25_method_13_69)) ?_
      show Goes _ _ _ _ T (mkF me_ 70 #[.val (.ref a0), .val (.int p1), .val (.long q2), .second, .val (.long q3), .second, .val (.int i6)] [(.int (1 : Int32)), (.int i6), (.ref a0), (.ref gN), (.int ((f + i6) &&& (3 : Int32))), (.ref gN)])
      refine Goes.go (fun _ => XS.isub S.here B.x rfl (B.d d_prog_25_method_13_70) rfl) ?_
      show Goes _ _ _ _ T (mkF me_ 71 #[.val (.ref a0), .val (.int p1), .val (.long q2), .second, .val (.long q3), .second, .val (.int i6)] [(.int (i6 - (1 : Int32))), (.ref a0), (.ref gN), (.int ((f + i6) &&& (3 : Int32))), (.ref gN)])
      refine Goes.callP (argsL := [(.int (i6 - (1 : Int32)))]) (rest := [(.ref gN), (.int ((f + i6) &&& (3 : Int32))), (.ref gN)]) (W := 3) S B (rm_slot l Z aw hw a0 (i6 - (1 : Int32)) gI (fun i => (.long ((aup I2 ((f + i6) &&& (3 : Int32)).toNatClampNeg (I2 ((f + (i6 - (1 : Int32))) &&& (3 : Int32)).toNatClampNeg)) i))) f _ n0 F_a0_first F_a0_instants A_gI) E_a0 (w37 hw) (w39 hw) (w1 hw) (w38 hw) (w2 hw) (w40 hw) (by decide) (by decide) (by decide) (by decide) (by decide) rfl (lenOf pd_0 rfl) rfl (Nat.le_of_eq rfl) d_prog_25_method_13_71 ?_
      intro v T h S hQ
      obtain ⟨rfl, hh⟩ := hQ
      replace hh := hh.symm
      subst hh
      show Goes _ _ _ _ T (mkF me_ 74 #[.val (.ref a0), .val (.int p1), .val (.long q2), .second, .val (.long q3), .second, .val (.int i6)] [(.int ((f + (i6 - (1 : Int32))) &&& (3 : Int32))), (.ref gN), (.int ((f + i6) &&& (3 : Int32))), (.ref gN)])
      refine Goes.laload S B A_gN (own_m3 _).1 (own_m3 _).2 d_prog_25_method_13_74 (v := (.long (N2 ((f + (i6 - (1 : Int32))) &&& (3 : Int32)).toNatClampNeg))) rfl ?_
      show Goes _ _ _ _ T (mkF me_ 75 #[.val (.ref a0), .val (.int p1), .val (.long q2), .second, .val (.long q3), .second, .val (.int i6)] [(.long (N2 ((f + (i6 - (1 : Int32))) &&& (3 : Int32)).toNatClampNeg)), (.int ((f + i6) &&& (3 : Int32))), (.ref gN)])
      refine Goes.lastore S B A_gN (own_m3 _).1 (own_m3 _).2 g_gN d_prog_25_method_13_75 ?_
      intro T h S W A_gN
      replace K := K.wr W (Or.inl (by simp))
      replace E_a0 := E_a0.wr W
      replace F_a0_instants := F_a0_instants.other W (Or.inl ne_a0__gN)
      replace F_a0_lastNumbers := F_a0_lastNumbers.other W (Or.inl ne_a0__gN)
      replace F_a0_first := F_a0_first.other W (Or.inl ne_a0__gN)
      replace F_a0_size := F_a0_size.other W (Or.inl ne_a0__gN)
      replace F_a0_dropped := F_a0_dropped.other W (Or.inl ne_a0__gN)
      replace A_gI := A_gI.other W ne_gI__gN
      replace A_gN : Ary Z h gN .long 4 (aup (fun i => (.long (N2 i))) ((f + i6) &&& (3 : Int32)).toNatClampNeg (.long (N2 ((f + (i6 - (1 : Int32))) &&& (3 : Int32)).toNatClampNeg))) := A_gN
      rw [aup_long] at A_gN
      show Goes _ _ _ _ T (mkF me_ 76 #[.val (.ref a0), .val (.int p1), .val (.long q2), .second, .val (.long q3), .second, .val (.int i6)] [])
      refine Goes.go (fun _ => XS.iinc S.here B.x rfl (B.d d_prog_25_method_13_76) rfl (l' := #[.val (.ref a0), .val (.int p1), .val (.long q2), .second, .val (.long q3), .second, .val (.int (i6 + (-1 : Int32)))]) rfl) ?_
      show Goes _ _ _ _ T (mkF me_ 79 #[.val (.ref a0), .val (.int p1), .val (.long q2), .second, .val (.long q3), .second, .val (.int (i6 + (-1 : Int32)))] [])
      refine Goes.go (fun _ => XS.goto S.here B.x rfl (pc0 := 79) (pc' := 22) rfl (B.d d_prog_25_method_13_79) (by decide) (by decide)) ?_
      show Goes _ _ _ _ T (mkF me_ 22 #[.val (.ref a0), .val (.int p1), .val (.long q2), .second, .val (.long q3), .second, .val (.int (i6 + (-1 : Int32)))] [])
      exact ih T _ (i6 + (-1 : Int32)) (aup I2 ((f + i6) &&& (3 : Int32)).toNatClampNeg (I2 ((f + (i6 - (1 : Int32))) &&& (3 : Int32)).toNatClampNeg)) (aup N2 ((f + i6) &&& (3 : Int32)).toNatClampNeg (N2 ((f + (i6 - (1 : Int32))) &&& (3 : Int32)).toNatClampNeg)) S K E_a0 F_a0_instants F_a0_lastNumbers F_a0_first F_a0_size F_a0_dropped A_gI A_gN (own_dec hi (by omega)) (by omega) (own_shs hQ hl hi hkl hsI) (own_shs hQ hl hi hkl hsN)
  exact LP1 (ts.length - kk) T _ sz I N S K E_a0 F_a0_instants F_a0_lastNumbers F_a0_first F_a0_size F_a0_dropped A_gI A_gN (by omega) (by omega) (own_sh0 (by omega)) (own_sh0 (by omega))
theorem ef_rm_add (m : MethodId) (a0 : Addr) (q1 : Int64) (q2 : Int64) : entryFrame m #[(.ref a0), (.long q1), (.long q2)] 7 = mkF m 0 #[.val (.ref a0), .val (.long q1), .second, .val (.long q2), .second, .unset, .unset] [] := by first | (simp [entryFrame, mkF, argsToLocals, Value.category]; done) | rfl
def Q_rm_add (Z : State) (a0 : Addr) (q1 : Int64) (q2 : Int64) (gI : Addr) (gN : Addr) (I : Nat → Int64) (N : Nat → Int64) (f : Int32) (sz : Int32) (d : Int64) (ts : List Int64) (ns : List Int64) (h0 : Heap) (n0 : Nat) (v : Option Value) (h : Heap) : Prop := ∃ (I3 : Nat → Int64) (N3 : Nat → Int64) (s3 : Int32), v = none ∧ Keep h0 h [a0, gI, gN] ∧ Exa Z h a0 "com/example/bucket_brigade/bucketbrigade/PermitLog" ∧ Fld Z h a0 "com/example/bucket_brigade/bucketbrigade/PermitLog" "instants" "[J" (.ref gI) ∧ Fld Z h a0 "com/example/bucket_brigade/bucketbrigade/PermitLog" "lastNumbers" "[J" (.ref gN) ∧ Fld Z h a0 "com/example/bucket_brigade/bucketbrigade/PermitLog" "first" "I" (.int f) ∧ Fld Z h a0 "com/example/bucket_brigade/bucketbrigade/PermitLog" "size" "I" (.int s3) ∧ Fld Z h a0 "com/example/bucket_brigade/bucketbrigade/PermitLog" "dropped" "J" (.long d) ∧ Ary Z h gI .long 4 (fun i => (.long (I3 i))) ∧ Ary Z h gN .long 4 (fun i => (.long (N3 i))) ∧ (own_Q f I3 (own_ti ts q1)) ∧ (own_Q f N3 (own_bump (own_ni d ts ns q1) (own_pos ts q1) q2)) ∧ (s3.toInt = ((own_ti ts q1).length : Int))
set_option maxRecDepth 65536 in
set_option maxHeartbeats 40000000 in
theorem rm_add (l : Launch) (Z : State) (aw : Array Value) (hw : ∀ d ∈ tables_1, d.before aw Z = true) (a0 : Addr) (q1 : Int64) (q2 : Int64) (gI : Addr) (gN : Addr) (I : Nat → Int64) (N : Nat → Int64) (f : Int32) (sz : Int32) (d : Int64) (ts : List Int64) (ns : List Int64) (h0 : Heap) (n0 : Nat) (E_a0 : Exa Z h0 a0 "com/example/bucket_brigade/bucketbrigade/PermitLog") (F_a0_instants : Fld Z h0 a0 "com/example/bucket_brigade/bucketbrigade/PermitLog" "instants" "[J" (.ref gI)) (F_a0_lastNumbers : Fld Z h0 a0 "com/example/bucket_brigade/bucketbrigade/PermitLog" "lastNumbers" "[J" (.ref gN)) (F_a0_first : Fld Z h0 a0 "com/example/bucket_brigade/bucketbrigade/PermitLog" "first" "I" (.int f)) (F_a0_size : Fld Z h0 a0 "com/example/bucket_brigade/bucketbrigade/PermitLog" "size" "I" (.int sz)) (F_a0_dropped : Fld Z h0 a0 "com/example/bucket_brigade/bucketbrigade/PermitLog" "dropped" "J" (.long d)) (A_gI : Ary Z h0 gI .long 4 (fun i => (.long (I i)))) (A_gN : Ary Z h0 gN .long 4 (fun i => (.long (N i)))) (g_a0 : n0 ≤ a0) (g_gI : n0 ≤ gI) (g_gN : n0 ≤ gN) (ne_a0__gI : a0 ≠ gI) (ne_a0__gN : a0 ≠ gN) (ne_gI__gN : gI ≠ gN) (hQ : own_Q f I ts) (hN : own_Q f N ns) (hsz : sz.toInt = (ts.length : Int)) (hll : ns.length = ts.length) (hl : ts.length < 4) (hS : own_S ts) :
    Con l Z (⟨"com/example/bucket_brigade/bucketbrigade/PermitLog", "add", "(JJ)V"⟩ : MethodName) prog_25_method_9_code 7 none ({ frames := 3, cells := 0, slots := 0, locals := 44 } : Room) #[(.ref a0), (.long q1), (.long q2)] h0 n0 (Q_rm_add Z a0 q1 q2 gI gN I N f sz d ts ns h0 n0) := by
  refine Con.body (plainFor_of_name pn_0) ?_
  intro pr_ en_ st_ me_ below meth co_ T B S
  refine Goes.cast (ef_rm_add me_ a0 q1 q2) ?_
  have K : Keep h0 h0 [a0, gI, gN] := Keep.refl _ _
  refine Goes.go (fun _ => XS.aloadN S.here B.x rfl (B.d d_prog_25_method_9_0) rfl rfl) ?_
  show Goes _ _ _ _ T (mkF me_ 1 #[.val (.ref a0), .val (.long q1), .second, .val (.long q2), .second, .unset, .unset] [(.ref a0)])
  refine Goes.go (fun _ => XS.lloadN S.here B.x rfl (B.d d_prog_25_method_9_1) rfl) ?_
  show Goes _ _ _ _ T (mkF me_ 2 #[.val (.ref a0), .val (.long q1), .second, .val (.long q2), .second, .unset, .unset] [(.long q1), (.ref a0)])
  refine Goes.callP (argsL := [(.long q1)]) (rest := []) (W := 0) S B (rm_fao l Z aw hw a0 q1 gI I f sz ts _ n0 E_a0 F_a0_instants F_a0_first F_a0_size A_gI hQ hsz hS) E_a0 (w21 hw) (w23 hw) (w1 hw) (w22 hw) (w2 hw) (w24 hw) (by decide) (by decide) (by decide) (by decide) (by decide) rfl (lenOf pd_2 rfl) rfl (Nat.le_of_eq rfl) d_prog_25_method_9_2 ?_
  intro v T h S hQ
  obtain ⟨rfl, hh⟩ := hQ
  replace hh := hh.symm
  subst hh
  show Goes _ _ _ _ T (mkF me_ 5 #[.val (.ref a0), .val (.long q1), .second, .val (.long q2), .second, .unset, .unset] [(.int (Int32.ofNat (own_pos ts q1)))])
  refine Goes.go (fun _ => XS.istore S.here B.x rfl (B.d d_prog_25_method_9_5) rfl (l' := #[.val (.ref a0), .val (.long q1), .second, .val (.long q2), .second, .val (.int (Int32.ofNat (own_pos ts q1))), .unset]) rfl) ?_
  show Goes _ _ _ _ T (mkF me_ 7 #[.val (.ref a0), .val (.long q1), .second, .val (.long q2), .second, .val (.int (Int32.ofNat (own_pos ts q1))), .unset] [])
  have J1 : ∀ (T : State) (h : Heap) (I2 : Nat → Int64) (N2 : Nat → Int64) (s2 : Int32), Sd pr_ l en_ ({ frames := 3, cells := 0, slots := 0, locals := 44 } : Room) st_ me_ #[(.ref a0), (.long q1), (.long q2)] below meth co_ T h n0 0 0 → Keep h0 h [a0, gI, gN] → Exa Z h a0 "com/example/bucket_brigade/bucketbrigade/PermitLog" → Fld Z h a0 "com/example/bucket_brigade/bucketbrigade/PermitLog" "instants" "[J" (.ref gI) → Fld Z h a0 "com/example/bucket_brigade/bucketbrigade/PermitLog" "lastNumbers" "[J" (.ref gN) → Fld Z h a0 "com/example/bucket_brigade/bucketbrigade/PermitLog" "first" "I" (.int f) → Fld Z h a0 "com/example/bucket_brigade/bucketbrigade/PermitLog" "size" "I" (.int s2) → Fld Z h a0 "com/example/bucket_brigade/bucketbrigade/PermitLog" "dropped" "J" (.long d) → Ary Z h gI .long 4 (fun i => (.long (I2 i))) → Ary Z h gN .long 4 (fun i => (.long (N2 i))) → own_Q f I2 (own_ti ts q1) → own_Q f N2 (own_ni d ts ns q1) → s2.toInt = ((own_ti ts q1).length : Int) → Goes pr_.tables en_ below (Fine st_ n0 (Q_rm_add Z a0 q1 q2 gI gN I N f sz d ts ns h0 n0) ({ frames := 3, cells := 0, slots := 0, locals := 44 } : Room).cells ({ frames := 3, cells := 0, slots := 0, locals := 44 } : Room).slots) T (mkF me_ 40 #[.val (.ref a0), .val (.long q1), .second, .val (.long q2), .second, .val (.int (Int32.ofNat (own_pos ts q1))), .unset] []) := by
    intro T h I2 N2 s2 S K E_a0 F_a0_instants F_a0_lastNumbers F_a0_first F_a0_size F_a0_dropped A_gI A_gN hQ2 hN2 hs2
    refine Goes.go (fun _ => XS.iload S.here B.x rfl (B.d d_prog_25_method_9_40) rfl) ?_
    show Goes _ _ _ _ T (mkF me_ 42 #[.val (.ref a0), .val (.long q1), .second, .val (.long q2), .second, .val (.int (Int32.ofNat (own_pos ts q1))), .unset] [(.int (Int32.ofNat (own_pos ts q1)))])
    refine Goes.go (fun _ => XS.istore S.here B.x rfl (B.d d_prog_25_method_9_42) rfl (l' := #[.val (.ref a0), .val (.long q1), .second, .val (.long q2), .second, .val (.int (Int32.ofNat (own_pos ts q1))), .val (.int (Int32.ofNat (own_pos ts q1)))]) rfl) ?_
    show Goes _ _ _ _ T (mkF me_ 44 #[.val (.ref a0), .val (.long q1), .second, .val (.long q2), .second, .val (.int (Int32.ofNat (own_pos ts q1))), .val (.int (Int32.ofNat (own_pos ts q1)))] [])
    have LP2 : ∀ (k : Nat) (T : State) (h : Heap) (i6 : Int32) (N3 : Nat → Int64), Sd pr_ l en_ ({ frames := 3, cells := 0, slots := 0, locals := 44 } : Room) st_ me_ #[(.ref a0), (.long q1), (.long q2)] below meth co_ T h n0 0 0 → Keep h0 h [a0, gI, gN] → Exa Z h a0 "com/example/bucket_brigade/bucketbrigade/PermitLog" → Fld Z h a0 "com/example/bucket_brigade/bucketbrigade/PermitLog" "instants" "[J" (.ref gI) → Fld Z h a0 "com/example/bucket_brigade/bucketbrigade/PermitLog" "lastNumbers" "[J" (.ref gN) → Fld Z h a0 "com/example/bucket_brigade/bucketbrigade/PermitLog" "first" "I" (.int f) → Fld Z h a0 "com/example/bucket_brigade/bucketbrigade/PermitLog" "size" "I" (.int s2) → Fld Z h a0 "com/example/bucket_brigade/bucketbrigade/PermitLog" "dropped" "J" (.long d) → Ary Z h gI .long 4 (fun i => (.long (I2 i))) → Ary Z h gN .long 4 (fun i => (.long (N3 i))) → k ≤ (own_ti ts q1).length - (own_pos ts q1) → i6.toInt = (((own_ti ts q1).length - k : Nat) : Int) → own_ad f N2 N3 q2 (own_pos ts q1) ((own_ti ts q1).length - k) (own_ti ts q1).length → Goes pr_.tables en_ below (Fine st_ n0 (Q_rm_add Z a0 q1 q2 gI gN I N f sz d ts ns h0 n0) ({ frames := 3, cells := 0, slots := 0, locals := 44 } : Room).cells ({ frames := 3, cells := 0, slots := 0, locals := 44 } : Room).slots) T (mkF me_ 44 #[.val (.ref a0), .val (.long q1), .second, .val (.long q2), .second, .val (.int (Int32.ofNat (own_pos ts q1))), .val (.int i6)] []) := by
      intro k
      induction k with
      | zero =>
        intro T h i6 N3 S K E_a0 F_a0_instants F_a0_lastNumbers F_a0_first F_a0_size F_a0_dropped A_gI A_gN hkl hi ha
        refine Goes.go (fun _ => XS.iload S.here B.x rfl (B.d d_prog_25_method_9_44) rfl) ?_
        show Goes _ _ _ _ T (mkF me_ 46 #[.val (.ref a0), .val (.long q1), .second, .val (.long q2), .second, .val (.int (Int32.ofNat (own_pos ts q1))), .val (.int i6)] [(.int i6)])
        refine Goes.go (fun _ => XS.aloadN S.here B.x rfl (B.d d_prog_25_method_9_46) rfl rfl) ?_
        show Goes _ _ _ _ T (mkF me_ 47 #[.val (.ref a0), .val (.long q1), .second, .val (.long q2), .second, .val (.int (Int32.ofNat (own_pos ts q1))), .val (.int i6)] [(.ref a0), (.int i6)])
        refine Goes.getF S B (w25 hw) F_a0_size d_prog_25_method_9_47 ?_
        intro T S
        show Goes _ _ _ _ T (mkF me_ 50 #[.val (.ref a0), .val (.long q1), .second, .val (.long q2), .second, .val (.int (Int32.ofNat (own_pos ts q1))), .val (.int i6)] [(.int s2), (.int i6)])
        refine Goes.go (fun _ => XS.icmpYes S.here B.x rfl (pc0 := 50) (pc' := 74) rfl (B.d d_prog_25_method_9_50) rfl (flt (show ¬ (i6 < s2) from own_j0 hi hs2)).2.1 (by decide) (by decide)) ?_
        show Goes _ _ _ _ T (mkF me_ 74 #[.val (.ref a0), .val (.long q1), .second, .val (.long q2), .second, .val (.int (Int32.ofNat (own_pos ts q1))), .val (.int i6)] [])
        refine Goes.retV S B d_prog_25_method_9_74 (by decide) (by decide) ?_
        exact ⟨_, _, _, rfl, K, E_a0, F_a0_instants, F_a0_lastNumbers, F_a0_first, F_a0_size, F_a0_dropped, A_gI, A_gN, hQ2, own_adq hQ2 hN2 (own_nil hll) ha, hs2⟩
      | succ k ih =>
        intro T h i6 N3 S K E_a0 F_a0_instants F_a0_lastNumbers F_a0_first F_a0_size F_a0_dropped A_gI A_gN hkl hi ha
        refine Goes.go (fun _ => XS.iload S.here B.x rfl (B.d d_prog_25_method_9_44) rfl) ?_
        show Goes _ _ _ _ T (mkF me_ 46 #[.val (.ref a0), .val (.long q1), .second, .val (.long q2), .second, .val (.int (Int32.ofNat (own_pos ts q1))), .val (.int i6)] [(.int i6)])
        refine Goes.go (fun _ => XS.aloadN S.here B.x rfl (B.d d_prog_25_method_9_46) rfl rfl) ?_
        show Goes _ _ _ _ T (mkF me_ 47 #[.val (.ref a0), .val (.long q1), .second, .val (.long q2), .second, .val (.int (Int32.ofNat (own_pos ts q1))), .val (.int i6)] [(.ref a0), (.int i6)])
        refine Goes.getF S B (w25 hw) F_a0_size d_prog_25_method_9_47 ?_
        intro T S
        show Goes _ _ _ _ T (mkF me_ 50 #[.val (.ref a0), .val (.long q1), .second, .val (.long q2), .second, .val (.int (Int32.ofNat (own_pos ts q1))), .val (.int i6)] [(.int s2), (.int i6)])
        refine Goes.go (fun _ => XS.icmpNo S.here B.x rfl (B.d d_prog_25_method_9_50) rfl (tlt (show i6 < s2 from own_j1 hi hs2 hkl)).2.1) ?_
        show Goes _ _ _ _ T (mkF me_ 53 #[.val (.ref a0), .val (.long q1), .second, .val (.long q2), .second, .val (.int (Int32.ofNat (own_pos ts q1))), .val (.int i6)] [])
        refine Goes.go (fun _ => XS.aloadN S.here B.x rfl (B.d d_prog_25_method_9_53) rfl rfl) ?_
        show Goes _ _ _ _ T (mkF me_ 54 #[.val (.ref a0), .val (.long q1), .second, .val (.long q2), .second, .val (.int (Int32.ofNat (own_pos ts q1))), .val (.int i6)] [(.ref a0)])
        refine Goes.getF S B (w12 hw) F_a0_lastNumbers d_prog_25_method_9_54 ?_
        intro T S
        show Goes _ _ _ _ T (mkF me_ 57 #[.val (.ref a0), .val (.long q1), .second, .val (.long q2), .second, .val (.int (Int32.ofNat (own_pos ts q1))), .val (.int i6)] [(.ref gN)])
        refine Goes.go (fun _ => XS.aloadN S.here B.x rfl (B.d d_prog_25_method_9_57) rfl rfl) ?_
        show Goes _ _ _ _ T (mkF me_ 58 #[.val (.ref a0), .val (.long q1), .second, .val (.long q2), .second, .val (.int (Int32.ofNat (own_pos ts q1))), .val (.int i6)] [(.ref a0), (.ref gN)])
        refine Goes.go (fun _ => XS.iload S.here B.x rfl (B.d d_prog_25_method_9_58) rfl) ?_
        show Goes _ _ _ _ T (mkF me_ 60 #[.val (.ref a0), .val (.long q1), .second, .val (.long q2), .second, .val (.int (Int32.ofNat (own_pos ts q1))), .val (.int i6)] [(.int i6), (.ref a0), (.ref gN)])
        refine Goes.callP (argsL := [(.int i6)]) (rest := [(.ref gN)]) (W := 1) S B (rm_slot l Z aw hw a0 i6 gI (fun i => (.long (I2 i))) f _ n0 F_a0_first F_a0_instants A_gI) E_a0 (w37 hw) (w39 hw) (w1 hw) (w38 hw) (w2 hw) (w40 hw) (by decide) (by decide) (by decide) (by decide) (by decide) rfl (lenOf pd_0 rfl) rfl (Nat.le_of_eq rfl) d_prog_25_method_9_60 ?_
        intro v T h S hQ
        obtain ⟨rfl, hh⟩ := hQ
        replace hh := hh.symm
        subst hh
        show Goes _ _ _ _ T (mkF me_ 63 #[.val (.ref a0), .val (.long q1), .second, .val (.long q2), .second, .val (.int (Int32.ofNat (own_pos ts q1))), .val (.int i6)] [(.int ((f + i6) &&& (3 : Int32))), (.ref gN)])
        refine Goes.go (fun _ => XT.dup2 S.here B.x rfl (B.d d_prog_25_method_9_63) rfl rfl rfl) ?_
        show Goes _ _ _ _ T (mkF me_ 64 #[.val (.ref a0), .val (.long q1), .second, .val (.long q2), .second, .val (.int (Int32.ofNat (own_pos ts q1))), .val (.int i6)] [(.int ((f + i6) &&& (3 : Int32))), (.ref gN), (.int ((f + i6) &&& (3 : Int32))), (.ref gN)])
        refine Goes.laload S B A_gN (own_m3 _).1 (own_m3 _).2 d_prog_25_method_9_64 (v := (.long (N3 ((f + i6) &&& (3 : Int32)).toNatClampNeg))) rfl ?_
        show Goes _ _ _ _ T (mkF me_ 65 #[.val (.ref a0), .val (.long q1), .second, .val (.long q2), .second, .val (.int (Int32.ofNat (own_pos ts q1))), .val (.int i6)] [(.long (N3 ((f + i6) &&& (3 : Int32)).toNatClampNeg)), (.int ((f + i6) &&& (3 : Int32))), (.ref gN)])
        refine Goes.go (fun _ => XS.lloadN S.here B.x rfl (B.d d_prog_25_method_9_65) rfl) ?_
        show Goes _ _ _ _ T (mkF me_ 66 #[.val (.ref a0), .val (.long q1), .second, .val (.long q2), .second, .val (.int (Int32.ofNat (own_pos ts q1))), .val (.int i6)] [(.long q2), (.long (N3 ((f + i6) &&& (3 : Int32)).toNatClampNeg)), (.int ((f + i6) &&& (3 : Int32))), (.ref gN)])
        refine Goes.go (fun _ => XS.ladd S.here B.x rfl (B.d d_prog_25_method_9_66) rfl) ?_
        show Goes _ _ _ _ T (mkF me_ 67 #[.val (.ref a0), .val (.long q1), .second, .val (.long q2), .second, .val (.int (Int32.ofNat (own_pos ts q1))), .val (.int i6)] [(.long ((N3 ((f + i6) &&& (3 : Int32)).toNatClampNeg) + q2)), (.int ((f + i6) &&& (3 : Int32))), (.ref gN)])
        refine Goes.lastore S B A_gN (own_m3 _).1 (own_m3 _).2 g_gN d_prog_25_method_9_67 ?_
        intro T h S W A_gN
        replace K := K.wr W (Or.inl (by simp))
        replace E_a0 := E_a0.wr W
        replace F_a0_instants := F_a0_instants.other W (Or.inl ne_a0__gN)
        replace F_a0_lastNumbers := F_a0_lastNumbers.other W (Or.inl ne_a0__gN)
        replace F_a0_first := F_a0_first.other W (Or.inl ne_a0__gN)
        replace F_a0_size := F_a0_size.other W (Or.inl ne_a0__gN)
        replace F_a0_dropped := F_a0_dropped.other W (Or.inl ne_a0__gN)
        replace A_gI := A_gI.other W ne_gI__gN
        replace A_gN : Ary Z h gN .long 4 (aup (fun i => (.long (N3 i))) ((f + i6) &&& (3 : Int32)).toNatClampNeg (.long ((N3 ((f + i6) &&& (3 : Int32)).toNatClampNeg) + q2))) := A_gN
        rw [aup_long] at A_gN
        show Goes _ _ _ _ T (mkF me_ 68 #[.val (.ref a0), .val (.long q1), .second, .val (.long q2), .second, .val (.int (Int32.ofNat (own_pos ts q1))), .val (.int i6)] [])
        refine Goes.go (fun _ => XS.iinc S.here B.x rfl (B.d d_prog_25_method_9_68) rfl (l' := #[.val (.ref a0), .val (.long q1), .second, .val (.long q2), .second, .val (.int (Int32.ofNat (own_pos ts q1))), .val (.int (i6 + (1 : Int32)))]) rfl) ?_
        show Goes _ _ _ _ T (mkF me_ 71 #[.val (.ref a0), .val (.long q1), .second, .val (.long q2), .second, .val (.int (Int32.ofNat (own_pos ts q1))), .val (.int (i6 + (1 : Int32)))] [])
        refine Goes.go (fun _ => XS.goto S.here B.x rfl (pc0 := 71) (pc' := 44) rfl (B.d d_prog_25_method_9_71) (by decide) (by decide)) ?_
        show Goes _ _ _ _ T (mkF me_ 44 #[.val (.ref a0), .val (.long q1), .second, .val (.long q2), .second, .val (.int (Int32.ofNat (own_pos ts q1))), .val (.int (i6 + (1 : Int32)))] [])
        exact ih T _ (i6 + (1 : Int32)) (aup N3 ((f + i6) &&& (3 : Int32)).toNatClampNeg ((N3 ((f + i6) &&& (3 : Int32)).toNatClampNeg) + q2)) S K E_a0 F_a0_instants F_a0_lastNumbers F_a0_first F_a0_size F_a0_dropped A_gI A_gN (by omega) (own_inc hQ2 hkl hi) (own_ads hQ2 hkl hi ha)
    exact LP2 ((own_ti ts q1).length - (own_pos ts q1)) T _ (Int32.ofNat (own_pos ts q1)) N2 S K E_a0 F_a0_instants F_a0_lastNumbers F_a0_first F_a0_size F_a0_dropped A_gI A_gN (Nat.le_refl _) (own_st hl) (own_ad0 own_tle)
  refine Goes.go (fun _ => XS.iload S.here B.x rfl (B.d d_prog_25_method_9_7) rfl) ?_
  show Goes _ _ _ _ T (mkF me_ 9 #[.val (.ref a0), .val (.long q1), .second, .val (.long q2), .second, .val (.int (Int32.ofNat (own_pos ts q1))), .unset] [(.int (Int32.ofNat (own_pos ts q1)))])
  refine Goes.go (fun _ => XS.aloadN S.here B.x rfl (B.d d_prog_25_method_9_9) rfl rfl) ?_
  show Goes _ _ _ _ T (mkF me_ 10 #[.val (.ref a0), .val (.long q1), .second, .val (.long q2), .second, .val (.int (Int32.ofNat (own_pos ts q1))), .unset] [(.ref a0), (.int (Int32.ofNat (own_pos ts q1)))])
  refine Goes.getF S B (w25 hw) F_a0_size d_prog_25_method_9_10 ?_
  intro T S
  show Goes _ _ _ _ T (mkF me_ 13 #[.val (.ref a0), .val (.long q1), .second, .val (.long q2), .second, .val (.int (Int32.ofNat (own_pos ts q1))), .unset] [(.int sz), (.int (Int32.ofNat (own_pos ts q1)))])
  by_cases hc13 : (Int32.ofNat (own_pos ts q1)) = sz
  · skip
    refine Goes.go (fun _ => XS.icmpYes S.here B.x rfl (pc0 := 13) (pc' := 27) rfl (B.d d_prog_25_method_9_13) rfl (teq hc13).1 (by decide) (by decide)) ?_
    show Goes _ _ _ _ T (mkF me_ 27 #[.val (.ref a0), .val (.long q1), .second, .val (.long q2), .second, .val (.int (Int32.ofNat (own_pos ts q1))), .unset] [])
    refine Goes.go (fun _ => XS.aloadN S.here B.x rfl (B.d d_prog_25_method_9_27) rfl rfl) ?_
    show Goes _ _ _ _ T (mkF me_ 28 #[.val (.ref a0), .val (.long q1), .second, .val (.long q2), .second, .val (.int (Int32.ofNat (own_pos ts q1))), .unset] [(.ref a0)])
    refine Goes.go (fun _ => XS.iload S.here B.x rfl (B.d d_prog_25_method_9_28) rfl) ?_
    show Goes _ _ _ _ T (mkF me_ 30 #[.val (.ref a0), .val (.long q1), .second, .val (.long q2), .second, .val (.int (Int32.ofNat (own_pos ts q1))), .unset] [(.int (Int32.ofNat (own_pos ts q1))), (.ref a0)])
    refine Goes.go (fun _ => XS.lloadN S.here B.x rfl (B.d d_prog_25_method_9_30) rfl) ?_
    show Goes _ _ _ _ T (mkF me_ 31 #[.val (.ref a0), .val (.long q1), .second, .val (.long q2), .second, .val (.int (Int32.ofNat (own_pos ts q1))), .unset] [(.long q1), (.int (Int32.ofNat (own_pos ts q1))), (.ref a0)])
    refine Goes.go (fun _ => XS.aloadN S.here B.x rfl (B.d d_prog_25_method_9_31) rfl rfl) ?_
    show Goes _ _ _ _ T (mkF me_ 32 #[.val (.ref a0), .val (.long q1), .second, .val (.long q2), .second, .val (.int (Int32.ofNat (own_pos ts q1))), .unset] [(.ref a0), (.long q1), (.int (Int32.ofNat (own_pos ts q1))), (.ref a0)])
    refine Goes.go (fun _ => XS.iload S.here B.x rfl (B.d d_prog_25_method_9_32) rfl) ?_
    show Goes _ _ _ _ T (mkF me_ 34 #[.val (.ref a0), .val (.long q1), .second, .val (.long q2), .second, .val (.int (Int32.ofNat (own_pos ts q1))), .unset] [(.int (Int32.ofNat (own_pos ts q1))), (.ref a0), (.long q1), (.int (Int32.ofNat (own_pos ts q1))), (.ref a0)])
    refine Goes.callP (argsL := [(.int (Int32.ofNat (own_pos ts q1)))]) (rest := [(.long q1), (.int (Int32.ofNat (own_pos ts q1))), (.ref a0)]) (W := 4) S B (rm_nb l Z aw hw a0 (Int32.ofNat (own_pos ts q1)) gI gN (fun i => (.long (I i))) N f d _ n0 E_a0 F_a0_instants F_a0_lastNumbers F_a0_first F_a0_dropped A_gI A_gN) E_a0 (w27 hw) (w29 hw) (w1 hw) (w28 hw) (w2 hw) (w30 hw) (by decide) (by decide) (by decide) (by decide) (by decide) rfl (lenOf pd_1 rfl) rfl (Nat.le_of_eq rfl) d_prog_25_method_9_34 ?_
    intro v T h S hQ
    obtain ⟨rfl, hh⟩ := hQ
    replace hh := hh.symm
    subst hh
    show Goes _ _ _ _ T (mkF me_ 37 #[.val (.ref a0), .val (.long q1), .second, .val (.long q2), .second, .val (.int (Int32.ofNat (own_pos ts q1))), .unset] [(.long (own_nbf (Int32.ofNat (own_pos ts q1)) d (N ((f + ((Int32.ofNat (own_pos ts q1)) - (1 : Int32))) &&& (3 : Int32)).toNatClampNeg))), (.long q1), (.int (Int32.ofNat (own_pos ts q1))), (.ref a0)])
    refine Goes.callP (argsL := [(.int (Int32.ofNat (own_pos ts q1))), (.long q1), (.long (own_nbf (Int32.ofNat (own_pos ts q1)) d (N ((f + ((Int32.ofNat (own_pos ts q1)) - (1 : Int32))) &&& (3 : Int32)).toNatClampNeg)))]) (rest := []) (W := 0) S B (rm_insert l Z aw hw a0 (Int32.ofNat (own_pos ts q1)) q1 (own_nbf (Int32.ofNat (own_pos ts q1)) d (N ((f + ((Int32.ofNat (own_pos ts q1)) - (1 : Int32))) &&& (3 : Int32)).toNatClampNeg)) gI gN I N f sz d ts ns (own_pos ts q1) _ n0 E_a0 F_a0_instants F_a0_lastNumbers F_a0_first F_a0_size F_a0_dropped A_gI A_gN g_a0 g_gI g_gN ne_a0__gI ne_a0__gN ne_gI__gN hQ hN hsz hll hl (own_pat hl) (own_ple ts q1)) E_a0 (w33 hw) (w35 hw) (w1 hw) (w34 hw) (w2 hw) (w36 hw) (by decide) (by decide) (by decide) (by decide) (by decide) rfl (lenOf pd_3 rfl) rfl (Nat.le_of_eq rfl) d_prog_25_method_9_37 ?_
    intro v T h S hQ
    obtain ⟨u3, u4, rfl, Kc, E_a0', F_a0_instants', F_a0_lastNumbers', F_a0_first', F_a0_size', F_a0_dropped', A_gI', A_gN', hQ2_37, hN2_37⟩ := hQ
    replace K := K.trans Kc (allS (Or.inl (by simp)) (allS (Or.inl (by simp)) (allS (Or.inl (by simp)) all0)))
    replace E_a0 := E_a0'
    replace F_a0_instants := F_a0_instants'
    replace F_a0_lastNumbers := F_a0_lastNumbers'
    replace F_a0_first := F_a0_first'
    replace F_a0_size := F_a0_size'
    replace F_a0_dropped := F_a0_dropped'
    replace A_gI := A_gI'
    replace A_gN := A_gN'
    show Goes _ _ _ _ T (mkF me_ 40 #[.val (.ref a0), .val (.long q1), .second, .val (.long q2), .second, .val (.int (Int32.ofNat (own_pos ts q1))), .unset] [])
    exact J1 T _ u3 u4 (sz + (1 : Int32)) S K E_a0 F_a0_instants F_a0_lastNumbers F_a0_first F_a0_size F_a0_dropped A_gI A_gN (own_ti2 (own_nf1 hQ hsz hc13) hQ2_37) (own_ni2 (own_nf1 hQ hsz hc13) hQ hN hll hl hN2_37) (own_sz2 (own_nf1 hQ hsz hc13) hsz hl)
  · skip
    refine Goes.go (fun _ => XS.icmpNo S.here B.x rfl (B.d d_prog_25_method_9_13) rfl (feq hc13).1) ?_
    show Goes _ _ _ _ T (mkF me_ 16 #[.val (.ref a0), .val (.long q1), .second, .val (.long q2), .second, .val (.int (Int32.ofNat (own_pos ts q1))), .unset] [])
    refine Goes.go (fun _ => XS.aloadN S.here B.x rfl (B.d d_prog_25_method_9_16) rfl rfl) ?_
    show Goes _ _ _ _ T (mkF me_ 17 #[.val (.ref a0), .val (.long q1), .second, .val (.long q2), .second, .val (.int (Int32.ofNat (own_pos ts q1))), .unset] [(.ref a0)])
    refine Goes.go (fun _ => XS.iload S.here B.x rfl (B.d d_prog_25_method_9_17) rfl) ?_
    show Goes _ _ _ _ T (mkF me_ 19 #[.val (.ref a0), .val (.long q1), .second, .val (.long q2), .second, .val (.int (Int32.ofNat (own_pos ts q1))), .unset] [(.int (Int32.ofNat (own_pos ts q1))), (.ref a0)])
    refine Goes.callP (argsL := [(.int (Int32.ofNat (own_pos ts q1)))]) (rest := []) (W := 0) S B (rm_instant l Z aw hw a0 (Int32.ofNat (own_pos ts q1)) gI I f _ n0 E_a0 F_a0_first F_a0_instants A_gI) E_a0 (w43 hw) (w45 hw) (w1 hw) (w44 hw) (w2 hw) (w46 hw) (by decide) (by decide) (by decide) (by decide) (by decide) rfl (lenOf pd_1 rfl) rfl (Nat.le_of_eq rfl) d_prog_25_method_9_19 ?_
    intro v T h S hQ
    obtain ⟨rfl, hh⟩ := hQ
    replace hh := hh.symm
    subst hh
    show Goes _ _ _ _ T (mkF me_ 22 #[.val (.ref a0), .val (.long q1), .second, .val (.long q2), .second, .val (.int (Int32.ofNat (own_pos ts q1))), .unset] [(.long (I ((f + (Int32.ofNat (own_pos ts q1))) &&& (3 : Int32)).toNatClampNeg))])
    refine Goes.go (fun _ => XS.lloadN S.here B.x rfl (B.d d_prog_25_method_9_22) rfl) ?_
    show Goes _ _ _ _ T (mkF me_ 23 #[.val (.ref a0), .val (.long q1), .second, .val (.long q2), .second, .val (.int (Int32.ofNat (own_pos ts q1))), .unset] [(.long q1), (.long (I ((f + (Int32.ofNat (own_pos ts q1))) &&& (3 : Int32)).toNatClampNeg))])
    refine Goes.go (fun _ => XS.lcmp S.here B.x rfl (B.d d_prog_25_method_9_23) rfl) ?_
    show Goes _ _ _ _ T (mkF me_ 24 #[.val (.ref a0), .val (.long q1), .second, .val (.long q2), .second, .val (.int (Int32.ofNat (own_pos ts q1))), .unset] [(.int (lcmpW (I ((f + (Int32.ofNat (own_pos ts q1))) &&& (3 : Int32)).toNatClampNeg) q1))])
    by_cases hc24 : (I ((f + (Int32.ofNat (own_pos ts q1))) &&& (3 : Int32)).toNatClampNeg) = q1
    · skip
      refine Goes.go (fun _ => XS.ifYes S.here B.x rfl (pc0 := 24) (pc' := 40) rfl (B.d d_prog_25_method_9_24) rfl ((if0 _ _).trans (teq ((lw_eq (I ((f + (Int32.ofNat (own_pos ts q1))) &&& (3 : Int32)).toNatClampNeg) q1).mpr hc24)).1) (by decide) (by decide)) ?_
      show Goes _ _ _ _ T (mkF me_ 40 #[.val (.ref a0), .val (.long q1), .second, .val (.long q2), .second, .val (.int (Int32.ofNat (own_pos ts q1))), .unset] [])
      exact J1 T _ I N sz S K E_a0 F_a0_instants F_a0_lastNumbers F_a0_first F_a0_size F_a0_dropped A_gI A_gN (own_ti1 hQ (own_fd hQ hsz hc13 hc24)) (own_ni1 hN (own_fd hQ hsz hc13 hc24)) (own_sz1 hsz (own_fd hQ hsz hc13 hc24))
    · skip
      refine Goes.go (fun _ => XS.ifNo S.here B.x rfl (B.d d_prog_25_method_9_24) rfl ((if0 _ _).trans (feq (mt (lw_eq (I ((f + (Int32.ofNat (own_pos ts q1))) &&& (3 : Int32)).toNatClampNeg) q1).mp hc24)).1)) ?_
      show Goes _ _ _ _ T (mkF me_ 27 #[.val (.ref a0), .val (.long q1), .second, .val (.long q2), .second, .val (.int (Int32.ofNat (own_pos ts q1))), .unset] [])
      refine Goes.go (fun _ => XS.aloadN S.here B.x rfl (B.d d_prog_25_method_9_27) rfl rfl) ?_
      show Goes _ _ _ _ T (mkF me_ 28 #[.val (.ref a0), .val (.long q1), .second, .val (.long q2), .second, .val (.int (Int32.ofNat (own_pos ts q1))), .unset] [(.ref a0)])
      refine Goes.go (fun _ => XS.iload S.here B.x rfl (B.d d_prog_25_method_9_28) rfl) ?_
      show Goes _ _ _ _ T (mkF me_ 30 #[.val (.ref a0), .val (.long q1), .second, .val (.long q2), .second, .val (.int (Int32.ofNat (own_pos ts q1))), .unset] [(.int (Int32.ofNat (own_pos ts q1))), (.ref a0)])
      refine Goes.go (fun _ => XS.lloadN S.here B.x rfl (B.d d_prog_25_method_9_30) rfl) ?_
      show Goes _ _ _ _ T (mkF me_ 31 #[.val (.ref a0), .val (.long q1), .second, .val (.long q2), .second, .val (.int (Int32.ofNat (own_pos ts q1))), .unset] [(.long q1), (.int (Int32.ofNat (own_pos ts q1))), (.ref a0)])
      refine Goes.go (fun _ => XS.aloadN S.here B.x rfl (B.d d_prog_25_method_9_31) rfl rfl) ?_
      show Goes _ _ _ _ T (mkF me_ 32 #[.val (.ref a0), .val (.long q1), .second, .val (.long q2), .second, .val (.int (Int32.ofNat (own_pos ts q1))), .unset] [(.ref a0), (.long q1), (.int (Int32.ofNat (own_pos ts q1))), (.ref a0)])
      refine Goes.go (fun _ => XS.iload S.here B.x rfl (B.d d_prog_25_method_9_32) rfl) ?_
      show Goes _ _ _ _ T (mkF me_ 34 #[.val (.ref a0), .val (.long q1), .second, .val (.long q2), .second, .val (.int (Int32.ofNat (own_pos ts q1))), .unset] [(.int (Int32.ofNat (own_pos ts q1))), (.ref a0), (.long q1), (.int (Int32.ofNat (own_pos ts q1))), (.ref a0)])
      refine Goes.callP (argsL := [(.int (Int32.ofNat (own_pos ts q1)))]) (rest := [(.long q1), (.int (Int32.ofNat (own_pos ts q1))), (.ref a0)]) (W := 4) S B (rm_nb l Z aw hw a0 (Int32.ofNat (own_pos ts q1)) gI gN (fun i => (.long (I i))) N f d _ n0 E_a0 F_a0_instants F_a0_lastNumbers F_a0_first F_a0_dropped A_gI A_gN) E_a0 (w27 hw) (w29 hw) (w1 hw) (w28 hw) (w2 hw) (w30 hw) (by decide) (by decide) (by decide) (by decide) (by decide) rfl (lenOf pd_1 rfl) rfl (Nat.le_of_eq rfl) d_prog_25_method_9_34 ?_
      intro v T h S hQ
      obtain ⟨rfl, hh⟩ := hQ
      replace hh := hh.symm
      subst hh
      show Goes _ _ _ _ T (mkF me_ 37 #[.val (.ref a0), .val (.long q1), .second, .val (.long q2), .second, .val (.int (Int32.ofNat (own_pos ts q1))), .unset] [(.long (own_nbf (Int32.ofNat (own_pos ts q1)) d (N ((f + ((Int32.ofNat (own_pos ts q1)) - (1 : Int32))) &&& (3 : Int32)).toNatClampNeg))), (.long q1), (.int (Int32.ofNat (own_pos ts q1))), (.ref a0)])
      refine Goes.callP (argsL := [(.int (Int32.ofNat (own_pos ts q1))), (.long q1), (.long (own_nbf (Int32.ofNat (own_pos ts q1)) d (N ((f + ((Int32.ofNat (own_pos ts q1)) - (1 : Int32))) &&& (3 : Int32)).toNatClampNeg)))]) (rest := []) (W := 0) S B (rm_insert l Z aw hw a0 (Int32.ofNat (own_pos ts q1)) q1 (own_nbf (Int32.ofNat (own_pos ts q1)) d (N ((f + ((Int32.ofNat (own_pos ts q1)) - (1 : Int32))) &&& (3 : Int32)).toNatClampNeg)) gI gN I N f sz d ts ns (own_pos ts q1) _ n0 E_a0 F_a0_instants F_a0_lastNumbers F_a0_first F_a0_size F_a0_dropped A_gI A_gN g_a0 g_gI g_gN ne_a0__gI ne_a0__gN ne_gI__gN hQ hN hsz hll hl (own_pat hl) (own_ple ts q1)) E_a0 (w33 hw) (w35 hw) (w1 hw) (w34 hw) (w2 hw) (w36 hw) (by decide) (by decide) (by decide) (by decide) (by decide) rfl (lenOf pd_3 rfl) rfl (Nat.le_of_eq rfl) d_prog_25_method_9_37 ?_
      intro v T h S hQ
      obtain ⟨u5, u6, rfl, Kc, E_a0', F_a0_instants', F_a0_lastNumbers', F_a0_first', F_a0_size', F_a0_dropped', A_gI', A_gN', hQ2_37, hN2_37⟩ := hQ
      replace K := K.trans Kc (allS (Or.inl (by simp)) (allS (Or.inl (by simp)) (allS (Or.inl (by simp)) all0)))
      replace E_a0 := E_a0'
      replace F_a0_instants := F_a0_instants'
      replace F_a0_lastNumbers := F_a0_lastNumbers'
      replace F_a0_first := F_a0_first'
      replace F_a0_size := F_a0_size'
      replace F_a0_dropped := F_a0_dropped'
      replace A_gI := A_gI'
      replace A_gN := A_gN'
      show Goes _ _ _ _ T (mkF me_ 40 #[.val (.ref a0), .val (.long q1), .second, .val (.long q2), .second, .val (.int (Int32.ofNat (own_pos ts q1))), .unset] [])
      exact J1 T _ u5 u6 (sz + (1 : Int32)) S K E_a0 F_a0_instants F_a0_lastNumbers F_a0_first F_a0_size F_a0_dropped A_gI A_gN (own_ti2 (own_nf2 hQ hsz hc13 hc24) hQ2_37) (own_ni2 (own_nf2 hQ hsz hc13 hc24) hQ hN hll hl hN2_37) (own_sz2 (own_nf2 hQ hsz hc13 hc24) hsz hl)
theorem ef_rm_keep (m : MethodId) (a0 : Addr) (q1 : Int64) : entryFrame m #[(.ref a0), (.long q1)] 7 = mkF m 0 #[.val (.ref a0), .val (.long q1), .second, .unset, .unset, .unset, .unset] [] := by first | (simp [entryFrame, mkF, argsToLocals, Value.category]; done) | rfl
def Q_rm_keep (Z : State) (a0 : Addr) (q1 : Int64) (gI : Addr) (gN : Addr) (I : Nat → Int64) (N : Nat → Int64) (f : Int32) (sz : Int32) (d : Int64) (ts : List Int64) (ns : List Int64) (h0 : Heap) (n0 : Nat) (v : Option Value) (h : Heap) : Prop := ∃ (f3 : Int32) (s3 : Int32) (d3 : Int64) (ts3 : List Int64) (ns3 : List Int64), v = none ∧ Keep h0 h [a0] ∧ Exa Z h a0 "com/example/bucket_brigade/bucketbrigade/PermitLog" ∧ Fld Z h a0 "com/example/bucket_brigade/bucketbrigade/PermitLog" "instants" "[J" (.ref gI) ∧ Fld Z h a0 "com/example/bucket_brigade/bucketbrigade/PermitLog" "lastNumbers" "[J" (.ref gN) ∧ Fld Z h a0 "com/example/bucket_brigade/bucketbrigade/PermitLog" "first" "I" (.int f3) ∧ Fld Z h a0 "com/example/bucket_brigade/bucketbrigade/PermitLog" "size" "I" (.int s3) ∧ Fld Z h a0 "com/example/bucket_brigade/bucketbrigade/PermitLog" "dropped" "J" (.long d3) ∧ Ary Z h gI .long 4 (fun i => (.long (I i))) ∧ Ary Z h gN .long 4 (fun i => (.long (N i))) ∧ ((d3, ts3, ns3) = own_kp d ts ns ((own_tt d ns) - q1)) ∧ (own_Q f3 I ts3) ∧ (own_Q f3 N ns3) ∧ (s3.toInt = (ts3.length : Int)) ∧ (ns3.length = ts3.length) ∧ (own_M d3 ns3)
set_option maxRecDepth 65536 in
set_option maxHeartbeats 40000000 in
theorem rm_keep (l : Launch) (Z : State) (aw : Array Value) (hw : ∀ d ∈ tables_1, d.before aw Z = true) (a0 : Addr) (q1 : Int64) (gI : Addr) (gN : Addr) (I : Nat → Int64) (N : Nat → Int64) (f : Int32) (sz : Int32) (d : Int64) (ts : List Int64) (ns : List Int64) (h0 : Heap) (n0 : Nat) (E_a0 : Exa Z h0 a0 "com/example/bucket_brigade/bucketbrigade/PermitLog") (F_a0_instants : Fld Z h0 a0 "com/example/bucket_brigade/bucketbrigade/PermitLog" "instants" "[J" (.ref gI)) (F_a0_lastNumbers : Fld Z h0 a0 "com/example/bucket_brigade/bucketbrigade/PermitLog" "lastNumbers" "[J" (.ref gN)) (F_a0_first : Fld Z h0 a0 "com/example/bucket_brigade/bucketbrigade/PermitLog" "first" "I" (.int f)) (F_a0_size : Fld Z h0 a0 "com/example/bucket_brigade/bucketbrigade/PermitLog" "size" "I" (.int sz)) (F_a0_dropped : Fld Z h0 a0 "com/example/bucket_brigade/bucketbrigade/PermitLog" "dropped" "J" (.long d)) (A_gI : Ary Z h0 gI .long 4 (fun i => (.long (I i)))) (A_gN : Ary Z h0 gN .long 4 (fun i => (.long (N i)))) (g_a0 : n0 ≤ a0) (ne_a0__gI : a0 ≠ gI) (ne_a0__gN : a0 ≠ gN) (ne_gI__gN : gI ≠ gN) (hQ : own_Q f I ts) (hN : own_Q f N ns) (hsz : sz.toInt = (ts.length : Int)) (hll : ns.length = ts.length) (hM : own_M d ns) (hq : 0 ≤ q1.toInt) :
    Con l Z (⟨"com/example/bucket_brigade/bucketbrigade/PermitLog", "keepNewest", "(J)V"⟩ : MethodName) prog_25_method_10_code 7 none ({ frames := 3, cells := 0, slots := 0, locals := 40 } : Room) #[(.ref a0), (.long q1)] h0 n0 (Q_rm_keep Z a0 q1 gI gN I N f sz d ts ns h0 n0) := by
  refine Con.body (plainFor_of_name pn_0) ?_
  intro pr_ en_ st_ me_ below meth co_ T B S
  refine Goes.cast (ef_rm_keep me_ a0 q1) ?_
  have K : Keep h0 h0 [a0] := Keep.refl _ _
  refine Goes.go (fun _ => XS.aloadN S.here B.x rfl (B.d d_prog_25_method_10_0) rfl rfl) ?_
  show Goes _ _ _ _ T (mkF me_ 1 #[.val (.ref a0), .val (.long q1), .second, .unset, .unset, .unset, .unset] [(.ref a0)])
  refine Goes.callV (argsL := []) (rest := []) (W := 0) S B (rm_permits l Z aw hw a0 gI gN (fun i => (.long (I i))) N f sz d _ n0 E_a0 F_a0_instants F_a0_lastNumbers F_a0_first F_a0_size F_a0_dropped A_gI A_gN) E_a0 (w56 hw) (w57 hw) (w59 hw) (w58 hw) (w2 hw) (w60 hw) (by decide) (by decide) (by decide) (by decide) (by decide) rfl (lenOf pd_4 rfl) rfl (Nat.le_of_eq rfl) d_prog_25_method_10_1 ?_
  intro v T h S hQ
  obtain ⟨rfl, hh⟩ := hQ
  replace hh := hh.symm
  subst hh
  show Goes _ _ _ _ T (mkF me_ 4 #[.val (.ref a0), .val (.long q1), .second, .unset, .unset, .unset, .unset] [(.long (own_perm sz d (N ((f + (sz - (1 : Int32))) &&& (3 : Int32)).toNatClampNeg)))])
  refine Goes.go (fun _ => XS.lloadN S.here B.x rfl (B.d d_prog_25_method_10_4) rfl) ?_
  show Goes _ _ _ _ T (mkF me_ 5 #[.val (.ref a0), .val (.long q1), .second, .unset, .unset, .unset, .unset] [(.long q1), (.long (own_perm sz d (N ((f + (sz - (1 : Int32))) &&& (3 : Int32)).toNatClampNeg)))])
  refine Goes.go (fun _ => XS.lsub S.here B.x rfl (B.d d_prog_25_method_10_5) rfl) ?_
  show Goes _ _ _ _ T (mkF me_ 6 #[.val (.ref a0), .val (.long q1), .second, .unset, .unset, .unset, .unset] [(.long ((own_perm sz d (N ((f + (sz - (1 : Int32))) &&& (3 : Int32)).toNatClampNeg)) - q1))])
  refine Goes.go (fun _ => XS.lstoreN S.here B.x rfl (B.d d_prog_25_method_10_6) rfl (l' := #[.val (.ref a0), .val (.long q1), .second, .val (.long ((own_perm sz d (N ((f + (sz - (1 : Int32))) &&& (3 : Int32)).toNatClampNeg)) - q1)), .second, .unset, .unset]) rfl) ?_
  show Goes _ _ _ _ T (mkF me_ 7 #[.val (.ref a0), .val (.long q1), .second, .val (.long ((own_perm sz d (N ((f + (sz - (1 : Int32))) &&& (3 : Int32)).toNatClampNeg)) - q1)), .second, .unset, .unset] [])
  have LP1 : ∀ (k : Nat) (T : State) (h : Heap) (e3 : Int64) (s5 : Slot) (s6 : Slot) (f2 : Int32) (s2 : Int32) (d2 : Int64) (ts2 : List Int64) (ns2 : List Int64), Sd pr_ l en_ ({ frames := 3, cells := 0, slots := 0, locals := 40 } : Room) st_ me_ #[(.ref a0), (.long q1)] below meth co_ T h n0 0 0 → Keep h0 h [a0] → Exa Z h a0 "com/example/bucket_brigade/bucketbrigade/PermitLog" → Fld Z h a0 "com/example/bucket_brigade/bucketbrigade/PermitLog" "instants" "[J" (.ref gI) → Fld Z h a0 "com/example/bucket_brigade/bucketbrigade/PermitLog" "lastNumbers" "[J" (.ref gN) → Fld Z h a0 "com/example/bucket_brigade/bucketbrigade/PermitLog" "first" "I" (.int f2) → Fld Z h a0 "com/example/bucket_brigade/bucketbrigade/PermitLog" "size" "I" (.int s2) → Fld Z h a0 "com/example/bucket_brigade/bucketbrigade/PermitLog" "dropped" "J" (.long d2) → Ary Z h gI .long 4 (fun i => (.long (I i))) → Ary Z h gN .long 4 (fun i => (.long (N i))) → own_Two s5 s6 → own_kp d2 ts2 ns2 e3 = own_kp d ts ns ((own_tt d ns) - q1) → own_Q f2 I ts2 → own_Q f2 N ns2 → s2.toInt = (ts2.length : Int) → ns2.length = ts2.length → own_M d2 ns2 → e3.toInt ≤ (own_tt d2 ns2).toInt → (if (0 : Int64) < e3 then ts2.length + 1 else 0) ≤ k → Goes pr_.tables en_ below (Fine st_ n0 (Q_rm_keep Z a0 q1 gI gN I N f sz d ts ns h0 n0) ({ frames := 3, cells := 0, slots := 0, locals := 40 } : Room).cells ({ frames := 3, cells := 0, slots := 0, locals := 40 } : Room).slots) T (mkF me_ 7 #[.val (.ref a0), .val (.long q1), .second, .val (.long e3), .second, s5, s6] []) := by
    intro k
    induction k with
    | zero =>
      intro T h e3 s5 s6 f2 s2 d2 ts2 ns2 S K E_a0 F_a0_instants F_a0_lastNumbers F_a0_first F_a0_size F_a0_dropped A_gI A_gN hs5 hr2 hQ2 hN2 hs2 hl2 hM2 he hk
      refine Goes.go (fun _ => XS.lloadN S.here B.x rfl (B.d d_prog_25_method_10_7) rfl) ?_
      show Goes _ _ _ _ T (mkF me_ 8 #[.val (.ref a0), .val (.long q1), .second, .val (.long e3), .second, s5, s6] [(.long e3)])
      refine Goes.go (fun _ => XS.lconst S.here B.x rfl (B.d d_prog_25_method_10_8)) ?_
      show Goes _ _ _ _ T (mkF me_ 9 #[.val (.ref a0), .val (.long q1), .second, .val (.long e3), .second, s5, s6] [(.long (0 : Int64)), (.long e3)])
      refine Goes.go (fun _ => XS.lcmp S.here B.x rfl (B.d d_prog_25_method_10_9) rfl) ?_
      show Goes _ _ _ _ T (mkF me_ 10 #[.val (.ref a0), .val (.long q1), .second, .val (.long e3), .second, s5, s6] [(.int (lcmpW e3 (0 : Int64)))])
      refine Goes.go (fun _ => XS.ifYes S.here B.x rfl (pc0 := 10) (pc' := 59) rfl (B.d d_prog_25_method_10_10) rfl ((if0 _ _).trans (flt (mt (lw_gt e3 (0 : Int64)).mp (show ¬ ((0 : Int64) < e3) from own_kz hk))).2.2.2) (by decide) (by decide)) ?_
      show Goes _ _ _ _ T (mkF me_ 59 #[.val (.ref a0), .val (.long q1), .second, .val (.long e3), .second, s5, s6] [])
      refine Goes.retV S B d_prog_25_method_10_59 (by decide) (by decide) ?_
      exact ⟨_, _, _, _, _, rfl, K, E_a0, F_a0_instants, F_a0_lastNumbers, F_a0_first, F_a0_size, F_a0_dropped, A_gI, A_gN, (own_kend hr2 (by first | exact own_kz hk | assumption)), hQ2, hN2, hs2, hl2, hM2⟩
    | succ k ih =>
      intro T h e3 s5 s6 f2 s2 d2 ts2 ns2 S K E_a0 F_a0_instants F_a0_lastNumbers F_a0_first F_a0_size F_a0_dropped A_gI A_gN hs5 hr2 hQ2 hN2 hs2 hl2 hM2 he hk
      refine Goes.go (fun _ => XS.lloadN S.here B.x rfl (B.d d_prog_25_method_10_7) rfl) ?_
      show Goes _ _ _ _ T (mkF me_ 8 #[.val (.ref a0), .val (.long q1), .second, .val (.long e3), .second, s5, s6] [(.long e3)])
      refine Goes.go (fun _ => XS.lconst S.here B.x rfl (B.d d_prog_25_method_10_8)) ?_
      show Goes _ _ _ _ T (mkF me_ 9 #[.val (.ref a0), .val (.long q1), .second, .val (.long e3), .second, s5, s6] [(.long (0 : Int64)), (.long e3)])
      refine Goes.go (fun _ => XS.lcmp S.here B.x rfl (B.d d_prog_25_method_10_9) rfl) ?_
      show Goes _ _ _ _ T (mkF me_ 10 #[.val (.ref a0), .val (.long q1), .second, .val (.long e3), .second, s5, s6] [(.int (lcmpW e3 (0 : Int64)))])
      by_cases hc10 : (0 : Int64) < e3
      · skip
        refine Goes.go (fun _ => XS.ifNo S.here B.x rfl (B.d d_prog_25_method_10_10) rfl ((if0 _ _).trans (tlt ((lw_gt e3 (0 : Int64)).mpr hc10)).2.2.2)) ?_
        show Goes _ _ _ _ T (mkF me_ 13 #[.val (.ref a0), .val (.long q1), .second, .val (.long e3), .second, s5, s6] [])
        obtain ⟨t0x, trx, n0x, nrx, rfl, rfl⟩ := own_ne hc10 he hl2
        have hx := own_get (p := 0) (i := 0) hN2 own_e0 rfl
        refine Goes.go (fun _ => XS.aloadN S.here B.x rfl (B.d d_prog_25_method_10_13) rfl rfl) ?_
        show Goes _ _ _ _ T (mkF me_ 14 #[.val (.ref a0), .val (.long q1), .second, .val (.long e3), .second, s5, s6] [(.ref a0)])
        refine Goes.go (fun _ => XS.iconst S.here B.x rfl (B.d d_prog_25_method_10_14)) ?_
        show Goes _ _ _ _ T (mkF me_ 15 #[.val (.ref a0), .val (.long q1), .second, .val (.long e3), .second, s5, s6] [(.int (0 : Int32)), (.ref a0)])
        refine Goes.callP (argsL := [(.int (0 : Int32))]) (rest := []) (W := 0) S B (rm_last l Z aw hw a0 (0 : Int32) gI gN (fun i => (.long (I i))) N f2 _ n0 E_a0 F_a0_first F_a0_instants F_a0_lastNumbers A_gI A_gN) E_a0 (w47 hw) (w49 hw) (w1 hw) (w48 hw) (w2 hw) (w50 hw) (by decide) (by decide) (by decide) (by decide) (by decide) rfl (lenOf pd_1 rfl) rfl (Nat.le_of_eq rfl) d_prog_25_method_10_15 ?_
        intro v T h S hQ
        obtain ⟨rfl, hh⟩ := hQ
        replace hh := hh.symm
        subst hh
        show Goes _ _ _ _ T (mkF me_ 18 #[.val (.ref a0), .val (.long q1), .second, .val (.long e3), .second, s5, s6] [(.long (N ((f2 + (0 : Int32)) &&& (3 : Int32)).toNatClampNeg))])
        rw [show (N ((f2 + (0 : Int32)) &&& (3 : Int32)).toNatClampNeg) = n0x from hx]
        show Goes _ _ _ _ T (mkF me_ 18 #[.val (.ref a0), .val (.long q1), .second, .val (.long e3), .second, s5, s6] [(.long n0x)])
        refine Goes.go (fun _ => XS.aloadN S.here B.x rfl (B.d d_prog_25_method_10_18) rfl rfl) ?_
        show Goes _ _ _ _ T (mkF me_ 19 #[.val (.ref a0), .val (.long q1), .second, .val (.long e3), .second, s5, s6] [(.ref a0), (.long n0x)])
        refine Goes.getF S B (w31 hw) F_a0_dropped d_prog_25_method_10_19 ?_
        intro T S
        show Goes _ _ _ _ T (mkF me_ 22 #[.val (.ref a0), .val (.long q1), .second, .val (.long e3), .second, s5, s6] [(.long d2), (.long n0x)])
        refine Goes.go (fun _ => XS.lsub S.here B.x rfl (B.d d_prog_25_method_10_22) rfl) ?_
        show Goes _ _ _ _ T (mkF me_ 23 #[.val (.ref a0), .val (.long q1), .second, .val (.long e3), .second, s5, s6] [(.long (n0x - d2))])
        refine Goes.go (fun _ => XS.lstore S.here B.x rfl (B.d d_prog_25_method_10_23) rfl (l' := #[.val (.ref a0), .val (.long q1), .second, .val (.long e3), .second, .val (.long (n0x - d2)), .second]) (by rcases hs5 with ⟨rfl, rfl⟩ | ⟨_, rfl, rfl⟩ <;> rfl)) ?_
        show Goes _ _ _ _ T (mkF me_ 25 #[.val (.ref a0), .val (.long q1), .second, .val (.long e3), .second, .val (.long (n0x - d2)), .second] [])
        refine Goes.go (fun _ => XS.lload S.here B.x rfl (B.d d_prog_25_method_10_25) rfl) ?_
        show Goes _ _ _ _ T (mkF me_ 27 #[.val (.ref a0), .val (.long q1), .second, .val (.long e3), .second, .val (.long (n0x - d2)), .second] [(.long (n0x - d2))])
        refine Goes.go (fun _ => XS.lloadN S.here B.x rfl (B.d d_prog_25_method_10_27) rfl) ?_
        show Goes _ _ _ _ T (mkF me_ 28 #[.val (.ref a0), .val (.long q1), .second, .val (.long e3), .second, .val (.long (n0x - d2)), .second] [(.long e3), (.long (n0x - d2))])
        refine Goes.go (fun _ => XS.lcmp S.here B.x rfl (B.d d_prog_25_method_10_28) rfl) ?_
        show Goes _ _ _ _ T (mkF me_ 29 #[.val (.ref a0), .val (.long q1), .second, .val (.long e3), .second, .val (.long (n0x - d2)), .second] [(.int (lcmpW (n0x - d2) e3))])
        by_cases hc29 : e3 < (n0x - d2)
        · skip
          refine Goes.go (fun _ => XS.ifYes S.here B.x rfl (pc0 := 29) (pc' := 44) rfl (B.d d_prog_25_method_10_29) rfl ((if0 _ _).trans (tlt ((lw_gt (n0x - d2) e3).mpr hc29)).2.2.1) (by decide) (by decide)) ?_
          show Goes _ _ _ _ T (mkF me_ 44 #[.val (.ref a0), .val (.long q1), .second, .val (.long e3), .second, .val (.long (n0x - d2)), .second] [])
          refine Goes.go (fun _ => XS.aloadN S.here B.x rfl (B.d d_prog_25_method_10_44) rfl rfl) ?_
          show Goes _ _ _ _ T (mkF me_ 45 #[.val (.ref a0), .val (.long q1), .second, .val (.long e3), .second, .val (.long (n0x - d2)), .second] [(.ref a0)])
          refine Goes.go (fun _ => XS.dup S.here B.x rfl (B.d d_prog_25_method_10_45) rfl rfl) ?_
          show Goes _ _ _ _ T (mkF me_ 46 #[.val (.ref a0), .val (.long q1), .second, .val (.long e3), .second, .val (.long (n0x - d2)), .second] [(.ref a0), (.ref a0)])
          refine Goes.getF S B (w31 hw) F_a0_dropped d_prog_25_method_10_46 ?_
          intro T S
          show Goes _ _ _ _ T (mkF me_ 49 #[.val (.ref a0), .val (.long q1), .second, .val (.long e3), .second, .val (.long (n0x - d2)), .second] [(.long d2), (.ref a0)])
          refine Goes.go (fun _ => XS.lloadN S.here B.x rfl (B.d d_prog_25_method_10_49) rfl) ?_
          show Goes _ _ _ _ T (mkF me_ 50 #[.val (.ref a0), .val (.long q1), .second, .val (.long e3), .second, .val (.long (n0x - d2)), .second] [(.long e3), (.long d2), (.ref a0)])
          refine Goes.go (fun _ => XS.ladd S.here B.x rfl (B.d d_prog_25_method_10_50) rfl) ?_
          show Goes _ _ _ _ T (mkF me_ 51 #[.val (.ref a0), .val (.long q1), .second, .val (.long e3), .second, .val (.long (n0x - d2)), .second] [(.long (d2 + e3)), (.ref a0)])
          refine Goes.putF (v' := (.long (d2 + e3))) S B (w31 hw) F_a0_dropped E_a0 (Or.inl (w32 hw)) (w1 hw) (ty := .long) (by decide) rfl rfl g_a0 d_prog_25_method_10_51 ?_
          intro T h S W
          replace K := K.wr W (Or.inl (by simp))
          replace E_a0 := E_a0.wr W
          replace F_a0_instants := F_a0_instants.other W (Or.inr (slot_ne (Or.inl (w11 hw)) (Or.inl (w32 hw)) (by decide) (t := (.array .long)) (t' := .long) (by decide) (by decide)))
          replace F_a0_lastNumbers := F_a0_lastNumbers.other W (Or.inr (slot_ne (Or.inl (w13 hw)) (Or.inl (w32 hw)) (by decide) (t := (.array .long)) (t' := .long) (by decide) (by decide)))
          replace F_a0_first := F_a0_first.other W (Or.inr (slot_ne (Or.inl (w42 hw)) (Or.inl (w32 hw)) (by decide) (t := .int) (t' := .long) (by decide) (by decide)))
          replace F_a0_size := F_a0_size.other W (Or.inr (slot_ne (Or.inl (w26 hw)) (Or.inl (w32 hw)) (by decide) (t := .int) (t' := .long) (by decide) (by decide)))
          replace F_a0_dropped := F_a0_dropped.same W
          replace A_gI := A_gI.other W ne_a0__gI.symm
          replace A_gN := A_gN.other W ne_a0__gN.symm
          show Goes _ _ _ _ T (mkF me_ 54 #[.val (.ref a0), .val (.long q1), .second, .val (.long e3), .second, .val (.long (n0x - d2)), .second] [])
          refine Goes.go (fun _ => XS.lconst S.here B.x rfl (B.d d_prog_25_method_10_54)) ?_
          show Goes _ _ _ _ T (mkF me_ 55 #[.val (.ref a0), .val (.long q1), .second, .val (.long e3), .second, .val (.long (n0x - d2)), .second] [(.long (0 : Int64))])
          refine Goes.go (fun _ => XS.lstoreN S.here B.x rfl (B.d d_prog_25_method_10_55) rfl (l' := #[.val (.ref a0), .val (.long q1), .second, .val (.long (0 : Int64)), .second, .val (.long (n0x - d2)), .second]) rfl) ?_
          show Goes _ _ _ _ T (mkF me_ 56 #[.val (.ref a0), .val (.long q1), .second, .val (.long (0 : Int64)), .second, .val (.long (n0x - d2)), .second] [])
          refine Goes.go (fun _ => XS.goto S.here B.x rfl (pc0 := 56) (pc' := 7) rfl (B.d d_prog_25_method_10_56) (by decide) (by decide)) ?_
          show Goes _ _ _ _ T (mkF me_ 7 #[.val (.ref a0), .val (.long q1), .second, .val (.long (0 : Int64)), .second, .val (.long (n0x - d2)), .second] [])
          exact ih T _ (0 : Int64) (.val (.long (n0x - d2))) (.second) f2 s2 (d2 + e3) (t0x :: trx) (n0x :: nrx) S K E_a0 F_a0_instants F_a0_lastNumbers F_a0_first F_a0_size F_a0_dropped A_gI A_gN (Or.inr ⟨_, rfl, rfl⟩) (own_kB hr2 hc10 hc29) hQ2 hN2 hs2 hl2 (own_MB hM2 hc10 hc29) (own_eB (own_MB hM2 hc10 hc29)) (by simp)
        · skip
          refine Goes.go (fun _ => XS.ifNo S.here B.x rfl (B.d d_prog_25_method_10_29) rfl ((if0 _ _).trans (flt (mt (lw_gt (n0x - d2) e3).mp hc29)).2.2.1)) ?_
          show Goes _ _ _ _ T (mkF me_ 32 #[.val (.ref a0), .val (.long q1), .second, .val (.long e3), .second, .val (.long (n0x - d2)), .second] [])
          refine Goes.go (fun _ => XS.aloadN S.here B.x rfl (B.d d_prog_25_method_10_32) rfl rfl) ?_
          show Goes _ _ _ _ T (mkF me_ 33 #[.val (.ref a0), .val (.long q1), .second, .val (.long e3), .second, .val (.long (n0x - d2)), .second] [(.ref a0)])
          refine Goes.callP (argsL := []) (rest := []) (W := 0) S B (rm_drop l Z aw hw a0 gI gN (fun i => (.long (I i))) N f2 s2 d2 _ n0 E_a0 F_a0_instants F_a0_lastNumbers F_a0_first F_a0_size F_a0_dropped A_gI A_gN g_a0 ne_a0__gI ne_a0__gN) E_a0 (w61 hw) (w63 hw) (w1 hw) (w62 hw) (w2 hw) (w64 hw) (by decide) (by decide) (by decide) (by decide) (by decide) rfl (lenOf pd_5 rfl) rfl (Nat.le_of_eq rfl) d_prog_25_method_10_33 ?_
          intro v T h S hQ
          obtain ⟨rfl, Kc, E_a0', F_a0_instants', F_a0_lastNumbers', F_a0_first', F_a0_size', F_a0_dropped'⟩ := hQ
          replace K := K.trans Kc (allS (Or.inl (by simp)) all0)
          replace A_gI := A_gI.keep Kc (ninS ne_a0__gI.symm nin0)
          replace A_gN := A_gN.keep Kc (ninS ne_a0__gN.symm nin0)
          replace E_a0 := E_a0'
          replace F_a0_instants := F_a0_instants'
          replace F_a0_lastNumbers := F_a0_lastNumbers'
          replace F_a0_first := F_a0_first'
          replace F_a0_size := F_a0_size'
          replace F_a0_dropped := F_a0_dropped'
          show Goes _ _ _ _ T (mkF me_ 36 #[.val (.ref a0), .val (.long q1), .second, .val (.long e3), .second, .val (.long (n0x - d2)), .second] [])
          rw [hx] at F_a0_dropped
          refine Goes.go (fun _ => XS.lloadN S.here B.x rfl (B.d d_prog_25_method_10_36) rfl) ?_
          show Goes _ _ _ _ T (mkF me_ 37 #[.val (.ref a0), .val (.long q1), .second, .val (.long e3), .second, .val (.long (n0x - d2)), .second] [(.long e3)])
          refine Goes.go (fun _ => XS.lload S.here B.x rfl (B.d d_prog_25_method_10_37) rfl) ?_
          show Goes _ _ _ _ T (mkF me_ 39 #[.val (.ref a0), .val (.long q1), .second, .val (.long e3), .second, .val (.long (n0x - d2)), .second] [(.long (n0x - d2)), (.long e3)])
          refine Goes.go (fun _ => XS.lsub S.here B.x rfl (B.d d_prog_25_method_10_39) rfl) ?_
          show Goes _ _ _ _ T (mkF me_ 40 #[.val (.ref a0), .val (.long q1), .second, .val (.long e3), .second, .val (.long (n0x - d2)), .second] [(.long (e3 - (n0x - d2)))])
          refine Goes.go (fun _ => XS.lstoreN S.here B.x rfl (B.d d_prog_25_method_10_40) rfl (l' := #[.val (.ref a0), .val (.long q1), .second, .val (.long (e3 - (n0x - d2))), .second, .val (.long (n0x - d2)), .second]) rfl) ?_
          show Goes _ _ _ _ T (mkF me_ 41 #[.val (.ref a0), .val (.long q1), .second, .val (.long (e3 - (n0x - d2))), .second, .val (.long (n0x - d2)), .second] [])
          refine Goes.go (fun _ => XS.goto S.here B.x rfl (pc0 := 41) (pc' := 56) rfl (B.d d_prog_25_method_10_41) (by decide) (by decide)) ?_
          show Goes _ _ _ _ T (mkF me_ 56 #[.val (.ref a0), .val (.long q1), .second, .val (.long (e3 - (n0x - d2))), .second, .val (.long (n0x - d2)), .second] [])
          refine Goes.go (fun _ => XS.goto S.here B.x rfl (pc0 := 56) (pc' := 7) rfl (B.d d_prog_25_method_10_56) (by decide) (by decide)) ?_
          show Goes _ _ _ _ T (mkF me_ 7 #[.val (.ref a0), .val (.long q1), .second, .val (.long (e3 - (n0x - d2))), .second, .val (.long (n0x - d2)), .second] [])
          exact ih T _ (e3 - (n0x - d2)) (.val (.long (n0x - d2))) (.second) ((f2 + (1 : Int32)) &&& (3 : Int32)) (s2 - (1 : Int32)) n0x trx nrx S K E_a0 F_a0_instants F_a0_lastNumbers F_a0_first F_a0_size F_a0_dropped A_gI A_gN (Or.inr ⟨_, rfl, rfl⟩) (own_kA hr2 hc10 hc29) (own_QA hQ2) (own_QA hN2) (own_sA hs2 hQ2) (own_lA hl2) (own_MA hM2) (own_eA hM2 hc10 hc29 he) (own_kkA hk hc10)
      · skip
        refine Goes.go (fun _ => XS.ifYes S.here B.x rfl (pc0 := 10) (pc' := 59) rfl (B.d d_prog_25_method_10_10) rfl ((if0 _ _).trans (flt (mt (lw_gt e3 (0 : Int64)).mp hc10)).2.2.2) (by decide) (by decide)) ?_
        show Goes _ _ _ _ T (mkF me_ 59 #[.val (.ref a0), .val (.long q1), .second, .val (.long e3), .second, s5, s6] [])
        refine Goes.retV S B d_prog_25_method_10_59 (by decide) (by decide) ?_
        exact ⟨_, _, _, _, _, rfl, K, E_a0, F_a0_instants, F_a0_lastNumbers, F_a0_first, F_a0_size, F_a0_dropped, A_gI, A_gN, (own_kend hr2 (by first | exact own_kz hk | assumption)), hQ2, hN2, hs2, hl2, hM2⟩
  exact LP1 (ts.length + 1) T _ ((own_perm sz d (N ((f + (sz - (1 : Int32))) &&& (3 : Int32)).toNatClampNeg)) - q1) (.unset) (.unset) f sz d ts ns S K E_a0 F_a0_instants F_a0_lastNumbers F_a0_first F_a0_size F_a0_dropped A_gI A_gN (Or.inl ⟨rfl, rfl⟩) (by rw [own_pt hN hsz hll]) hQ hN hsz hll hM (own_he hN hsz hll hM hq) (by split <;> omega)
theorem ef_rm_min (m : MethodId) (q0 : Int64) (q1 : Int64) : entryFrame m #[(.long q0), (.long q1)] 4 = mkF m 0 #[.val (.long q0), .second, .val (.long q1), .second] [] := by first | (simp [entryFrame, mkF, argsToLocals, Value.category]; done) | rfl
def Q_rm_min (Z : State) (q0 : Int64) (q1 : Int64) (h0 : Heap) (n0 : Nat) (v : Option Value) (h : Heap) : Prop := v = some (.long (own_min q0 q1)) ∧ h = h0
set_option maxRecDepth 65536 in
set_option maxHeartbeats 40000000 in
theorem rm_min (l : Launch) (Z : State) (aw : Array Value) (hw : ∀ d ∈ tables_1, d.before aw Z = true) (q0 : Int64) (q1 : Int64) (h0 : Heap) (n0 : Nat) :
    Con l Z (⟨"java/lang/Math", "min", "(JJ)J"⟩ : MethodName) jdk_29_method_70_code 4 (some .long) ({ frames := 0, cells := 0, slots := 0, locals := 0 } : Room) #[(.long q0), (.long q1)] h0 n0 (Q_rm_min Z q0 q1 h0 n0) := by
  refine Con.body (Jvm.Free.JP.mathPlain rfl (by decide +kernel)) ?_
  intro pr_ en_ st_ me_ below meth co_ T B S
  refine Goes.cast (ef_rm_min me_ q0 q1) ?_
  refine Goes.go (fun _ => XS.lloadN S.here B.x rfl (B.d d_jdk_29_method_70_0) rfl) ?_
  show Goes _ _ _ _ T (mkF me_ 1 #[.val (.long q0), .second, .val (.long q1), .second] [(.long q0)])
  refine Goes.go (fun _ => XS.lloadN S.here B.x rfl (B.d d_jdk_29_method_70_1) rfl) ?_
  show Goes _ _ _ _ T (mkF me_ 2 #[.val (.long q0), .second, .val (.long q1), .second] [(.long q1), (.long q0)])
  refine Goes.go (fun _ => XS.lcmp S.here B.x rfl (B.d d_jdk_29_method_70_2) rfl) ?_
  show Goes _ _ _ _ T (mkF me_ 3 #[.val (.long q0), .second, .val (.long q1), .second] [(.int (lcmpW q0 q1))])
  by_cases hc3 : q1 < q0
  · skip
    refine Goes.go (fun _ => XS.ifYes S.here B.x rfl (pc0 := 3) (pc' := 10) rfl (B.d d_jdk_29_method_70_3) rfl ((if0 _ _).trans (tlt ((lw_gt q0 q1).mpr hc3)).2.2.1) (by decide) (by decide)) ?_
    show Goes _ _ _ _ T (mkF me_ 10 #[.val (.long q0), .second, .val (.long q1), .second] [])
    refine Goes.go (fun _ => XS.lloadN S.here B.x rfl (B.d d_jdk_29_method_70_10) rfl) ?_
    show Goes _ _ _ _ T (mkF me_ 11 #[.val (.long q0), .second, .val (.long q1), .second] [(.long q1)])
    refine Goes.retL S B d_jdk_29_method_70_11 (by decide) (by decide) ?_
    exact ⟨(by simp [own_min, *]), rfl⟩
  · skip
    refine Goes.go (fun _ => XS.ifNo S.here B.x rfl (B.d d_jdk_29_method_70_3) rfl ((if0 _ _).trans (flt (mt (lw_gt q0 q1).mp hc3)).2.2.1)) ?_
    show Goes _ _ _ _ T (mkF me_ 6 #[.val (.long q0), .second, .val (.long q1), .second] [])
    refine Goes.go (fun _ => XS.lloadN S.here B.x rfl (B.d d_jdk_29_method_70_6) rfl) ?_
    show Goes _ _ _ _ T (mkF me_ 7 #[.val (.long q0), .second, .val (.long q1), .second] [(.long q0)])
    refine Goes.go (fun _ => XS.goto S.here B.x rfl (pc0 := 7) (pc' := 11) rfl (B.d d_jdk_29_method_70_7) (by decide) (by decide)) ?_
    show Goes _ _ _ _ T (mkF me_ 11 #[.val (.long q0), .second, .val (.long q1), .second] [(.long q0)])
    refine Goes.retL S B d_jdk_29_method_70_11 (by decide) (by decide) ?_
    exact ⟨(by simp [own_min, *]), rfl⟩
theorem ef_rm_insts (m : MethodId) (a0 : Addr) : entryFrame m #[(.ref a0)] 1 = mkF m 0 #[.val (.ref a0)] [] := by first | (simp [entryFrame, mkF, argsToLocals, Value.category]; done) | rfl
def Q_rm_insts (Z : State) (a0 : Addr) (sz : Int32) (h0 : Heap) (n0 : Nat) (v : Option Value) (h : Heap) : Prop := v = some (.int sz) ∧ h = h0
set_option maxRecDepth 65536 in
set_option maxHeartbeats 40000000 in
theorem rm_insts (l : Launch) (Z : State) (aw : Array Value) (hw : ∀ d ∈ tables_1, d.before aw Z = true) (a0 : Addr) (sz : Int32) (h0 : Heap) (n0 : Nat) (F_a0_size : Fld Z h0 a0 "com/example/bucket_brigade/bucketbrigade/PermitLog" "size" "I" (.int sz)) :
    Con l Z (⟨"com/example/bucket_brigade/bucketbrigade/PermitLog", "instants", "()I"⟩ : MethodName) prog_25_method_3_code 1 (some .int) ({ frames := 0, cells := 0, slots := 0, locals := 0 } : Room) #[(.ref a0)] h0 n0 (Q_rm_insts Z a0 sz h0 n0) := by
  refine Con.body (plainFor_of_name pn_0) ?_
  intro pr_ en_ st_ me_ below meth co_ T B S
  refine Goes.cast (ef_rm_insts me_ a0) ?_
  refine Goes.go (fun _ => XS.aloadN S.here B.x rfl (B.d d_prog_25_method_3_0) rfl rfl) ?_
  show Goes _ _ _ _ T (mkF me_ 1 #[.val (.ref a0)] [(.ref a0)])
  refine Goes.getF S B (w25 hw) F_a0_size d_prog_25_method_3_1 ?_
  intro T S
  show Goes _ _ _ _ T (mkF me_ 4 #[.val (.ref a0)] [(.int sz)])
  refine Goes.retI S B d_prog_25_method_3_4 (by decide) (by decide) ?_
  exact ⟨(by first | rfl | (rw [bi_pos (by assumption)]; rfl) | (rw [bi_neg (by assumption)]; rfl) | (rw [nar_bi]; exact congrArg (fun z => some (Value.int z)) (bi_congr (by simp_all))) | (simp_all [bi, nar]; done)), rfl⟩
theorem ef_rm_oldest (m : MethodId) (a0 : Addr) : entryFrame m #[(.ref a0)] 1 = mkF m 0 #[.val (.ref a0)] [] := by first | (simp [entryFrame, mkF, argsToLocals, Value.category]; done) | rfl
def Q_rm_oldest (Z : State) (a0 : Addr) (gI : Addr) (I : Nat → Int64) (f : Int32) (h0 : Heap) (n0 : Nat) (v : Option Value) (h : Heap) : Prop := v = some (.long (I ((f + (0 : Int32)) &&& (3 : Int32)).toNatClampNeg)) ∧ h = h0
set_option maxRecDepth 65536 in
set_option maxHeartbeats 40000000 in
theorem rm_oldest (l : Launch) (Z : State) (aw : Array Value) (hw : ∀ d ∈ tables_1, d.before aw Z = true) (a0 : Addr) (gI : Addr) (I : Nat → Int64) (f : Int32) (h0 : Heap) (n0 : Nat) (E_a0 : Exa Z h0 a0 "com/example/bucket_brigade/bucketbrigade/PermitLog") (F_a0_first : Fld Z h0 a0 "com/example/bucket_brigade/bucketbrigade/PermitLog" "first" "I" (.int f)) (F_a0_instants : Fld Z h0 a0 "com/example/bucket_brigade/bucketbrigade/PermitLog" "instants" "[J" (.ref gI)) (A_gI : Ary Z h0 gI .long 4 (fun i => (.long (I i)))) :
    Con l Z (⟨"com/example/bucket_brigade/bucketbrigade/PermitLog", "oldest", "()J"⟩ : MethodName) prog_25_method_5_code 1 (some .long) ({ frames := 2, cells := 0, slots := 0, locals := 27 } : Room) #[(.ref a0)] h0 n0 (Q_rm_oldest Z a0 gI I f h0 n0) := by
  refine Con.body (plainFor_of_name pn_0) ?_
  intro pr_ en_ st_ me_ below meth co_ T B S
  refine Goes.cast (ef_rm_oldest me_ a0) ?_
  refine Goes.go (fun _ => XS.aloadN S.here B.x rfl (B.d d_prog_25_method_5_0) rfl rfl) ?_
  show Goes _ _ _ _ T (mkF me_ 1 #[.val (.ref a0)] [(.ref a0)])
  refine Goes.go (fun _ => XS.iconst S.here B.x rfl (B.d d_prog_25_method_5_1)) ?_
  show Goes _ _ _ _ T (mkF me_ 2 #[.val (.ref a0)] [(.int (0 : Int32)), (.ref a0)])
  refine Goes.callP (argsL := [(.int (0 : Int32))]) (rest := []) (W := 0) S B (rm_instant l Z aw hw a0 (0 : Int32) gI I f _ n0 E_a0 F_a0_first F_a0_instants A_gI) E_a0 (w43 hw) (w45 hw) (w1 hw) (w44 hw) (w2 hw) (w46 hw) (by decide) (by decide) (by decide) (by decide) (by decide) rfl (lenOf pd_1 rfl) rfl (Nat.le_of_eq rfl) d_prog_25_method_5_2 ?_
  intro v T h S hQ
  obtain ⟨rfl, hh⟩ := hQ
  replace hh := hh.symm
  subst hh
  show Goes _ _ _ _ T (mkF me_ 5 #[.val (.ref a0)] [(.long (I ((f + (0 : Int32)) &&& (3 : Int32)).toNatClampNeg))])
  refine Goes.retL S B d_prog_25_method_5_5 (by decide) (by decide) ?_
  exact ⟨(by first | rfl | (rw [bi_pos (by assumption)]; rfl) | (rw [bi_neg (by assumption)]; rfl) | (rw [nar_bi]; exact congrArg (fun z => some (Value.int z)) (bi_congr (by simp_all))) | (simp_all [bi, nar]; done)), rfl⟩
theorem ef_rm_fa (m : MethodId) (a0 : Addr) (q1 : Int64) : entryFrame m #[(.ref a0), (.long q1)] 3 = mkF m 0 #[.val (.ref a0), .val (.long q1), .second] [] := by first | (simp [entryFrame, mkF, argsToLocals, Value.category]; done) | rfl
def Q_rm_fa (Z : State) (a0 : Addr) (q1 : Int64) (gI : Addr) (I : Nat → Int64) (f : Int32) (sz : Int32) (ts : List Int64) (h0 : Heap) (n0 : Nat) (v : Option Value) (h : Heap) : Prop := v = some (.int (own_fa sz ts q1)) ∧ h = h0
set_option maxRecDepth 65536 in
set_option maxHeartbeats 40000000 in
theorem rm_fa (l : Launch) (Z : State) (aw : Array Value) (hw : ∀ d ∈ tables_1, d.before aw Z = true) (a0 : Addr) (q1 : Int64) (gI : Addr) (I : Nat → Int64) (f : Int32) (sz : Int32) (ts : List Int64) (h0 : Heap) (n0 : Nat) (E_a0 : Exa Z h0 a0 "com/example/bucket_brigade/bucketbrigade/PermitLog") (F_a0_instants : Fld Z h0 a0 "com/example/bucket_brigade/bucketbrigade/PermitLog" "instants" "[J" (.ref gI)) (F_a0_first : Fld Z h0 a0 "com/example/bucket_brigade/bucketbrigade/PermitLog" "first" "I" (.int f)) (F_a0_size : Fld Z h0 a0 "com/example/bucket_brigade/bucketbrigade/PermitLog" "size" "I" (.int sz)) (A_gI : Ary Z h0 gI .long 4 (fun i => (.long (I i)))) (hQ : own_Q f I ts) (hsz : sz.toInt = (ts.length : Int)) (hS : own_S ts) :
    Con l Z (⟨"com/example/bucket_brigade/bucketbrigade/PermitLog", "firstAfter", "(J)I"⟩ : MethodName) prog_25_method_15_code 3 (some .int) ({ frames := 3, cells := 0, slots := 0, locals := 44 } : Room) #[(.ref a0), (.long q1)] h0 n0 (Q_rm_fa Z a0 q1 gI I f sz ts h0 n0) := by
  refine Con.body (plainFor_of_name pn_0) ?_
  intro pr_ en_ st_ me_ below meth co_ T B S
  refine Goes.cast (ef_rm_fa me_ a0 q1) ?_
  refine Goes.go (fun _ => XS.lloadN S.here B.x rfl (B.d d_prog_25_method_15_0) rfl) ?_
  show Goes _ _ _ _ T (mkF me_ 1 #[.val (.ref a0), .val (.long q1), .second] [(.long q1)])
  refine Goes.ldcL S B (w90 hw) d_prog_25_method_15_1 ?_
  show Goes _ _ _ _ T (mkF me_ 4 #[.val (.ref a0), .val (.long q1), .second] [(.long (9223372036854775807 : Int64)), (.long q1)])
  refine Goes.go (fun _ => XS.lcmp S.here B.x rfl (B.d d_prog_25_method_15_4) rfl) ?_
  show Goes _ _ _ _ T (mkF me_ 5 #[.val (.ref a0), .val (.long q1), .second] [(.int (lcmpW q1 (9223372036854775807 : Int64)))])
  by_cases hc5 : q1 = (9223372036854775807 : Int64)
  · skip
    refine Goes.go (fun _ => XS.ifNo S.here B.x rfl (B.d d_prog_25_method_15_5) rfl ((if0 _ _).trans (teq ((lw_eq q1 (9223372036854775807 : Int64)).mpr hc5)).2)) ?_
    show Goes _ _ _ _ T (mkF me_ 8 #[.val (.ref a0), .val (.long q1), .second] [])
    refine Goes.go (fun _ => XS.aloadN S.here B.x rfl (B.d d_prog_25_method_15_8) rfl rfl) ?_
    show Goes _ _ _ _ T (mkF me_ 9 #[.val (.ref a0), .val (.long q1), .second] [(.ref a0)])
    refine Goes.getF S B (w25 hw) F_a0_size d_prog_25_method_15_9 ?_
    intro T S
    show Goes _ _ _ _ T (mkF me_ 12 #[.val (.ref a0), .val (.long q1), .second] [(.int sz)])
    refine Goes.go (fun _ => XS.goto S.here B.x rfl (pc0 := 12) (pc' := 22) rfl (B.d d_prog_25_method_15_12) (by decide) (by decide)) ?_
    show Goes _ _ _ _ T (mkF me_ 22 #[.val (.ref a0), .val (.long q1), .second] [(.int sz)])
    refine Goes.retI S B d_prog_25_method_15_22 (by decide) (by decide) ?_
    exact ⟨(by simp [own_fa, *]), rfl⟩
  · skip
    refine Goes.go (fun _ => XS.ifYes S.here B.x rfl (pc0 := 5) (pc' := 15) rfl (B.d d_prog_25_method_15_5) rfl ((if0 _ _).trans (feq (mt (lw_eq q1 (9223372036854775807 : Int64)).mp hc5)).2) (by decide) (by decide)) ?_
    show Goes _ _ _ _ T (mkF me_ 15 #[.val (.ref a0), .val (.long q1), .second] [])
    refine Goes.go (fun _ => XS.aloadN S.here B.x rfl (B.d d_prog_25_method_15_15) rfl rfl) ?_
    show Goes _ _ _ _ T (mkF me_ 16 #[.val (.ref a0), .val (.long q1), .second] [(.ref a0)])
    refine Goes.go (fun _ => XS.lloadN S.here B.x rfl (B.d d_prog_25_method_15_16) rfl) ?_
    show Goes _ _ _ _ T (mkF me_ 17 #[.val (.ref a0), .val (.long q1), .second] [(.long q1), (.ref a0)])
    refine Goes.go (fun _ => XS.lconst S.here B.x rfl (B.d d_prog_25_method_15_17)) ?_
    show Goes _ _ _ _ T (mkF me_ 18 #[.val (.ref a0), .val (.long q1), .second] [(.long (1 : Int64)), (.long q1), (.ref a0)])
    refine Goes.go (fun _ => XS.ladd S.here B.x rfl (B.d d_prog_25_method_15_18) rfl) ?_
    show Goes _ _ _ _ T (mkF me_ 19 #[.val (.ref a0), .val (.long q1), .second] [(.long (q1 + (1 : Int64))), (.ref a0)])
    refine Goes.callP (argsL := [(.long (q1 + (1 : Int64)))]) (rest := []) (W := 0) S B (rm_fao l Z aw hw a0 (q1 + (1 : Int64)) gI I f sz ts _ n0 E_a0 F_a0_instants F_a0_first F_a0_size A_gI (by assumption) (by assumption) (by assumption)) E_a0 (w21 hw) (w23 hw) (w1 hw) (w22 hw) (w2 hw) (w24 hw) (by decide) (by decide) (by decide) (by decide) (by decide) rfl (lenOf pd_2 rfl) rfl (Nat.le_of_eq rfl) d_prog_25_method_15_19 ?_
    intro v T h S hQ
    obtain ⟨rfl, hh⟩ := hQ
    replace hh := hh.symm
    subst hh
    show Goes _ _ _ _ T (mkF me_ 22 #[.val (.ref a0), .val (.long q1), .second] [(.int (Int32.ofNat (own_pos ts (q1 + (1 : Int64)))))])
    refine Goes.retI S B d_prog_25_method_15_22 (by decide) (by decide) ?_
    exact ⟨(by simp [own_fa, *]), rfl⟩
theorem ef_rm_count (m : MethodId) (a0 : Addr) (q1 : Int64) (q2 : Int64) : entryFrame m #[(.ref a0), (.long q1), (.long q2)] 7 = mkF m 0 #[.val (.ref a0), .val (.long q1), .second, .val (.long q2), .second, .unset, .unset] [] := by first | (simp [entryFrame, mkF, argsToLocals, Value.category]; done) | rfl
def Q_rm_count (Z : State) (a0 : Addr) (q1 : Int64) (q2 : Int64) (gI : Addr) (gN : Addr) (I : Nat → Int64) (N : Nat → Int64) (f : Int32) (sz : Int32) (d : Int64) (ts : List Int64) (h0 : Heap) (n0 : Nat) (v : Option Value) (h : Heap) : Prop := v = some (.long (own_cnt (own_fa sz ts q1) ((Int32.ofNat (own_pos ts q2)) - (1 : Int32)) f d N)) ∧ h = h0
set_option maxRecDepth 65536 in
set_option maxHeartbeats 40000000 in
theorem rm_count (l : Launch) (Z : State) (aw : Array Value) (hw : ∀ d ∈ tables_1, d.before aw Z = true) (a0 : Addr) (q1 : Int64) (q2 : Int64) (gI : Addr) (gN : Addr) (I : Nat → Int64) (N : Nat → Int64) (f : Int32) (sz : Int32) (d : Int64) (ts : List Int64) (h0 : Heap) (n0 : Nat) (E_a0 : Exa Z h0 a0 "com/example/bucket_brigade/bucketbrigade/PermitLog") (F_a0_instants : Fld Z h0 a0 "com/example/bucket_brigade/bucketbrigade/PermitLog" "instants" "[J" (.ref gI)) (F_a0_lastNumbers : Fld Z h0 a0 "com/example/bucket_brigade/bucketbrigade/PermitLog" "lastNumbers" "[J" (.ref gN)) (F_a0_first : Fld Z h0 a0 "com/example/bucket_brigade/bucketbrigade/PermitLog" "first" "I" (.int f)) (F_a0_size : Fld Z h0 a0 "com/example/bucket_brigade/bucketbrigade/PermitLog" "size" "I" (.int sz)) (F_a0_dropped : Fld Z h0 a0 "com/example/bucket_brigade/bucketbrigade/PermitLog" "dropped" "J" (.long d)) (A_gI : Ary Z h0 gI .long 4 (fun i => (.long (I i)))) (A_gN : Ary Z h0 gN .long 4 (fun i => (.long (N i)))) (hQ : own_Q f I ts) (hsz : sz.toInt = (ts.length : Int)) (hS : own_S ts) :
    Con l Z (⟨"com/example/bucket_brigade/bucketbrigade/PermitLog", "count", "(JJ)J"⟩ : MethodName) prog_25_method_8_code 7 (some .long) ({ frames := 4, cells := 0, slots := 0, locals := 58 } : Room) #[(.ref a0), (.long q1), (.long q2)] h0 n0 (Q_rm_count Z a0 q1 q2 gI gN I N f sz d ts h0 n0) := by
  refine Con.body (plainFor_of_name pn_0) ?_
  intro pr_ en_ st_ me_ below meth co_ T B S
  refine Goes.cast (ef_rm_count me_ a0 q1 q2) ?_
  refine Goes.go (fun _ => XS.aloadN S.here B.x rfl (B.d d_prog_25_method_8_0) rfl rfl) ?_
  show Goes _ _ _ _ T (mkF me_ 1 #[.val (.ref a0), .val (.long q1), .second, .val (.long q2), .second, .unset, .unset] [(.ref a0)])
  refine Goes.go (fun _ => XS.lloadN S.here B.x rfl (B.d d_prog_25_method_8_1) rfl) ?_
  show Goes _ _ _ _ T (mkF me_ 2 #[.val (.ref a0), .val (.long q1), .second, .val (.long q2), .second, .unset, .unset] [(.long q1), (.ref a0)])
  refine Goes.callP (argsL := [(.long q1)]) (rest := []) (W := 0) S B (rm_fa l Z aw hw a0 q1 gI I f sz ts _ n0 E_a0 F_a0_instants F_a0_first F_a0_size A_gI (by assumption) (by assumption) (by assumption)) E_a0 (w86 hw) (w88 hw) (w1 hw) (w87 hw) (w2 hw) (w89 hw) (by decide) (by decide) (by decide) (by decide) (by decide) rfl (lenOf pd_2 rfl) rfl (Nat.le_of_eq rfl) d_prog_25_method_8_2 ?_
  intro v T h S hQ
  obtain ⟨rfl, hh⟩ := hQ
  replace hh := hh.symm
  subst hh
  show Goes _ _ _ _ T (mkF me_ 5 #[.val (.ref a0), .val (.long q1), .second, .val (.long q2), .second, .unset, .unset] [(.int (own_fa sz ts q1))])
  refine Goes.go (fun _ => XS.istore S.here B.x rfl (B.d d_prog_25_method_8_5) rfl (l' := #[.val (.ref a0), .val (.long q1), .second, .val (.long q2), .second, .val (.int (own_fa sz ts q1)), .unset]) rfl) ?_
  show Goes _ _ _ _ T (mkF me_ 7 #[.val (.ref a0), .val (.long q1), .second, .val (.long q2), .second, .val (.int (own_fa sz ts q1)), .unset] [])
  refine Goes.go (fun _ => XS.aloadN S.here B.x rfl (B.d d_prog_25_method_8_7) rfl rfl) ?_
  show Goes _ _ _ _ T (mkF me_ 8 #[.val (.ref a0), .val (.long q1), .second, .val (.long q2), .second, .val (.int (own_fa sz ts q1)), .unset] [(.ref a0)])
  refine Goes.go (fun _ => XS.lloadN S.here B.x rfl (B.d d_prog_25_method_8_8) rfl) ?_
  show Goes _ _ _ _ T (mkF me_ 9 #[.val (.ref a0), .val (.long q1), .second, .val (.long q2), .second, .val (.int (own_fa sz ts q1)), .unset] [(.long q2), (.ref a0)])
  refine Goes.callP (argsL := [(.long q2)]) (rest := []) (W := 0) S B (rm_fao l Z aw hw a0 q2 gI I f sz ts _ n0 E_a0 F_a0_instants F_a0_first F_a0_size A_gI (by assumption) (by assumption) (by assumption)) E_a0 (w21 hw) (w23 hw) (w1 hw) (w22 hw) (w2 hw) (w24 hw) (by decide) (by decide) (by decide) (by decide) (by decide) rfl (lenOf pd_2 rfl) rfl (Nat.le_of_eq rfl) d_prog_25_method_8_9 ?_
  intro v T h S hQ
  obtain ⟨rfl, hh⟩ := hQ
  replace hh := hh.symm
  subst hh
  show Goes _ _ _ _ T (mkF me_ 12 #[.val (.ref a0), .val (.long q1), .second, .val (.long q2), .second, .val (.int (own_fa sz ts q1)), .unset] [(.int (Int32.ofNat (own_pos ts q2)))])
  refine Goes.go (fun _ => XS.iconst S.here B.x rfl (B.d d_prog_25_method_8_12)) ?_
  show Goes _ _ _ _ T (mkF me_ 13 #[.val (.ref a0), .val (.long q1), .second, .val (.long q2), .second, .val (.int (own_fa sz ts q1)), .unset] [(.int (1 : Int32)), (.int (Int32.ofNat (own_pos ts q2)))])
  refine Goes.go (fun _ => XS.isub S.here B.x rfl (B.d d_prog_25_method_8_13) rfl) ?_
  show Goes _ _ _ _ T (mkF me_ 14 #[.val (.ref a0), .val (.long q1), .second, .val (.long q2), .second, .val (.int (own_fa sz ts q1)), .unset] [(.int ((Int32.ofNat (own_pos ts q2)) - (1 : Int32)))])
  refine Goes.go (fun _ => XS.istore S.here B.x rfl (B.d d_prog_25_method_8_14) rfl (l' := #[.val (.ref a0), .val (.long q1), .second, .val (.long q2), .second, .val (.int (own_fa sz ts q1)), .val (.int ((Int32.ofNat (own_pos ts q2)) - (1 : Int32)))]) rfl) ?_
  show Goes _ _ _ _ T (mkF me_ 16 #[.val (.ref a0), .val (.long q1), .second, .val (.long q2), .second, .val (.int (own_fa sz ts q1)), .val (.int ((Int32.ofNat (own_pos ts q2)) - (1 : Int32)))] [])
  refine Goes.go (fun _ => XS.iload S.here B.x rfl (B.d d_prog_25_method_8_16) rfl) ?_
  show Goes _ _ _ _ T (mkF me_ 18 #[.val (.ref a0), .val (.long q1), .second, .val (.long q2), .second, .val (.int (own_fa sz ts q1)), .val (.int ((Int32.ofNat (own_pos ts q2)) - (1 : Int32)))] [(.int (own_fa sz ts q1))])
  refine Goes.go (fun _ => XS.iload S.here B.x rfl (B.d d_prog_25_method_8_18) rfl) ?_
  show Goes _ _ _ _ T (mkF me_ 20 #[.val (.ref a0), .val (.long q1), .second, .val (.long q2), .second, .val (.int (own_fa sz ts q1)), .val (.int ((Int32.ofNat (own_pos ts q2)) - (1 : Int32)))] [(.int ((Int32.ofNat (own_pos ts q2)) - (1 : Int32))), (.int (own_fa sz ts q1))])
  by_cases hc20 : ((Int32.ofNat (own_pos ts q2)) - (1 : Int32)) < (own_fa sz ts q1)
  · skip
    refine Goes.go (fun _ => XS.icmpNo S.here B.x rfl (B.d d_prog_25_method_8_20) rfl (tlt hc20).2.2.2) ?_
    show Goes _ _ _ _ T (mkF me_ 23 #[.val (.ref a0), .val (.long q1), .second, .val (.long q2), .second, .val (.int (own_fa sz ts q1)), .val (.int ((Int32.ofNat (own_pos ts q2)) - (1 : Int32)))] [])
    refine Goes.go (fun _ => XS.lconst S.here B.x rfl (B.d d_prog_25_method_8_23)) ?_
    show Goes _ _ _ _ T (mkF me_ 24 #[.val (.ref a0), .val (.long q1), .second, .val (.long q2), .second, .val (.int (own_fa sz ts q1)), .val (.int ((Int32.ofNat (own_pos ts q2)) - (1 : Int32)))] [(.long (0 : Int64))])
    refine Goes.go (fun _ => XS.goto S.here B.x rfl (pc0 := 24) (pc' := 40) rfl (B.d d_prog_25_method_8_24) (by decide) (by decide)) ?_
    show Goes _ _ _ _ T (mkF me_ 40 #[.val (.ref a0), .val (.long q1), .second, .val (.long q2), .second, .val (.int (own_fa sz ts q1)), .val (.int ((Int32.ofNat (own_pos ts q2)) - (1 : Int32)))] [(.long (0 : Int64))])
    refine Goes.retL S B d_prog_25_method_8_40 (by decide) (by decide) ?_
    exact ⟨(by simp [own_cnt, *]), rfl⟩
  · skip
    refine Goes.go (fun _ => XS.icmpYes S.here B.x rfl (pc0 := 20) (pc' := 27) rfl (B.d d_prog_25_method_8_20) rfl (flt hc20).2.2.2 (by decide) (by decide)) ?_
    show Goes _ _ _ _ T (mkF me_ 27 #[.val (.ref a0), .val (.long q1), .second, .val (.long q2), .second, .val (.int (own_fa sz ts q1)), .val (.int ((Int32.ofNat (own_pos ts q2)) - (1 : Int32)))] [])
    refine Goes.go (fun _ => XS.aloadN S.here B.x rfl (B.d d_prog_25_method_8_27) rfl rfl) ?_
    show Goes _ _ _ _ T (mkF me_ 28 #[.val (.ref a0), .val (.long q1), .second, .val (.long q2), .second, .val (.int (own_fa sz ts q1)), .val (.int ((Int32.ofNat (own_pos ts q2)) - (1 : Int32)))] [(.ref a0)])
    refine Goes.go (fun _ => XS.iload S.here B.x rfl (B.d d_prog_25_method_8_28) rfl) ?_
    show Goes _ _ _ _ T (mkF me_ 30 #[.val (.ref a0), .val (.long q1), .second, .val (.long q2), .second, .val (.int (own_fa sz ts q1)), .val (.int ((Int32.ofNat (own_pos ts q2)) - (1 : Int32)))] [(.int ((Int32.ofNat (own_pos ts q2)) - (1 : Int32))), (.ref a0)])
    refine Goes.callP (argsL := [(.int ((Int32.ofNat (own_pos ts q2)) - (1 : Int32)))]) (rest := []) (W := 0) S B (rm_last l Z aw hw a0 ((Int32.ofNat (own_pos ts q2)) - (1 : Int32)) gI gN (fun i => (.long (I i))) N f _ n0 E_a0 F_a0_first F_a0_instants F_a0_lastNumbers A_gI A_gN) E_a0 (w47 hw) (w49 hw) (w1 hw) (w48 hw) (w2 hw) (w50 hw) (by decide) (by decide) (by decide) (by decide) (by decide) rfl (lenOf pd_1 rfl) rfl (Nat.le_of_eq rfl) d_prog_25_method_8_30 ?_
    intro v T h S hQ
    obtain ⟨rfl, hh⟩ := hQ
    replace hh := hh.symm
    subst hh
    show Goes _ _ _ _ T (mkF me_ 33 #[.val (.ref a0), .val (.long q1), .second, .val (.long q2), .second, .val (.int (own_fa sz ts q1)), .val (.int ((Int32.ofNat (own_pos ts q2)) - (1 : Int32)))] [(.long (N ((f + ((Int32.ofNat (own_pos ts q2)) - (1 : Int32))) &&& (3 : Int32)).toNatClampNeg))])
    refine Goes.go (fun _ => XS.aloadN S.here B.x rfl (B.d d_prog_25_method_8_33) rfl rfl) ?_
    show Goes _ _ _ _ T (mkF me_ 34 #[.val (.ref a0), .val (.long q1), .second, .val (.long q2), .second, .val (.int (own_fa sz ts q1)), .val (.int ((Int32.ofNat (own_pos ts q2)) - (1 : Int32)))] [(.ref a0), (.long (N ((f + ((Int32.ofNat (own_pos ts q2)) - (1 : Int32))) &&& (3 : Int32)).toNatClampNeg))])
    refine Goes.go (fun _ => XS.iload S.here B.x rfl (B.d d_prog_25_method_8_34) rfl) ?_
    show Goes _ _ _ _ T (mkF me_ 36 #[.val (.ref a0), .val (.long q1), .second, .val (.long q2), .second, .val (.int (own_fa sz ts q1)), .val (.int ((Int32.ofNat (own_pos ts q2)) - (1 : Int32)))] [(.int (own_fa sz ts q1)), (.ref a0), (.long (N ((f + ((Int32.ofNat (own_pos ts q2)) - (1 : Int32))) &&& (3 : Int32)).toNatClampNeg))])
    refine Goes.callP (argsL := [(.int (own_fa sz ts q1))]) (rest := [(.long (N ((f + ((Int32.ofNat (own_pos ts q2)) - (1 : Int32))) &&& (3 : Int32)).toNatClampNeg))]) (W := 2) S B (rm_nb l Z aw hw a0 (own_fa sz ts q1) gI gN (fun i => (.long (I i))) N f d _ n0 E_a0 F_a0_instants F_a0_lastNumbers F_a0_first F_a0_dropped A_gI A_gN) E_a0 (w27 hw) (w29 hw) (w1 hw) (w28 hw) (w2 hw) (w30 hw) (by decide) (by decide) (by decide) (by decide) (by decide) rfl (lenOf pd_1 rfl) rfl (Nat.le_of_eq rfl) d_prog_25_method_8_36 ?_
    intro v T h S hQ
    obtain ⟨rfl, hh⟩ := hQ
    replace hh := hh.symm
    subst hh
    show Goes _ _ _ _ T (mkF me_ 39 #[.val (.ref a0), .val (.long q1), .second, .val (.long q2), .second, .val (.int (own_fa sz ts q1)), .val (.int ((Int32.ofNat (own_pos ts q2)) - (1 : Int32)))] [(.long (own_nbf (own_fa sz ts q1) d (N ((f + ((own_fa sz ts q1) - (1 : Int32))) &&& (3 : Int32)).toNatClampNeg))), (.long (N ((f + ((Int32.ofNat (own_pos ts q2)) - (1 : Int32))) &&& (3 : Int32)).toNatClampNeg))])
    refine Goes.go (fun _ => XS.lsub S.here B.x rfl (B.d d_prog_25_method_8_39) rfl) ?_
    show Goes _ _ _ _ T (mkF me_ 40 #[.val (.ref a0), .val (.long q1), .second, .val (.long q2), .second, .val (.int (own_fa sz ts q1)), .val (.int ((Int32.ofNat (own_pos ts q2)) - (1 : Int32)))] [(.long ((N ((f + ((Int32.ofNat (own_pos ts q2)) - (1 : Int32))) &&& (3 : Int32)).toNatClampNeg) - (own_nbf (own_fa sz ts q1) d (N ((f + ((own_fa sz ts q1) - (1 : Int32))) &&& (3 : Int32)).toNatClampNeg))))])
    refine Goes.retL S B d_prog_25_method_8_40 (by decide) (by decide) ?_
    exact ⟨(by simp [own_cnt, *]), rfl⟩
theorem ef_rm0 (m : MethodId) (q0 : Int64) (p1 : Int32) (p2 : Int32) (p3 : Int32) (p4 : Int32) : entryFrame m #[(.long q0), (.int p1), (.int p2), (.int p3), (.int p4)] maxLocals = mkF m 0 #[.val (.long q0), .second, .val (.int p1), .val (.int p2), .val (.int p3), .val (.int p4), .unset, .unset, .unset, .unset, .unset, .unset, .unset, .unset, .unset, .unset, .unset, .unset, .unset, .unset, .unset, .unset, .unset, .unset, .unset, .unset, .unset, .unset, .unset, .unset, .unset, .unset, .unset, .unset, .unset, .unset, .unset, .unset, .unset, .unset] [] := by first | (simp [entryFrame, mkF, argsToLocals, Value.category, maxLocals]; done) | rfl
def Q_rm0 (Z : State) (q0 : Int64) (p1 : Int32) (p2 : Int32) (p3 : Int32) (p4 : Int32) (h0 : Heap) (n0 : Nat) (v : Option Value) (h : Heap) : Prop := v = some (.int 1)
set_option maxRecDepth 65536 in
set_option maxHeartbeats 40000000 in
theorem rm0 (l : Launch) (Z : State) (aw : Array Value) (hw : ∀ d ∈ tables_1, d.before aw Z = true) (q0 : Int64) (p1 : Int32) (p2 : Int32) (p3 : Int32) (p4 : Int32) (h0 : Heap) (n0 : Nat) :
    Con l Z x code maxLocals ret room_1 #[(.long q0), (.int p1), (.int p2), (.int p3), (.int p4)] h0 n0 (Q_rm0 Z q0 p1 p2 p3 p4 h0 n0) := by
  refine Con.body (plainFor_of_name pn_1) ?_
  intro pr_ en_ st_ me_ below meth co_ T B S
  refine Goes.cast (ef_rm0 me_ q0 p1 p2 p3 p4) ?_
  refine Goes.go (fun _ => XS.lloadN S.here B.x rfl (B.d at_0) rfl) ?_
  show Goes _ _ _ _ T (mkF me_ 1 #[.val (.long q0), .second, .val (.int p1), .val (.int p2), .val (.int p3), .val (.int p4), .unset, .unset, .unset, .unset, .unset, .unset, .unset, .unset, .unset, .unset, .unset, .unset, .unset, .unset, .unset, .unset, .unset, .unset, .unset, .unset, .unset, .unset, .unset, .unset, .unset, .unset, .unset, .unset, .unset, .unset, .unset, .unset, .unset, .unset] [(.long q0)])
  refine Goes.go (fun _ => XS.iconst S.here B.x rfl (B.d at_1)) ?_
  show Goes _ _ _ _ T (mkF me_ 2 #[.val (.long q0), .second, .val (.int p1), .val (.int p2), .val (.int p3), .val (.int p4), .unset, .unset, .unset, .unset, .unset, .unset, .unset, .unset, .unset, .unset, .unset, .unset, .unset, .unset, .unset, .unset, .unset, .unset, .unset, .unset, .unset, .unset, .unset, .unset, .unset, .unset, .unset, .unset, .unset, .unset, .unset, .unset, .unset, .unset] [(.int (1 : Int32)), (.long q0)])
  refine Goes.go (fun _ => XS.lshr S.here B.x rfl (B.d at_2) rfl) ?_
  show Goes _ _ _ _ T (mkF me_ 3 #[.val (.long q0), .second, .val (.int p1), .val (.int p2), .val (.int p3), .val (.int p4), .unset, .unset, .unset, .unset, .unset, .unset, .unset, .unset, .unset, .unset, .unset, .unset, .unset, .unset, .unset, .unset, .unset, .unset, .unset, .unset, .unset, .unset, .unset, .unset, .unset, .unset, .unset, .unset, .unset, .unset, .unset, .unset, .unset, .unset] [(.long (q0 >>> ((1 : Int32) &&& 0x3f).toInt64))])
  generalize hv1 : (q0 >>> ((1 : Int32) &&& 0x3f).toInt64) = v1
  refine Goes.go (fun _ => XS.lstore (g := (mkF me_ 3 #[.val (.long q0), .second, .val (.int p1), .val (.int p2), .val (.int p3), .val (.int p4), .unset, .unset, .unset, .unset, .unset, .unset, .unset, .unset, .unset, .unset, .unset, .unset, .unset, .unset, .unset, .unset, .unset, .unset, .unset, .unset, .unset, .unset, .unset, .unset, .unset, .unset, .unset, .unset, .unset, .unset, .unset, .unset, .unset, .unset] [(.long v1)])) S.here B.x rfl (B.d at_3) rfl (l' := #[.val (.long q0), .second, .val (.int p1), .val (.int p2), .val (.int p3), .val (.int p4), .val (.long v1), .second, .unset, .unset, .unset, .unset, .unset, .unset, .unset, .unset, .unset, .unset, .unset, .unset, .unset, .unset, .unset, .unset, .unset, .unset, .unset, .unset, .unset, .unset, .unset, .unset, .unset, .unset, .unset, .unset, .unset, .unset, .unset, .unset]) rfl) ?_
  show Goes _ _ _ _ T (mkF me_ 5 #[.val (.long q0), .second, .val (.int p1), .val (.int p2), .val (.int p3), .val (.int p4), .val (.long v1), .second, .unset, .unset, .unset, .unset, .unset, .unset, .unset, .unset, .unset, .unset, .unset, .unset, .unset, .unset, .unset, .unset, .unset, .unset, .unset, .unset, .unset, .unset, .unset, .unset, .unset, .unset, .unset, .unset, .unset, .unset, .unset, .unset] [])
  refine Goes.go (fun _ => XS.lload S.here B.x rfl (B.d at_5) rfl) ?_
  show Goes _ _ _ _ T (mkF me_ 7 #[.val (.long q0), .second, .val (.int p1), .val (.int p2), .val (.int p3), .val (.int p4), .val (.long v1), .second, .unset, .unset, .unset, .unset, .unset, .unset, .unset, .unset, .unset, .unset, .unset, .unset, .unset, .unset, .unset, .unset, .unset, .unset, .unset, .unset, .unset, .unset, .unset, .unset, .unset, .unset, .unset, .unset, .unset, .unset, .unset, .unset] [(.long v1)])
  refine Goes.go (fun _ => XS.iloadN S.here B.x rfl (B.d at_7) rfl) ?_
  show Goes _ _ _ _ T (mkF me_ 8 #[.val (.long q0), .second, .val (.int p1), .val (.int p2), .val (.int p3), .val (.int p4), .val (.long v1), .second, .unset, .unset, .unset, .unset, .unset, .unset, .unset, .unset, .unset, .unset, .unset, .unset, .unset, .unset, .unset, .unset, .unset, .unset, .unset, .unset, .unset, .unset, .unset, .unset, .unset, .unset, .unset, .unset, .unset, .unset, .unset, .unset] [(.int p1), (.long v1)])
  refine Goes.go (fun _ => XS.iconst S.here B.x rfl (B.d at_8)) ?_
  show Goes _ _ _ _ T (mkF me_ 9 #[.val (.long q0), .second, .val (.int p1), .val (.int p2), .val (.int p3), .val (.int p4), .val (.long v1), .second, .unset, .unset, .unset, .unset, .unset, .unset, .unset, .unset, .unset, .unset, .unset, .unset, .unset, .unset, .unset, .unset, .unset, .unset, .unset, .unset, .unset, .unset, .unset, .unset, .unset, .unset, .unset, .unset, .unset, .unset, .unset, .unset] [(.int (3 : Int32)), (.int p1), (.long v1)])
  refine Goes.go (fun _ => XS.iand S.here B.x rfl (B.d at_9) rfl) ?_
  show Goes _ _ _ _ T (mkF me_ 10 #[.val (.long q0), .second, .val (.int p1), .val (.int p2), .val (.int p3), .val (.int p4), .val (.long v1), .second, .unset, .unset, .unset, .unset, .unset, .unset, .unset, .unset, .unset, .unset, .unset, .unset, .unset, .unset, .unset, .unset, .unset, .unset, .unset, .unset, .unset, .unset, .unset, .unset, .unset, .unset, .unset, .unset, .unset, .unset, .unset, .unset] [(.int (p1 &&& (3 : Int32))), (.long v1)])
  refine Goes.go (fun _ => XS.i2l S.here B.x rfl (B.d at_10) rfl) ?_
  show Goes _ _ _ _ T (mkF me_ 11 #[.val (.long q0), .second, .val (.int p1), .val (.int p2), .val (.int p3), .val (.int p4), .val (.long v1), .second, .unset, .unset, .unset, .unset, .unset, .unset, .unset, .unset, .unset, .unset, .unset, .unset, .unset, .unset, .unset, .unset, .unset, .unset, .unset, .unset, .unset, .unset, .unset, .unset, .unset, .unset, .unset, .unset, .unset, .unset, .unset, .unset] [(.long (p1 &&& (3 : Int32)).toInt64), (.long v1)])
  refine Goes.go (fun _ => XS.ladd S.here B.x rfl (B.d at_11) rfl) ?_
  show Goes _ _ _ _ T (mkF me_ 12 #[.val (.long q0), .second, .val (.int p1), .val (.int p2), .val (.int p3), .val (.int p4), .val (.long v1), .second, .unset, .unset, .unset, .unset, .unset, .unset, .unset, .unset, .unset, .unset, .unset, .unset, .unset, .unset, .unset, .unset, .unset, .unset, .unset, .unset, .unset, .unset, .unset, .unset, .unset, .unset, .unset, .unset, .unset, .unset, .unset, .unset] [(.long (v1 + (p1 &&& (3 : Int32)).toInt64))])
  refine Goes.go (fun _ => XS.lconst S.here B.x rfl (B.d at_12)) ?_
  show Goes _ _ _ _ T (mkF me_ 13 #[.val (.long q0), .second, .val (.int p1), .val (.int p2), .val (.int p3), .val (.int p4), .val (.long v1), .second, .unset, .unset, .unset, .unset, .unset, .unset, .unset, .unset, .unset, .unset, .unset, .unset, .unset, .unset, .unset, .unset, .unset, .unset, .unset, .unset, .unset, .unset, .unset, .unset, .unset, .unset, .unset, .unset, .unset, .unset, .unset, .unset] [(.long (1 : Int64)), (.long (v1 + (p1 &&& (3 : Int32)).toInt64))])
  refine Goes.go (fun _ => XS.ladd S.here B.x rfl (B.d at_13) rfl) ?_
  show Goes _ _ _ _ T (mkF me_ 14 #[.val (.long q0), .second, .val (.int p1), .val (.int p2), .val (.int p3), .val (.int p4), .val (.long v1), .second, .unset, .unset, .unset, .unset, .unset, .unset, .unset, .unset, .unset, .unset, .unset, .unset, .unset, .unset, .unset, .unset, .unset, .unset, .unset, .unset, .unset, .unset, .unset, .unset, .unset, .unset, .unset, .unset, .unset, .unset, .unset, .unset] [(.long ((v1 + (p1 &&& (3 : Int32)).toInt64) + (1 : Int64)))])
  generalize hv2 : ((v1 + (p1 &&& (3 : Int32)).toInt64) + (1 : Int64)) = v2
  refine Goes.go (fun _ => XS.lstore (g := (mkF me_ 14 #[.val (.long q0), .second, .val (.int p1), .val (.int p2), .val (.int p3), .val (.int p4), .val (.long v1), .second, .unset, .unset, .unset, .unset, .unset, .unset, .unset, .unset, .unset, .unset, .unset, .unset, .unset, .unset, .unset, .unset, .unset, .unset, .unset, .unset, .unset, .unset, .unset, .unset, .unset, .unset, .unset, .unset, .unset, .unset, .unset, .unset] [(.long v2)])) S.here B.x rfl (B.d at_14) rfl (l' := #[.val (.long q0), .second, .val (.int p1), .val (.int p2), .val (.int p3), .val (.int p4), .val (.long v1), .second, .val (.long v2), .second, .unset, .unset, .unset, .unset, .unset, .unset, .unset, .unset, .unset, .unset, .unset, .unset, .unset, .unset, .unset, .unset, .unset, .unset, .unset, .unset, .unset, .unset, .unset, .unset, .unset, .unset, .unset, .unset, .unset, .unset]) rfl) ?_
  show Goes _ _ _ _ T (mkF me_ 16 #[.val (.long q0), .second, .val (.int p1), .val (.int p2), .val (.int p3), .val (.int p4), .val (.long v1), .second, .val (.long v2), .second, .unset, .unset, .unset, .unset, .unset, .unset, .unset, .unset, .unset, .unset, .unset, .unset, .unset, .unset, .unset, .unset, .unset, .unset, .unset, .unset, .unset, .unset, .unset, .unset, .unset, .unset, .unset, .unset, .unset, .unset] [])
  refine Goes.go (fun _ => XS.lload S.here B.x rfl (B.d at_16) rfl) ?_
  show Goes _ _ _ _ T (mkF me_ 18 #[.val (.long q0), .second, .val (.int p1), .val (.int p2), .val (.int p3), .val (.int p4), .val (.long v1), .second, .val (.long v2), .second, .unset, .unset, .unset, .unset, .unset, .unset, .unset, .unset, .unset, .unset, .unset, .unset, .unset, .unset, .unset, .unset, .unset, .unset, .unset, .unset, .unset, .unset, .unset, .unset, .unset, .unset, .unset, .unset, .unset, .unset] [(.long v2)])
  refine Goes.go (fun _ => XS.iloadN S.here B.x rfl (B.d at_18) rfl) ?_
  show Goes _ _ _ _ T (mkF me_ 19 #[.val (.long q0), .second, .val (.int p1), .val (.int p2), .val (.int p3), .val (.int p4), .val (.long v1), .second, .val (.long v2), .second, .unset, .unset, .unset, .unset, .unset, .unset, .unset, .unset, .unset, .unset, .unset, .unset, .unset, .unset, .unset, .unset, .unset, .unset, .unset, .unset, .unset, .unset, .unset, .unset, .unset, .unset, .unset, .unset, .unset, .unset] [(.int p1), (.long v2)])
  refine Goes.go (fun _ => XS.iconst S.here B.x rfl (B.d at_19)) ?_
  show Goes _ _ _ _ T (mkF me_ 20 #[.val (.long q0), .second, .val (.int p1), .val (.int p2), .val (.int p3), .val (.int p4), .val (.long v1), .second, .val (.long v2), .second, .unset, .unset, .unset, .unset, .unset, .unset, .unset, .unset, .unset, .unset, .unset, .unset, .unset, .unset, .unset, .unset, .unset, .unset, .unset, .unset, .unset, .unset, .unset, .unset, .unset, .unset, .unset, .unset, .unset, .unset] [(.int (2 : Int32)), (.int p1), (.long v2)])
  refine Goes.go (fun _ => XS.iushr S.here B.x rfl (B.d at_20) rfl) ?_
  show Goes _ _ _ _ T (mkF me_ 21 #[.val (.long q0), .second, .val (.int p1), .val (.int p2), .val (.int p3), .val (.int p4), .val (.long v1), .second, .val (.long v2), .second, .unset, .unset, .unset, .unset, .unset, .unset, .unset, .unset, .unset, .unset, .unset, .unset, .unset, .unset, .unset, .unset, .unset, .unset, .unset, .unset, .unset, .unset, .unset, .unset, .unset, .unset, .unset, .unset, .unset, .unset] [(.int ((p1.toUInt32 >>> ((2 : Int32) &&& 31).toUInt32).toInt32)), (.long v2)])
  refine Goes.go (fun _ => XS.iconst S.here B.x rfl (B.d at_21)) ?_
  show Goes _ _ _ _ T (mkF me_ 22 #[.val (.long q0), .second, .val (.int p1), .val (.int p2), .val (.int p3), .val (.int p4), .val (.long v1), .second, .val (.long v2), .second, .unset, .unset, .unset, .unset, .unset, .unset, .unset, .unset, .unset, .unset, .unset, .unset, .unset, .unset, .unset, .unset, .unset, .unset, .unset, .unset, .unset, .unset, .unset, .unset, .unset, .unset, .unset, .unset, .unset, .unset] [(.int (3 : Int32)), (.int ((p1.toUInt32 >>> ((2 : Int32) &&& 31).toUInt32).toInt32)), (.long v2)])
  refine Goes.go (fun _ => XS.iand S.here B.x rfl (B.d at_22) rfl) ?_
  show Goes _ _ _ _ T (mkF me_ 23 #[.val (.long q0), .second, .val (.int p1), .val (.int p2), .val (.int p3), .val (.int p4), .val (.long v1), .second, .val (.long v2), .second, .unset, .unset, .unset, .unset, .unset, .unset, .unset, .unset, .unset, .unset, .unset, .unset, .unset, .unset, .unset, .unset, .unset, .unset, .unset, .unset, .unset, .unset, .unset, .unset, .unset, .unset, .unset, .unset, .unset, .unset] [(.int (((p1.toUInt32 >>> ((2 : Int32) &&& 31).toUInt32).toInt32) &&& (3 : Int32))), (.long v2)])
  refine Goes.go (fun _ => XS.i2l S.here B.x rfl (B.d at_23) rfl) ?_
  show Goes _ _ _ _ T (mkF me_ 24 #[.val (.long q0), .second, .val (.int p1), .val (.int p2), .val (.int p3), .val (.int p4), .val (.long v1), .second, .val (.long v2), .second, .unset, .unset, .unset, .unset, .unset, .unset, .unset, .unset, .unset, .unset, .unset, .unset, .unset, .unset, .unset, .unset, .unset, .unset, .unset, .unset, .unset, .unset, .unset, .unset, .unset, .unset, .unset, .unset, .unset, .unset] [(.long (((p1.toUInt32 >>> ((2 : Int32) &&& 31).toUInt32).toInt32) &&& (3 : Int32)).toInt64), (.long v2)])
  refine Goes.go (fun _ => XS.ladd S.here B.x rfl (B.d at_24) rfl) ?_
  show Goes _ _ _ _ T (mkF me_ 25 #[.val (.long q0), .second, .val (.int p1), .val (.int p2), .val (.int p3), .val (.int p4), .val (.long v1), .second, .val (.long v2), .second, .unset, .unset, .unset, .unset, .unset, .unset, .unset, .unset, .unset, .unset, .unset, .unset, .unset, .unset, .unset, .unset, .unset, .unset, .unset, .unset, .unset, .unset, .unset, .unset, .unset, .unset, .unset, .unset, .unset, .unset] [(.long (v2 + (((p1.toUInt32 >>> ((2 : Int32) &&& 31).toUInt32).toInt32) &&& (3 : Int32)).toInt64))])
  refine Goes.go (fun _ => XS.lconst S.here B.x rfl (B.d at_25)) ?_
  show Goes _ _ _ _ T (mkF me_ 26 #[.val (.long q0), .second, .val (.int p1), .val (.int p2), .val (.int p3), .val (.int p4), .val (.long v1), .second, .val (.long v2), .second, .unset, .unset, .unset, .unset, .unset, .unset, .unset, .unset, .unset, .unset, .unset, .unset, .unset, .unset, .unset, .unset, .unset, .unset, .unset, .unset, .unset, .unset, .unset, .unset, .unset, .unset, .unset, .unset, .unset, .unset] [(.long (1 : Int64)), (.long (v2 + (((p1.toUInt32 >>> ((2 : Int32) &&& 31).toUInt32).toInt32) &&& (3 : Int32)).toInt64))])
  refine Goes.go (fun _ => XS.ladd S.here B.x rfl (B.d at_26) rfl) ?_
  show Goes _ _ _ _ T (mkF me_ 27 #[.val (.long q0), .second, .val (.int p1), .val (.int p2), .val (.int p3), .val (.int p4), .val (.long v1), .second, .val (.long v2), .second, .unset, .unset, .unset, .unset, .unset, .unset, .unset, .unset, .unset, .unset, .unset, .unset, .unset, .unset, .unset, .unset, .unset, .unset, .unset, .unset, .unset, .unset, .unset, .unset, .unset, .unset, .unset, .unset, .unset, .unset] [(.long ((v2 + (((p1.toUInt32 >>> ((2 : Int32) &&& 31).toUInt32).toInt32) &&& (3 : Int32)).toInt64) + (1 : Int64)))])
  generalize hv3 : ((v2 + (((p1.toUInt32 >>> ((2 : Int32) &&& 31).toUInt32).toInt32) &&& (3 : Int32)).toInt64) + (1 : Int64)) = v3
  refine Goes.go (fun _ => XS.lstore (g := (mkF me_ 27 #[.val (.long q0), .second, .val (.int p1), .val (.int p2), .val (.int p3), .val (.int p4), .val (.long v1), .second, .val (.long v2), .second, .unset, .unset, .unset, .unset, .unset, .unset, .unset, .unset, .unset, .unset, .unset, .unset, .unset, .unset, .unset, .unset, .unset, .unset, .unset, .unset, .unset, .unset, .unset, .unset, .unset, .unset, .unset, .unset, .unset, .unset] [(.long v3)])) S.here B.x rfl (B.d at_27) rfl (l' := #[.val (.long q0), .second, .val (.int p1), .val (.int p2), .val (.int p3), .val (.int p4), .val (.long v1), .second, .val (.long v2), .second, .val (.long v3), .second, .unset, .unset, .unset, .unset, .unset, .unset, .unset, .unset, .unset, .unset, .unset, .unset, .unset, .unset, .unset, .unset, .unset, .unset, .unset, .unset, .unset, .unset, .unset, .unset, .unset, .unset, .unset, .unset]) rfl) ?_
  show Goes _ _ _ _ T (mkF me_ 29 #[.val (.long q0), .second, .val (.int p1), .val (.int p2), .val (.int p3), .val (.int p4), .val (.long v1), .second, .val (.long v2), .second, .val (.long v3), .second, .unset, .unset, .unset, .unset, .unset, .unset, .unset, .unset, .unset, .unset, .unset, .unset, .unset, .unset, .unset, .unset, .unset, .unset, .unset, .unset, .unset, .unset, .unset, .unset, .unset, .unset, .unset, .unset] [])
  refine Goes.go (fun _ => XS.iloadN S.here B.x rfl (B.d at_29) rfl) ?_
  show Goes _ _ _ _ T (mkF me_ 30 #[.val (.long q0), .second, .val (.int p1), .val (.int p2), .val (.int p3), .val (.int p4), .val (.long v1), .second, .val (.long v2), .second, .val (.long v3), .second, .unset, .unset, .unset, .unset, .unset, .unset, .unset, .unset, .unset, .unset, .unset, .unset, .unset, .unset, .unset, .unset, .unset, .unset, .unset, .unset, .unset, .unset, .unset, .unset, .unset, .unset, .unset, .unset] [(.int p2)])
  refine Goes.go (fun _ => XS.bipush S.here B.x rfl (B.d at_30)) ?_
  show Goes _ _ _ _ T (mkF me_ 32 #[.val (.long q0), .second, .val (.int p1), .val (.int p2), .val (.int p3), .val (.int p4), .val (.long v1), .second, .val (.long v2), .second, .val (.long v3), .second, .unset, .unset, .unset, .unset, .unset, .unset, .unset, .unset, .unset, .unset, .unset, .unset, .unset, .unset, .unset, .unset, .unset, .unset, .unset, .unset, .unset, .unset, .unset, .unset, .unset, .unset, .unset, .unset] [(.int (7 : Int32)), (.int p2)])
  refine Goes.go (fun _ => XS.iand S.here B.x rfl (B.d at_32) rfl) ?_
  show Goes _ _ _ _ T (mkF me_ 33 #[.val (.long q0), .second, .val (.int p1), .val (.int p2), .val (.int p3), .val (.int p4), .val (.long v1), .second, .val (.long v2), .second, .val (.long v3), .second, .unset, .unset, .unset, .unset, .unset, .unset, .unset, .unset, .unset, .unset, .unset, .unset, .unset, .unset, .unset, .unset, .unset, .unset, .unset, .unset, .unset, .unset, .unset, .unset, .unset, .unset, .unset, .unset] [(.int (p2 &&& (7 : Int32)))])
  refine Goes.go (fun _ => XS.iconst S.here B.x rfl (B.d at_33)) ?_
  show Goes _ _ _ _ T (mkF me_ 34 #[.val (.long q0), .second, .val (.int p1), .val (.int p2), .val (.int p3), .val (.int p4), .val (.long v1), .second, .val (.long v2), .second, .val (.long v3), .second, .unset, .unset, .unset, .unset, .unset, .unset, .unset, .unset, .unset, .unset, .unset, .unset, .unset, .unset, .unset, .unset, .unset, .unset, .unset, .unset, .unset, .unset, .unset, .unset, .unset, .unset, .unset, .unset] [(.int (1 : Int32)), (.int (p2 &&& (7 : Int32)))])
  refine Goes.go (fun _ => XS.iadd S.here B.x rfl (B.d at_34) rfl) ?_
  show Goes _ _ _ _ T (mkF me_ 35 #[.val (.long q0), .second, .val (.int p1), .val (.int p2), .val (.int p3), .val (.int p4), .val (.long v1), .second, .val (.long v2), .second, .val (.long v3), .second, .unset, .unset, .unset, .unset, .unset, .unset, .unset, .unset, .unset, .unset, .unset, .unset, .unset, .unset, .unset, .unset, .unset, .unset, .unset, .unset, .unset, .unset, .unset, .unset, .unset, .unset, .unset, .unset] [(.int ((p2 &&& (7 : Int32)) + (1 : Int32)))])
  refine Goes.go (fun _ => XS.i2l S.here B.x rfl (B.d at_35) rfl) ?_
  show Goes _ _ _ _ T (mkF me_ 36 #[.val (.long q0), .second, .val (.int p1), .val (.int p2), .val (.int p3), .val (.int p4), .val (.long v1), .second, .val (.long v2), .second, .val (.long v3), .second, .unset, .unset, .unset, .unset, .unset, .unset, .unset, .unset, .unset, .unset, .unset, .unset, .unset, .unset, .unset, .unset, .unset, .unset, .unset, .unset, .unset, .unset, .unset, .unset, .unset, .unset, .unset, .unset] [(.long ((p2 &&& (7 : Int32)) + (1 : Int32)).toInt64)])
  generalize hv4 : ((p2 &&& (7 : Int32)) + (1 : Int32)).toInt64 = v4
  refine Goes.go (fun _ => XS.lstore (g := (mkF me_ 36 #[.val (.long q0), .second, .val (.int p1), .val (.int p2), .val (.int p3), .val (.int p4), .val (.long v1), .second, .val (.long v2), .second, .val (.long v3), .second, .unset, .unset, .unset, .unset, .unset, .unset, .unset, .unset, .unset, .unset, .unset, .unset, .unset, .unset, .unset, .unset, .unset, .unset, .unset, .unset, .unset, .unset, .unset, .unset, .unset, .unset, .unset, .unset] [(.long v4)])) S.here B.x rfl (B.d at_36) rfl (l' := #[.val (.long q0), .second, .val (.int p1), .val (.int p2), .val (.int p3), .val (.int p4), .val (.long v1), .second, .val (.long v2), .second, .val (.long v3), .second, .val (.long v4), .second, .unset, .unset, .unset, .unset, .unset, .unset, .unset, .unset, .unset, .unset, .unset, .unset, .unset, .unset, .unset, .unset, .unset, .unset, .unset, .unset, .unset, .unset, .unset, .unset, .unset, .unset]) rfl) ?_
  show Goes _ _ _ _ T (mkF me_ 38 #[.val (.long q0), .second, .val (.int p1), .val (.int p2), .val (.int p3), .val (.int p4), .val (.long v1), .second, .val (.long v2), .second, .val (.long v3), .second, .val (.long v4), .second, .unset, .unset, .unset, .unset, .unset, .unset, .unset, .unset, .unset, .unset, .unset, .unset, .unset, .unset, .unset, .unset, .unset, .unset, .unset, .unset, .unset, .unset, .unset, .unset, .unset, .unset] [])
  refine Goes.go (fun _ => XS.iloadN S.here B.x rfl (B.d at_38) rfl) ?_
  show Goes _ _ _ _ T (mkF me_ 39 #[.val (.long q0), .second, .val (.int p1), .val (.int p2), .val (.int p3), .val (.int p4), .val (.long v1), .second, .val (.long v2), .second, .val (.long v3), .second, .val (.long v4), .second, .unset, .unset, .unset, .unset, .unset, .unset, .unset, .unset, .unset, .unset, .unset, .unset, .unset, .unset, .unset, .unset, .unset, .unset, .unset, .unset, .unset, .unset, .unset, .unset, .unset, .unset] [(.int p2)])
  refine Goes.go (fun _ => XS.iconst S.here B.x rfl (B.d at_39)) ?_
  show Goes _ _ _ _ T (mkF me_ 40 #[.val (.long q0), .second, .val (.int p1), .val (.int p2), .val (.int p3), .val (.int p4), .val (.long v1), .second, .val (.long v2), .second, .val (.long v3), .second, .val (.long v4), .second, .unset, .unset, .unset, .unset, .unset, .unset, .unset, .unset, .unset, .unset, .unset, .unset, .unset, .unset, .unset, .unset, .unset, .unset, .unset, .unset, .unset, .unset, .unset, .unset, .unset, .unset] [(.int (3 : Int32)), (.int p2)])
  refine Goes.go (fun _ => XS.iushr S.here B.x rfl (B.d at_40) rfl) ?_
  show Goes _ _ _ _ T (mkF me_ 41 #[.val (.long q0), .second, .val (.int p1), .val (.int p2), .val (.int p3), .val (.int p4), .val (.long v1), .second, .val (.long v2), .second, .val (.long v3), .second, .val (.long v4), .second, .unset, .unset, .unset, .unset, .unset, .unset, .unset, .unset, .unset, .unset, .unset, .unset, .unset, .unset, .unset, .unset, .unset, .unset, .unset, .unset, .unset, .unset, .unset, .unset, .unset, .unset] [(.int ((p2.toUInt32 >>> ((3 : Int32) &&& 31).toUInt32).toInt32))])
  refine Goes.go (fun _ => XS.bipush S.here B.x rfl (B.d at_41)) ?_
  show Goes _ _ _ _ T (mkF me_ 43 #[.val (.long q0), .second, .val (.int p1), .val (.int p2), .val (.int p3), .val (.int p4), .val (.long v1), .second, .val (.long v2), .second, .val (.long v3), .second, .val (.long v4), .second, .unset, .unset, .unset, .unset, .unset, .unset, .unset, .unset, .unset, .unset, .unset, .unset, .unset, .unset, .unset, .unset, .unset, .unset, .unset, .unset, .unset, .unset, .unset, .unset, .unset, .unset] [(.int (7 : Int32)), (.int ((p2.toUInt32 >>> ((3 : Int32) &&& 31).toUInt32).toInt32))])
  refine Goes.go (fun _ => XS.iand S.here B.x rfl (B.d at_43) rfl) ?_
  show Goes _ _ _ _ T (mkF me_ 44 #[.val (.long q0), .second, .val (.int p1), .val (.int p2), .val (.int p3), .val (.int p4), .val (.long v1), .second, .val (.long v2), .second, .val (.long v3), .second, .val (.long v4), .second, .unset, .unset, .unset, .unset, .unset, .unset, .unset, .unset, .unset, .unset, .unset, .unset, .unset, .unset, .unset, .unset, .unset, .unset, .unset, .unset, .unset, .unset, .unset, .unset, .unset, .unset] [(.int (((p2.toUInt32 >>> ((3 : Int32) &&& 31).toUInt32).toInt32) &&& (7 : Int32)))])
  refine Goes.go (fun _ => XS.iconst S.here B.x rfl (B.d at_44)) ?_
  show Goes _ _ _ _ T (mkF me_ 45 #[.val (.long q0), .second, .val (.int p1), .val (.int p2), .val (.int p3), .val (.int p4), .val (.long v1), .second, .val (.long v2), .second, .val (.long v3), .second, .val (.long v4), .second, .unset, .unset, .unset, .unset, .unset, .unset, .unset, .unset, .unset, .unset, .unset, .unset, .unset, .unset, .unset, .unset, .unset, .unset, .unset, .unset, .unset, .unset, .unset, .unset, .unset, .unset] [(.int (1 : Int32)), (.int (((p2.toUInt32 >>> ((3 : Int32) &&& 31).toUInt32).toInt32) &&& (7 : Int32)))])
  refine Goes.go (fun _ => XS.iadd S.here B.x rfl (B.d at_45) rfl) ?_
  show Goes _ _ _ _ T (mkF me_ 46 #[.val (.long q0), .second, .val (.int p1), .val (.int p2), .val (.int p3), .val (.int p4), .val (.long v1), .second, .val (.long v2), .second, .val (.long v3), .second, .val (.long v4), .second, .unset, .unset, .unset, .unset, .unset, .unset, .unset, .unset, .unset, .unset, .unset, .unset, .unset, .unset, .unset, .unset, .unset, .unset, .unset, .unset, .unset, .unset, .unset, .unset, .unset, .unset] [(.int ((((p2.toUInt32 >>> ((3 : Int32) &&& 31).toUInt32).toInt32) &&& (7 : Int32)) + (1 : Int32)))])
  refine Goes.go (fun _ => XS.i2l S.here B.x rfl (B.d at_46) rfl) ?_
  show Goes _ _ _ _ T (mkF me_ 47 #[.val (.long q0), .second, .val (.int p1), .val (.int p2), .val (.int p3), .val (.int p4), .val (.long v1), .second, .val (.long v2), .second, .val (.long v3), .second, .val (.long v4), .second, .unset, .unset, .unset, .unset, .unset, .unset, .unset, .unset, .unset, .unset, .unset, .unset, .unset, .unset, .unset, .unset, .unset, .unset, .unset, .unset, .unset, .unset, .unset, .unset, .unset, .unset] [(.long ((((p2.toUInt32 >>> ((3 : Int32) &&& 31).toUInt32).toInt32) &&& (7 : Int32)) + (1 : Int32)).toInt64)])
  generalize hv5 : ((((p2.toUInt32 >>> ((3 : Int32) &&& 31).toUInt32).toInt32) &&& (7 : Int32)) + (1 : Int32)).toInt64 = v5
  refine Goes.go (fun _ => XS.lstore (g := (mkF me_ 47 #[.val (.long q0), .second, .val (.int p1), .val (.int p2), .val (.int p3), .val (.int p4), .val (.long v1), .second, .val (.long v2), .second, .val (.long v3), .second, .val (.long v4), .second, .unset, .unset, .unset, .unset, .unset, .unset, .unset, .unset, .unset, .unset, .unset, .unset, .unset, .unset, .unset, .unset, .unset, .unset, .unset, .unset, .unset, .unset, .unset, .unset, .unset, .unset] [(.long v5)])) S.here B.x rfl (B.d at_47) rfl (l' := #[.val (.long q0), .second, .val (.int p1), .val (.int p2), .val (.int p3), .val (.int p4), .val (.long v1), .second, .val (.long v2), .second, .val (.long v3), .second, .val (.long v4), .second, .val (.long v5), .second, .unset, .unset, .unset, .unset, .unset, .unset, .unset, .unset, .unset, .unset, .unset, .unset, .unset, .unset, .unset, .unset, .unset, .unset, .unset, .unset, .unset, .unset, .unset, .unset]) rfl) ?_
  show Goes _ _ _ _ T (mkF me_ 49 #[.val (.long q0), .second, .val (.int p1), .val (.int p2), .val (.int p3), .val (.int p4), .val (.long v1), .second, .val (.long v2), .second, .val (.long v3), .second, .val (.long v4), .second, .val (.long v5), .second, .unset, .unset, .unset, .unset, .unset, .unset, .unset, .unset, .unset, .unset, .unset, .unset, .unset, .unset, .unset, .unset, .unset, .unset, .unset, .unset, .unset, .unset, .unset, .unset] [])
  refine Goes.go (fun _ => XS.iloadN S.here B.x rfl (B.d at_49) rfl) ?_
  show Goes _ _ _ _ T (mkF me_ 50 #[.val (.long q0), .second, .val (.int p1), .val (.int p2), .val (.int p3), .val (.int p4), .val (.long v1), .second, .val (.long v2), .second, .val (.long v3), .second, .val (.long v4), .second, .val (.long v5), .second, .unset, .unset, .unset, .unset, .unset, .unset, .unset, .unset, .unset, .unset, .unset, .unset, .unset, .unset, .unset, .unset, .unset, .unset, .unset, .unset, .unset, .unset, .unset, .unset] [(.int p2)])
  refine Goes.go (fun _ => XS.bipush S.here B.x rfl (B.d at_50)) ?_
  show Goes _ _ _ _ T (mkF me_ 52 #[.val (.long q0), .second, .val (.int p1), .val (.int p2), .val (.int p3), .val (.int p4), .val (.long v1), .second, .val (.long v2), .second, .val (.long v3), .second, .val (.long v4), .second, .val (.long v5), .second, .unset, .unset, .unset, .unset, .unset, .unset, .unset, .unset, .unset, .unset, .unset, .unset, .unset, .unset, .unset, .unset, .unset, .unset, .unset, .unset, .unset, .unset, .unset, .unset] [(.int (6 : Int32)), (.int p2)])
  refine Goes.go (fun _ => XS.iushr S.here B.x rfl (B.d at_52) rfl) ?_
  show Goes _ _ _ _ T (mkF me_ 53 #[.val (.long q0), .second, .val (.int p1), .val (.int p2), .val (.int p3), .val (.int p4), .val (.long v1), .second, .val (.long v2), .second, .val (.long v3), .second, .val (.long v4), .second, .val (.long v5), .second, .unset, .unset, .unset, .unset, .unset, .unset, .unset, .unset, .unset, .unset, .unset, .unset, .unset, .unset, .unset, .unset, .unset, .unset, .unset, .unset, .unset, .unset, .unset, .unset] [(.int ((p2.toUInt32 >>> ((6 : Int32) &&& 31).toUInt32).toInt32))])
  refine Goes.go (fun _ => XS.bipush S.here B.x rfl (B.d at_53)) ?_
  show Goes _ _ _ _ T (mkF me_ 55 #[.val (.long q0), .second, .val (.int p1), .val (.int p2), .val (.int p3), .val (.int p4), .val (.long v1), .second, .val (.long v2), .second, .val (.long v3), .second, .val (.long v4), .second, .val (.long v5), .second, .unset, .unset, .unset, .unset, .unset, .unset, .unset, .unset, .unset, .unset, .unset, .unset, .unset, .unset, .unset, .unset, .unset, .unset, .unset, .unset, .unset, .unset, .unset, .unset] [(.int (7 : Int32)), (.int ((p2.toUInt32 >>> ((6 : Int32) &&& 31).toUInt32).toInt32))])
  refine Goes.go (fun _ => XS.iand S.here B.x rfl (B.d at_55) rfl) ?_
  show Goes _ _ _ _ T (mkF me_ 56 #[.val (.long q0), .second, .val (.int p1), .val (.int p2), .val (.int p3), .val (.int p4), .val (.long v1), .second, .val (.long v2), .second, .val (.long v3), .second, .val (.long v4), .second, .val (.long v5), .second, .unset, .unset, .unset, .unset, .unset, .unset, .unset, .unset, .unset, .unset, .unset, .unset, .unset, .unset, .unset, .unset, .unset, .unset, .unset, .unset, .unset, .unset, .unset, .unset] [(.int (((p2.toUInt32 >>> ((6 : Int32) &&& 31).toUInt32).toInt32) &&& (7 : Int32)))])
  refine Goes.go (fun _ => XS.iconst S.here B.x rfl (B.d at_56)) ?_
  show Goes _ _ _ _ T (mkF me_ 57 #[.val (.long q0), .second, .val (.int p1), .val (.int p2), .val (.int p3), .val (.int p4), .val (.long v1), .second, .val (.long v2), .second, .val (.long v3), .second, .val (.long v4), .second, .val (.long v5), .second, .unset, .unset, .unset, .unset, .unset, .unset, .unset, .unset, .unset, .unset, .unset, .unset, .unset, .unset, .unset, .unset, .unset, .unset, .unset, .unset, .unset, .unset, .unset, .unset] [(.int (1 : Int32)), (.int (((p2.toUInt32 >>> ((6 : Int32) &&& 31).toUInt32).toInt32) &&& (7 : Int32)))])
  refine Goes.go (fun _ => XS.iadd S.here B.x rfl (B.d at_57) rfl) ?_
  show Goes _ _ _ _ T (mkF me_ 58 #[.val (.long q0), .second, .val (.int p1), .val (.int p2), .val (.int p3), .val (.int p4), .val (.long v1), .second, .val (.long v2), .second, .val (.long v3), .second, .val (.long v4), .second, .val (.long v5), .second, .unset, .unset, .unset, .unset, .unset, .unset, .unset, .unset, .unset, .unset, .unset, .unset, .unset, .unset, .unset, .unset, .unset, .unset, .unset, .unset, .unset, .unset, .unset, .unset] [(.int ((((p2.toUInt32 >>> ((6 : Int32) &&& 31).toUInt32).toInt32) &&& (7 : Int32)) + (1 : Int32)))])
  refine Goes.go (fun _ => XS.i2l S.here B.x rfl (B.d at_58) rfl) ?_
  show Goes _ _ _ _ T (mkF me_ 59 #[.val (.long q0), .second, .val (.int p1), .val (.int p2), .val (.int p3), .val (.int p4), .val (.long v1), .second, .val (.long v2), .second, .val (.long v3), .second, .val (.long v4), .second, .val (.long v5), .second, .unset, .unset, .unset, .unset, .unset, .unset, .unset, .unset, .unset, .unset, .unset, .unset, .unset, .unset, .unset, .unset, .unset, .unset, .unset, .unset, .unset, .unset, .unset, .unset] [(.long ((((p2.toUInt32 >>> ((6 : Int32) &&& 31).toUInt32).toInt32) &&& (7 : Int32)) + (1 : Int32)).toInt64)])
  generalize hv6 : ((((p2.toUInt32 >>> ((6 : Int32) &&& 31).toUInt32).toInt32) &&& (7 : Int32)) + (1 : Int32)).toInt64 = v6
  refine Goes.go (fun _ => XS.lstore (g := (mkF me_ 59 #[.val (.long q0), .second, .val (.int p1), .val (.int p2), .val (.int p3), .val (.int p4), .val (.long v1), .second, .val (.long v2), .second, .val (.long v3), .second, .val (.long v4), .second, .val (.long v5), .second, .unset, .unset, .unset, .unset, .unset, .unset, .unset, .unset, .unset, .unset, .unset, .unset, .unset, .unset, .unset, .unset, .unset, .unset, .unset, .unset, .unset, .unset, .unset, .unset] [(.long v6)])) S.here B.x rfl (B.d at_59) rfl (l' := #[.val (.long q0), .second, .val (.int p1), .val (.int p2), .val (.int p3), .val (.int p4), .val (.long v1), .second, .val (.long v2), .second, .val (.long v3), .second, .val (.long v4), .second, .val (.long v5), .second, .val (.long v6), .second, .unset, .unset, .unset, .unset, .unset, .unset, .unset, .unset, .unset, .unset, .unset, .unset, .unset, .unset, .unset, .unset, .unset, .unset, .unset, .unset, .unset, .unset]) rfl) ?_
  show Goes _ _ _ _ T (mkF me_ 61 #[.val (.long q0), .second, .val (.int p1), .val (.int p2), .val (.int p3), .val (.int p4), .val (.long v1), .second, .val (.long v2), .second, .val (.long v3), .second, .val (.long v4), .second, .val (.long v5), .second, .val (.long v6), .second, .unset, .unset, .unset, .unset, .unset, .unset, .unset, .unset, .unset, .unset, .unset, .unset, .unset, .unset, .unset, .unset, .unset, .unset, .unset, .unset, .unset, .unset] [])
  refine Goes.go (fun _ => XS.iload S.here B.x rfl (B.d at_61) rfl) ?_
  show Goes _ _ _ _ T (mkF me_ 63 #[.val (.long q0), .second, .val (.int p1), .val (.int p2), .val (.int p3), .val (.int p4), .val (.long v1), .second, .val (.long v2), .second, .val (.long v3), .second, .val (.long v4), .second, .val (.long v5), .second, .val (.long v6), .second, .unset, .unset, .unset, .unset, .unset, .unset, .unset, .unset, .unset, .unset, .unset, .unset, .unset, .unset, .unset, .unset, .unset, .unset, .unset, .unset, .unset, .unset] [(.int p3)])
  refine Goes.go (fun _ => XS.bipush S.here B.x rfl (B.d at_63)) ?_
  show Goes _ _ _ _ T (mkF me_ 65 #[.val (.long q0), .second, .val (.int p1), .val (.int p2), .val (.int p3), .val (.int p4), .val (.long v1), .second, .val (.long v2), .second, .val (.long v3), .second, .val (.long v4), .second, .val (.long v5), .second, .val (.long v6), .second, .unset, .unset, .unset, .unset, .unset, .unset, .unset, .unset, .unset, .unset, .unset, .unset, .unset, .unset, .unset, .unset, .unset, .unset, .unset, .unset, .unset, .unset] [(.int (31 : Int32)), (.int p3)])
  refine Goes.go (fun _ => XS.iand S.here B.x rfl (B.d at_65) rfl) ?_
  show Goes _ _ _ _ T (mkF me_ 66 #[.val (.long q0), .second, .val (.int p1), .val (.int p2), .val (.int p3), .val (.int p4), .val (.long v1), .second, .val (.long v2), .second, .val (.long v3), .second, .val (.long v4), .second, .val (.long v5), .second, .val (.long v6), .second, .unset, .unset, .unset, .unset, .unset, .unset, .unset, .unset, .unset, .unset, .unset, .unset, .unset, .unset, .unset, .unset, .unset, .unset, .unset, .unset, .unset, .unset] [(.int (p3 &&& (31 : Int32)))])
  refine Goes.go (fun _ => XS.i2l S.here B.x rfl (B.d at_66) rfl) ?_
  show Goes _ _ _ _ T (mkF me_ 67 #[.val (.long q0), .second, .val (.int p1), .val (.int p2), .val (.int p3), .val (.int p4), .val (.long v1), .second, .val (.long v2), .second, .val (.long v3), .second, .val (.long v4), .second, .val (.long v5), .second, .val (.long v6), .second, .unset, .unset, .unset, .unset, .unset, .unset, .unset, .unset, .unset, .unset, .unset, .unset, .unset, .unset, .unset, .unset, .unset, .unset, .unset, .unset, .unset, .unset] [(.long (p3 &&& (31 : Int32)).toInt64)])
  generalize hv7 : (p3 &&& (31 : Int32)).toInt64 = v7
  refine Goes.go (fun _ => XS.lstore (g := (mkF me_ 67 #[.val (.long q0), .second, .val (.int p1), .val (.int p2), .val (.int p3), .val (.int p4), .val (.long v1), .second, .val (.long v2), .second, .val (.long v3), .second, .val (.long v4), .second, .val (.long v5), .second, .val (.long v6), .second, .unset, .unset, .unset, .unset, .unset, .unset, .unset, .unset, .unset, .unset, .unset, .unset, .unset, .unset, .unset, .unset, .unset, .unset, .unset, .unset, .unset, .unset] [(.long v7)])) S.here B.x rfl (B.d at_67) rfl (l' := #[.val (.long q0), .second, .val (.int p1), .val (.int p2), .val (.int p3), .val (.int p4), .val (.long v1), .second, .val (.long v2), .second, .val (.long v3), .second, .val (.long v4), .second, .val (.long v5), .second, .val (.long v6), .second, .val (.long v7), .second, .unset, .unset, .unset, .unset, .unset, .unset, .unset, .unset, .unset, .unset, .unset, .unset, .unset, .unset, .unset, .unset, .unset, .unset, .unset, .unset]) rfl) ?_
  show Goes _ _ _ _ T (mkF me_ 69 #[.val (.long q0), .second, .val (.int p1), .val (.int p2), .val (.int p3), .val (.int p4), .val (.long v1), .second, .val (.long v2), .second, .val (.long v3), .second, .val (.long v4), .second, .val (.long v5), .second, .val (.long v6), .second, .val (.long v7), .second, .unset, .unset, .unset, .unset, .unset, .unset, .unset, .unset, .unset, .unset, .unset, .unset, .unset, .unset, .unset, .unset, .unset, .unset, .unset, .unset] [])
  refine Goes.go (fun _ => XS.iload S.here B.x rfl (B.d at_69) rfl) ?_
  show Goes _ _ _ _ T (mkF me_ 71 #[.val (.long q0), .second, .val (.int p1), .val (.int p2), .val (.int p3), .val (.int p4), .val (.long v1), .second, .val (.long v2), .second, .val (.long v3), .second, .val (.long v4), .second, .val (.long v5), .second, .val (.long v6), .second, .val (.long v7), .second, .unset, .unset, .unset, .unset, .unset, .unset, .unset, .unset, .unset, .unset, .unset, .unset, .unset, .unset, .unset, .unset, .unset, .unset, .unset, .unset] [(.int p4)])
  refine Goes.go (fun _ => XS.bipush S.here B.x rfl (B.d at_71)) ?_
  show Goes _ _ _ _ T (mkF me_ 73 #[.val (.long q0), .second, .val (.int p1), .val (.int p2), .val (.int p3), .val (.int p4), .val (.long v1), .second, .val (.long v2), .second, .val (.long v3), .second, .val (.long v4), .second, .val (.long v5), .second, .val (.long v6), .second, .val (.long v7), .second, .unset, .unset, .unset, .unset, .unset, .unset, .unset, .unset, .unset, .unset, .unset, .unset, .unset, .unset, .unset, .unset, .unset, .unset, .unset, .unset] [(.int (31 : Int32)), (.int p4)])
  refine Goes.go (fun _ => XS.iand S.here B.x rfl (B.d at_73) rfl) ?_
  show Goes _ _ _ _ T (mkF me_ 74 #[.val (.long q0), .second, .val (.int p1), .val (.int p2), .val (.int p3), .val (.int p4), .val (.long v1), .second, .val (.long v2), .second, .val (.long v3), .second, .val (.long v4), .second, .val (.long v5), .second, .val (.long v6), .second, .val (.long v7), .second, .unset, .unset, .unset, .unset, .unset, .unset, .unset, .unset, .unset, .unset, .unset, .unset, .unset, .unset, .unset, .unset, .unset, .unset, .unset, .unset] [(.int (p4 &&& (31 : Int32)))])
  refine Goes.go (fun _ => XS.i2l S.here B.x rfl (B.d at_74) rfl) ?_
  show Goes _ _ _ _ T (mkF me_ 75 #[.val (.long q0), .second, .val (.int p1), .val (.int p2), .val (.int p3), .val (.int p4), .val (.long v1), .second, .val (.long v2), .second, .val (.long v3), .second, .val (.long v4), .second, .val (.long v5), .second, .val (.long v6), .second, .val (.long v7), .second, .unset, .unset, .unset, .unset, .unset, .unset, .unset, .unset, .unset, .unset, .unset, .unset, .unset, .unset, .unset, .unset, .unset, .unset, .unset, .unset] [(.long (p4 &&& (31 : Int32)).toInt64)])
  generalize hv8 : (p4 &&& (31 : Int32)).toInt64 = v8
  refine Goes.go (fun _ => XS.lstore (g := (mkF me_ 75 #[.val (.long q0), .second, .val (.int p1), .val (.int p2), .val (.int p3), .val (.int p4), .val (.long v1), .second, .val (.long v2), .second, .val (.long v3), .second, .val (.long v4), .second, .val (.long v5), .second, .val (.long v6), .second, .val (.long v7), .second, .unset, .unset, .unset, .unset, .unset, .unset, .unset, .unset, .unset, .unset, .unset, .unset, .unset, .unset, .unset, .unset, .unset, .unset, .unset, .unset] [(.long v8)])) S.here B.x rfl (B.d at_75) rfl (l' := #[.val (.long q0), .second, .val (.int p1), .val (.int p2), .val (.int p3), .val (.int p4), .val (.long v1), .second, .val (.long v2), .second, .val (.long v3), .second, .val (.long v4), .second, .val (.long v5), .second, .val (.long v6), .second, .val (.long v7), .second, .val (.long v8), .second, .unset, .unset, .unset, .unset, .unset, .unset, .unset, .unset, .unset, .unset, .unset, .unset, .unset, .unset, .unset, .unset, .unset, .unset]) rfl) ?_
  show Goes _ _ _ _ T (mkF me_ 77 #[.val (.long q0), .second, .val (.int p1), .val (.int p2), .val (.int p3), .val (.int p4), .val (.long v1), .second, .val (.long v2), .second, .val (.long v3), .second, .val (.long v4), .second, .val (.long v5), .second, .val (.long v6), .second, .val (.long v7), .second, .val (.long v8), .second, .unset, .unset, .unset, .unset, .unset, .unset, .unset, .unset, .unset, .unset, .unset, .unset, .unset, .unset, .unset, .unset, .unset, .unset] [])
  refine Goes.newO S B (w0 hw) (w1 hw) (w2 hw) at_77 (by decide) (by decide) ?_
  intro T h b9 S X zb g_b9 E_b9 D
  have F_b9_instants : Fld Z h b9 "com/example/bucket_brigade/bucketbrigade/PermitLog" "instants" "[J" .null := D (Or.inl (w11 hw)) (ty := (.array .long)) (by decide)
  have F_b9_lastNumbers : Fld Z h b9 "com/example/bucket_brigade/bucketbrigade/PermitLog" "lastNumbers" "[J" .null := D (Or.inl (w13 hw)) (ty := (.array .long)) (by decide)
  have F_b9_completeFrom : Fld Z h b9 "com/example/bucket_brigade/bucketbrigade/PermitLog" "completeFrom" "J" (.long (0 : Int64)) := D (Or.inr (w15 hw)) (ty := .long) (by decide)
  have F_b9_size : Fld Z h b9 "com/example/bucket_brigade/bucketbrigade/PermitLog" "size" "I" (.int (0 : Int32)) := D (Or.inl (w26 hw)) (ty := .int) (by decide)
  have F_b9_dropped : Fld Z h b9 "com/example/bucket_brigade/bucketbrigade/PermitLog" "dropped" "J" (.long (0 : Int64)) := D (Or.inl (w32 hw)) (ty := .long) (by decide)
  have F_b9_first : Fld Z h b9 "com/example/bucket_brigade/bucketbrigade/PermitLog" "first" "I" (.int (0 : Int32)) := D (Or.inl (w42 hw)) (ty := .int) (by decide)
  show Goes _ _ _ _ T (mkF me_ 80 #[.val (.long q0), .second, .val (.int p1), .val (.int p2), .val (.int p3), .val (.int p4), .val (.long v1), .second, .val (.long v2), .second, .val (.long v3), .second, .val (.long v4), .second, .val (.long v5), .second, .val (.long v6), .second, .val (.long v7), .second, .val (.long v8), .second, .unset, .unset, .unset, .unset, .unset, .unset, .unset, .unset, .unset, .unset, .unset, .unset, .unset, .unset, .unset, .unset, .unset, .unset] [(.ref b9)])
  refine Goes.go (fun _ => XS.dup S.here B.x rfl (B.d at_80) rfl rfl) ?_
  show Goes _ _ _ _ T (mkF me_ 81 #[.val (.long q0), .second, .val (.int p1), .val (.int p2), .val (.int p3), .val (.int p4), .val (.long v1), .second, .val (.long v2), .second, .val (.long v3), .second, .val (.long v4), .second, .val (.long v5), .second, .val (.long v6), .second, .val (.long v7), .second, .val (.long v8), .second, .unset, .unset, .unset, .unset, .unset, .unset, .unset, .unset, .unset, .unset, .unset, .unset, .unset, .unset, .unset, .unset, .unset, .unset] [(.ref b9), (.ref b9)])
  refine Goes.go (fun _ => XS.lload S.here B.x rfl (B.d at_81) rfl) ?_
  show Goes _ _ _ _ T (mkF me_ 83 #[.val (.long q0), .second, .val (.int p1), .val (.int p2), .val (.int p3), .val (.int p4), .val (.long v1), .second, .val (.long v2), .second, .val (.long v3), .second, .val (.long v4), .second, .val (.long v5), .second, .val (.long v6), .second, .val (.long v7), .second, .val (.long v8), .second, .unset, .unset, .unset, .unset, .unset, .unset, .unset, .unset, .unset, .unset, .unset, .unset, .unset, .unset, .unset, .unset, .unset, .unset] [(.long v1), (.ref b9), (.ref b9)])
  have zle := S.le
  refine Goes.callI (argsL := [(.long v1)]) (rest := [(.ref b9)]) (W := 1) S B (rmI l Z aw hw b9 v1 _ n0 E_b9 F_b9_instants F_b9_lastNumbers F_b9_first F_b9_size F_b9_dropped F_b9_completeFrom g_b9) (w3 hw) (w4 hw) (w2 hw) (w5 hw) (by decide) rfl (by decide) (by decide) (by decide) (by decide) rfl (lenOf pd_6 rfl) rfl (Nat.le_of_eq rfl) at_83 ?_
  intro v T h S hQ
  obtain ⟨b10, b11, rfl, zb_b10, zb_b11, ne_b10__b11, Kc, E_b9', F_b9_instants', F_b9_lastNumbers', F_b9_first', F_b9_size', F_b9_dropped', A_b10', A_b11'⟩ := hQ
  have ne_b9__b10 : b9 ≠ b10 := Nat.ne_of_lt (Nat.lt_of_lt_of_le E_b9.lt zb_b10)
  have g_b10 : n0 ≤ b10 := Nat.le_trans zle zb_b10
  have ne_b9__b11 : b9 ≠ b11 := Nat.ne_of_lt (Nat.lt_of_lt_of_le E_b9.lt zb_b11)
  have g_b11 : n0 ≤ b11 := Nat.le_trans zle zb_b11
  replace E_b9 := E_b9'
  replace F_b9_instants := F_b9_instants'
  replace F_b9_lastNumbers := F_b9_lastNumbers'
  replace F_b9_first := F_b9_first'
  replace F_b9_size := F_b9_size'
  replace F_b9_dropped := F_b9_dropped'
  have A_b10 := A_b10'
  have A_b11 := A_b11'
  show Goes _ _ _ _ T (mkF me_ 86 #[.val (.long q0), .second, .val (.int p1), .val (.int p2), .val (.int p3), .val (.int p4), .val (.long v1), .second, .val (.long v2), .second, .val (.long v3), .second, .val (.long v4), .second, .val (.long v5), .second, .val (.long v6), .second, .val (.long v7), .second, .val (.long v8), .second, .unset, .unset, .unset, .unset, .unset, .unset, .unset, .unset, .unset, .unset, .unset, .unset, .unset, .unset, .unset, .unset, .unset, .unset] [(.ref b9)])
  refine Goes.go (fun _ => XS.astore (g := (mkF me_ 86 #[.val (.long q0), .second, .val (.int p1), .val (.int p2), .val (.int p3), .val (.int p4), .val (.long v1), .second, .val (.long v2), .second, .val (.long v3), .second, .val (.long v4), .second, .val (.long v5), .second, .val (.long v6), .second, .val (.long v7), .second, .val (.long v8), .second, .unset, .unset, .unset, .unset, .unset, .unset, .unset, .unset, .unset, .unset, .unset, .unset, .unset, .unset, .unset, .unset, .unset, .unset] [(.ref b9)])) S.here B.x rfl (B.d at_86) rfl rfl (l' := #[.val (.long q0), .second, .val (.int p1), .val (.int p2), .val (.int p3), .val (.int p4), .val (.long v1), .second, .val (.long v2), .second, .val (.long v3), .second, .val (.long v4), .second, .val (.long v5), .second, .val (.long v6), .second, .val (.long v7), .second, .val (.long v8), .second, .val (.ref b9), .unset, .unset, .unset, .unset, .unset, .unset, .unset, .unset, .unset, .unset, .unset, .unset, .unset, .unset, .unset, .unset, .unset]) rfl) ?_
  show Goes _ _ _ _ T (mkF me_ 88 #[.val (.long q0), .second, .val (.int p1), .val (.int p2), .val (.int p3), .val (.int p4), .val (.long v1), .second, .val (.long v2), .second, .val (.long v3), .second, .val (.long v4), .second, .val (.long v5), .second, .val (.long v6), .second, .val (.long v7), .second, .val (.long v8), .second, .val (.ref b9), .unset, .unset, .unset, .unset, .unset, .unset, .unset, .unset, .unset, .unset, .unset, .unset, .unset, .unset, .unset, .unset, .unset] [])
  refine Goes.go (fun _ => XS.aload S.here B.x rfl (B.d at_88) rfl rfl) ?_
  show Goes _ _ _ _ T (mkF me_ 90 #[.val (.long q0), .second, .val (.int p1), .val (.int p2), .val (.int p3), .val (.int p4), .val (.long v1), .second, .val (.long v2), .second, .val (.long v3), .second, .val (.long v4), .second, .val (.long v5), .second, .val (.long v6), .second, .val (.long v7), .second, .val (.long v8), .second, .val (.ref b9), .unset, .unset, .unset, .unset, .unset, .unset, .unset, .unset, .unset, .unset, .unset, .unset, .unset, .unset, .unset, .unset, .unset] [(.ref b9)])
  refine Goes.go (fun _ => XS.lload S.here B.x rfl (B.d at_90) rfl) ?_
  show Goes _ _ _ _ T (mkF me_ 92 #[.val (.long q0), .second, .val (.int p1), .val (.int p2), .val (.int p3), .val (.int p4), .val (.long v1), .second, .val (.long v2), .second, .val (.long v3), .second, .val (.long v4), .second, .val (.long v5), .second, .val (.long v6), .second, .val (.long v7), .second, .val (.long v8), .second, .val (.ref b9), .unset, .unset, .unset, .unset, .unset, .unset, .unset, .unset, .unset, .unset, .unset, .unset, .unset, .unset, .unset, .unset, .unset] [(.long v1), (.ref b9)])
  refine Goes.go (fun _ => XS.lload S.here B.x rfl (B.d at_92) rfl) ?_
  show Goes _ _ _ _ T (mkF me_ 94 #[.val (.long q0), .second, .val (.int p1), .val (.int p2), .val (.int p3), .val (.int p4), .val (.long v1), .second, .val (.long v2), .second, .val (.long v3), .second, .val (.long v4), .second, .val (.long v5), .second, .val (.long v6), .second, .val (.long v7), .second, .val (.long v8), .second, .val (.ref b9), .unset, .unset, .unset, .unset, .unset, .unset, .unset, .unset, .unset, .unset, .unset, .unset, .unset, .unset, .unset, .unset, .unset] [(.long v4), (.long v1), (.ref b9)])
  refine Goes.callV (argsL := [(.long v1), (.long v4)]) (rest := []) (W := 0) S B (rm_add l Z aw hw b9 v1 v4 b10 b11 (fun _ => 0) (fun _ => 0) (0 : Int32) (0 : Int32) (0 : Int64) ([] : List Int64) ([] : List Int64) _ n0 E_b9 F_b9_instants F_b9_lastNumbers F_b9_first F_b9_size F_b9_dropped A_b10 A_b11 g_b9 g_b10 g_b11 ne_b9__b10 ne_b9__b11 ne_b10__b11 own_Q0 own_Q0 own_e0 rfl (by decide) List.Pairwise.nil) E_b9 (w16 hw) (w17 hw) (w19 hw) (w18 hw) (w2 hw) (w20 hw) (by decide) (by decide) (by decide) (by decide) (by decide) rfl (lenOf pd_7 rfl) rfl (Nat.le_of_eq rfl) at_94 ?_
  intro v T h S hQ
  obtain ⟨u12, u13, u14, rfl, Kc, E_b9', F_b9_instants', F_b9_lastNumbers', F_b9_first', F_b9_size', F_b9_dropped', A_b10', A_b11', hQ2_94, hN2_94, hs2_94⟩ := hQ
  replace E_b9 := E_b9'
  replace F_b9_instants := F_b9_instants'
  replace F_b9_lastNumbers := F_b9_lastNumbers'
  replace F_b9_first := F_b9_first'
  replace F_b9_size := F_b9_size'
  replace F_b9_dropped := F_b9_dropped'
  replace A_b10 := A_b10'
  replace A_b11 := A_b11'
  show Goes _ _ _ _ T (mkF me_ 97 #[.val (.long q0), .second, .val (.int p1), .val (.int p2), .val (.int p3), .val (.int p4), .val (.long v1), .second, .val (.long v2), .second, .val (.long v3), .second, .val (.long v4), .second, .val (.long v5), .second, .val (.long v6), .second, .val (.long v7), .second, .val (.long v8), .second, .val (.ref b9), .unset, .unset, .unset, .unset, .unset, .unset, .unset, .unset, .unset, .unset, .unset, .unset, .unset, .unset, .unset, .unset, .unset] [])
  rw [own_ti0] at hQ2_94 hs2_94
  rw [own_ni0] at hN2_94
  obtain ⟨hlt1, hlt2, hlt3, hbd⟩ := own_tb hv1 hv2 hv3
  have hb4 := own_m7 _ hv4
  have hb5 := own_m7 _ hv5
  have hb6 := own_m7 _ hv6
  have hb7 := own_m5 _ hv7
  have hb8 := own_m5 _ hv8
  refine Goes.go (fun _ => XS.aload S.here B.x rfl (B.d at_97) rfl rfl) ?_
  show Goes _ _ _ _ T (mkF me_ 99 #[.val (.long q0), .second, .val (.int p1), .val (.int p2), .val (.int p3), .val (.int p4), .val (.long v1), .second, .val (.long v2), .second, .val (.long v3), .second, .val (.long v4), .second, .val (.long v5), .second, .val (.long v6), .second, .val (.long v7), .second, .val (.long v8), .second, .val (.ref b9), .unset, .unset, .unset, .unset, .unset, .unset, .unset, .unset, .unset, .unset, .unset, .unset, .unset, .unset, .unset, .unset, .unset] [(.ref b9)])
  refine Goes.go (fun _ => XS.lload S.here B.x rfl (B.d at_99) rfl) ?_
  show Goes _ _ _ _ T (mkF me_ 101 #[.val (.long q0), .second, .val (.int p1), .val (.int p2), .val (.int p3), .val (.int p4), .val (.long v1), .second, .val (.long v2), .second, .val (.long v3), .second, .val (.long v4), .second, .val (.long v5), .second, .val (.long v6), .second, .val (.long v7), .second, .val (.long v8), .second, .val (.ref b9), .unset, .unset, .unset, .unset, .unset, .unset, .unset, .unset, .unset, .unset, .unset, .unset, .unset, .unset, .unset, .unset, .unset] [(.long v2), (.ref b9)])
  refine Goes.go (fun _ => XS.lload S.here B.x rfl (B.d at_101) rfl) ?_
  show Goes _ _ _ _ T (mkF me_ 103 #[.val (.long q0), .second, .val (.int p1), .val (.int p2), .val (.int p3), .val (.int p4), .val (.long v1), .second, .val (.long v2), .second, .val (.long v3), .second, .val (.long v4), .second, .val (.long v5), .second, .val (.long v6), .second, .val (.long v7), .second, .val (.long v8), .second, .val (.ref b9), .unset, .unset, .unset, .unset, .unset, .unset, .unset, .unset, .unset, .unset, .unset, .unset, .unset, .unset, .unset, .unset, .unset] [(.long v5), (.long v2), (.ref b9)])
  refine Goes.callV (argsL := [(.long v2), (.long v5)]) (rest := []) (W := 0) S B (rm_add l Z aw hw b9 v2 v5 b10 b11 u12 u13 (0 : Int32) u14 (0 : Int64) [v1] [((0 : Int64) + v4)] _ n0 E_b9 F_b9_instants F_b9_lastNumbers F_b9_first F_b9_size F_b9_dropped A_b10 A_b11 g_b9 g_b10 g_b11 ne_b9__b10 ne_b9__b11 ne_b10__b11 hQ2_94 hN2_94 hs2_94 rfl (by simp) (own_S1 rfl)) E_b9 (w16 hw) (w17 hw) (w19 hw) (w18 hw) (w2 hw) (w20 hw) (by decide) (by decide) (by decide) (by decide) (by decide) rfl (lenOf pd_7 rfl) rfl (Nat.le_of_eq rfl) at_103 ?_
  intro v T h S hQ
  obtain ⟨u15, u16, u17, rfl, Kc, E_b9', F_b9_instants', F_b9_lastNumbers', F_b9_first', F_b9_size', F_b9_dropped', A_b10', A_b11', hQ2_103, hN2_103, hs2_103⟩ := hQ
  replace E_b9 := E_b9'
  replace F_b9_instants := F_b9_instants'
  replace F_b9_lastNumbers := F_b9_lastNumbers'
  replace F_b9_first := F_b9_first'
  replace F_b9_size := F_b9_size'
  replace F_b9_dropped := F_b9_dropped'
  replace A_b10 := A_b10'
  replace A_b11 := A_b11'
  show Goes _ _ _ _ T (mkF me_ 106 #[.val (.long q0), .second, .val (.int p1), .val (.int p2), .val (.int p3), .val (.int p4), .val (.long v1), .second, .val (.long v2), .second, .val (.long v3), .second, .val (.long v4), .second, .val (.long v5), .second, .val (.long v6), .second, .val (.long v7), .second, .val (.long v8), .second, .val (.ref b9), .unset, .unset, .unset, .unset, .unset, .unset, .unset, .unset, .unset, .unset, .unset, .unset, .unset, .unset, .unset, .unset, .unset] [])
  rw [(own_lt2 (n := ((0 : Int64) + v4)) (d := 0) (p := v5) hlt1).1] at hQ2_103 hs2_103
  rw [(own_lt2 hlt1).2] at hN2_103
  refine Goes.go (fun _ => XS.aload S.here B.x rfl (B.d at_106) rfl rfl) ?_
  show Goes _ _ _ _ T (mkF me_ 108 #[.val (.long q0), .second, .val (.int p1), .val (.int p2), .val (.int p3), .val (.int p4), .val (.long v1), .second, .val (.long v2), .second, .val (.long v3), .second, .val (.long v4), .second, .val (.long v5), .second, .val (.long v6), .second, .val (.long v7), .second, .val (.long v8), .second, .val (.ref b9), .unset, .unset, .unset, .unset, .unset, .unset, .unset, .unset, .unset, .unset, .unset, .unset, .unset, .unset, .unset, .unset, .unset] [(.ref b9)])
  refine Goes.go (fun _ => XS.lload S.here B.x rfl (B.d at_108) rfl) ?_
  show Goes _ _ _ _ T (mkF me_ 110 #[.val (.long q0), .second, .val (.int p1), .val (.int p2), .val (.int p3), .val (.int p4), .val (.long v1), .second, .val (.long v2), .second, .val (.long v3), .second, .val (.long v4), .second, .val (.long v5), .second, .val (.long v6), .second, .val (.long v7), .second, .val (.long v8), .second, .val (.ref b9), .unset, .unset, .unset, .unset, .unset, .unset, .unset, .unset, .unset, .unset, .unset, .unset, .unset, .unset, .unset, .unset, .unset] [(.long v3), (.ref b9)])
  refine Goes.go (fun _ => XS.lload S.here B.x rfl (B.d at_110) rfl) ?_
  show Goes _ _ _ _ T (mkF me_ 112 #[.val (.long q0), .second, .val (.int p1), .val (.int p2), .val (.int p3), .val (.int p4), .val (.long v1), .second, .val (.long v2), .second, .val (.long v3), .second, .val (.long v4), .second, .val (.long v5), .second, .val (.long v6), .second, .val (.long v7), .second, .val (.long v8), .second, .val (.ref b9), .unset, .unset, .unset, .unset, .unset, .unset, .unset, .unset, .unset, .unset, .unset, .unset, .unset, .unset, .unset, .unset, .unset] [(.long v6), (.long v3), (.ref b9)])
  refine Goes.callV (argsL := [(.long v3), (.long v6)]) (rest := []) (W := 0) S B (rm_add l Z aw hw b9 v3 v6 b10 b11 u15 u16 (0 : Int32) u17 (0 : Int64) [v1, v2] [((0 : Int64) + v4), ((0 : Int64) + v4 + v5)] _ n0 E_b9 F_b9_instants F_b9_lastNumbers F_b9_first F_b9_size F_b9_dropped A_b10 A_b11 g_b9 g_b10 g_b11 ne_b9__b10 ne_b9__b11 ne_b10__b11 hQ2_103 hN2_103 hs2_103 rfl (by simp) (own_S2 rfl hlt1)) E_b9 (w16 hw) (w17 hw) (w19 hw) (w18 hw) (w2 hw) (w20 hw) (by decide) (by decide) (by decide) (by decide) (by decide) rfl (lenOf pd_7 rfl) rfl (Nat.le_of_eq rfl) at_112 ?_
  intro v T h S hQ
  obtain ⟨u18, u19, u20, rfl, Kc, E_b9', F_b9_instants', F_b9_lastNumbers', F_b9_first', F_b9_size', F_b9_dropped', A_b10', A_b11', hQ2_112, hN2_112, hs2_112⟩ := hQ
  replace E_b9 := E_b9'
  replace F_b9_instants := F_b9_instants'
  replace F_b9_lastNumbers := F_b9_lastNumbers'
  replace F_b9_first := F_b9_first'
  replace F_b9_size := F_b9_size'
  replace F_b9_dropped := F_b9_dropped'
  replace A_b10 := A_b10'
  replace A_b11 := A_b11'
  show Goes _ _ _ _ T (mkF me_ 115 #[.val (.long q0), .second, .val (.int p1), .val (.int p2), .val (.int p3), .val (.int p4), .val (.long v1), .second, .val (.long v2), .second, .val (.long v3), .second, .val (.long v4), .second, .val (.long v5), .second, .val (.long v6), .second, .val (.long v7), .second, .val (.long v8), .second, .val (.ref b9), .unset, .unset, .unset, .unset, .unset, .unset, .unset, .unset, .unset, .unset, .unset, .unset, .unset, .unset, .unset, .unset, .unset] [])
  rw [(own_lt3 (n := 0) (m := 0) (d := 0) (p := 0) hlt3 hlt2).1] at hQ2_112 hs2_112
  rw [(own_lt3 hlt3 hlt2).2] at hN2_112
  refine Goes.go (fun _ => XS.aload S.here B.x rfl (B.d at_115) rfl rfl) ?_
  show Goes _ _ _ _ T (mkF me_ 117 #[.val (.long q0), .second, .val (.int p1), .val (.int p2), .val (.int p3), .val (.int p4), .val (.long v1), .second, .val (.long v2), .second, .val (.long v3), .second, .val (.long v4), .second, .val (.long v5), .second, .val (.long v6), .second, .val (.long v7), .second, .val (.long v8), .second, .val (.ref b9), .unset, .unset, .unset, .unset, .unset, .unset, .unset, .unset, .unset, .unset, .unset, .unset, .unset, .unset, .unset, .unset, .unset] [(.ref b9)])
  refine Goes.go (fun _ => XS.lload S.here B.x rfl (B.d at_117) rfl) ?_
  show Goes _ _ _ _ T (mkF me_ 119 #[.val (.long q0), .second, .val (.int p1), .val (.int p2), .val (.int p3), .val (.int p4), .val (.long v1), .second, .val (.long v2), .second, .val (.long v3), .second, .val (.long v4), .second, .val (.long v5), .second, .val (.long v6), .second, .val (.long v7), .second, .val (.long v8), .second, .val (.ref b9), .unset, .unset, .unset, .unset, .unset, .unset, .unset, .unset, .unset, .unset, .unset, .unset, .unset, .unset, .unset, .unset, .unset] [(.long v7), (.ref b9)])
  refine Goes.callV (argsL := [(.long v7)]) (rest := []) (W := 0) S B (rm_keep l Z aw hw b9 v7 b10 b11 u18 u19 (0 : Int32) u20 (0 : Int64) [v1, v2, v3] [((0 : Int64) + v4), ((0 : Int64) + v4 + v5), ((0 : Int64) + v4 + v5 + v6)] _ n0 E_b9 F_b9_instants F_b9_lastNumbers F_b9_first F_b9_size F_b9_dropped A_b10 A_b11 g_b9 ne_b9__b10 ne_b9__b11 ne_b10__b11 hQ2_112 hN2_112 hs2_112 rfl (own_Mv hb4 hb5 hb6) hb7.1) E_b9 (w51 hw) (w52 hw) (w54 hw) (w53 hw) (w2 hw) (w55 hw) (by decide) (by decide) (by decide) (by decide) (by decide) rfl (lenOf pd_6 rfl) rfl (Nat.le_of_eq rfl) at_119 ?_
  intro v T h S hQ
  obtain ⟨u21, u22, u23, u24, u25, rfl, Kc, E_b9', F_b9_instants', F_b9_lastNumbers', F_b9_first', F_b9_size', F_b9_dropped', A_b10', A_b11', hr_119, hQ2_119, hN2_119, hs2_119, hl2_119, hM2_119⟩ := hQ
  replace E_b9 := E_b9'
  replace F_b9_instants := F_b9_instants'
  replace F_b9_lastNumbers := F_b9_lastNumbers'
  replace F_b9_first := F_b9_first'
  replace F_b9_size := F_b9_size'
  replace F_b9_dropped := F_b9_dropped'
  replace A_b10 := A_b10'
  replace A_b11 := A_b11'
  show Goes _ _ _ _ T (mkF me_ 122 #[.val (.long q0), .second, .val (.int p1), .val (.int p2), .val (.int p3), .val (.int p4), .val (.long v1), .second, .val (.long v2), .second, .val (.long v3), .second, .val (.long v4), .second, .val (.long v5), .second, .val (.long v6), .second, .val (.long v7), .second, .val (.long v8), .second, .val (.ref b9), .unset, .unset, .unset, .unset, .unset, .unset, .unset, .unset, .unset, .unset, .unset, .unset, .unset, .unset, .unset, .unset, .unset] [])
  refine Goes.go (fun _ => XS.aload S.here B.x rfl (B.d at_122) rfl rfl) ?_
  show Goes _ _ _ _ T (mkF me_ 124 #[.val (.long q0), .second, .val (.int p1), .val (.int p2), .val (.int p3), .val (.int p4), .val (.long v1), .second, .val (.long v2), .second, .val (.long v3), .second, .val (.long v4), .second, .val (.long v5), .second, .val (.long v6), .second, .val (.long v7), .second, .val (.long v8), .second, .val (.ref b9), .unset, .unset, .unset, .unset, .unset, .unset, .unset, .unset, .unset, .unset, .unset, .unset, .unset, .unset, .unset, .unset, .unset] [(.ref b9)])
  refine Goes.go (fun _ => XS.lload S.here B.x rfl (B.d at_124) rfl) ?_
  show Goes _ _ _ _ T (mkF me_ 126 #[.val (.long q0), .second, .val (.int p1), .val (.int p2), .val (.int p3), .val (.int p4), .val (.long v1), .second, .val (.long v2), .second, .val (.long v3), .second, .val (.long v4), .second, .val (.long v5), .second, .val (.long v6), .second, .val (.long v7), .second, .val (.long v8), .second, .val (.ref b9), .unset, .unset, .unset, .unset, .unset, .unset, .unset, .unset, .unset, .unset, .unset, .unset, .unset, .unset, .unset, .unset, .unset] [(.long v8), (.ref b9)])
  refine Goes.callV (argsL := [(.long v8)]) (rest := []) (W := 0) S B (rm_keep l Z aw hw b9 v8 b10 b11 u18 u19 u21 u22 u23 u24 u25 _ n0 E_b9 F_b9_instants F_b9_lastNumbers F_b9_first F_b9_size F_b9_dropped A_b10 A_b11 g_b9 ne_b9__b10 ne_b9__b11 ne_b10__b11 hQ2_119 hN2_119 hs2_119 hl2_119 hM2_119 hb8.1) E_b9 (w51 hw) (w52 hw) (w54 hw) (w53 hw) (w2 hw) (w55 hw) (by decide) (by decide) (by decide) (by decide) (by decide) rfl (lenOf pd_6 rfl) rfl (Nat.le_of_eq rfl) at_126 ?_
  intro v T h S hQ
  obtain ⟨u26, u27, u28, u29, u30, rfl, Kc, E_b9', F_b9_instants', F_b9_lastNumbers', F_b9_first', F_b9_size', F_b9_dropped', A_b10', A_b11', hr_126, hQ2_126, hN2_126, hs2_126, hl2_126, hM2_126⟩ := hQ
  replace E_b9 := E_b9'
  replace F_b9_instants := F_b9_instants'
  replace F_b9_lastNumbers := F_b9_lastNumbers'
  replace F_b9_first := F_b9_first'
  replace F_b9_size := F_b9_size'
  replace F_b9_dropped := F_b9_dropped'
  replace A_b10 := A_b10'
  replace A_b11 := A_b11'
  show Goes _ _ _ _ T (mkF me_ 129 #[.val (.long q0), .second, .val (.int p1), .val (.int p2), .val (.int p3), .val (.int p4), .val (.long v1), .second, .val (.long v2), .second, .val (.long v3), .second, .val (.long v4), .second, .val (.long v5), .second, .val (.long v6), .second, .val (.long v7), .second, .val (.long v8), .second, .val (.ref b9), .unset, .unset, .unset, .unset, .unset, .unset, .unset, .unset, .unset, .unset, .unset, .unset, .unset, .unset, .unset, .unset, .unset] [])
  refine Goes.go (fun _ => XS.lload S.here B.x rfl (B.d at_129) rfl) ?_
  show Goes _ _ _ _ T (mkF me_ 131 #[.val (.long q0), .second, .val (.int p1), .val (.int p2), .val (.int p3), .val (.int p4), .val (.long v1), .second, .val (.long v2), .second, .val (.long v3), .second, .val (.long v4), .second, .val (.long v5), .second, .val (.long v6), .second, .val (.long v7), .second, .val (.long v8), .second, .val (.ref b9), .unset, .unset, .unset, .unset, .unset, .unset, .unset, .unset, .unset, .unset, .unset, .unset, .unset, .unset, .unset, .unset, .unset] [(.long v7)])
  refine Goes.go (fun _ => XS.lload S.here B.x rfl (B.d at_131) rfl) ?_
  show Goes _ _ _ _ T (mkF me_ 133 #[.val (.long q0), .second, .val (.int p1), .val (.int p2), .val (.int p3), .val (.int p4), .val (.long v1), .second, .val (.long v2), .second, .val (.long v3), .second, .val (.long v4), .second, .val (.long v5), .second, .val (.long v6), .second, .val (.long v7), .second, .val (.long v8), .second, .val (.ref b9), .unset, .unset, .unset, .unset, .unset, .unset, .unset, .unset, .unset, .unset, .unset, .unset, .unset, .unset, .unset, .unset, .unset] [(.long v8), (.long v7)])
  refine Goes.callS (argsL := [(.long v7), (.long v8)]) (rest := []) (W := 0) S B (rm_min l Z aw hw v7 v8 _ n0) (w65 hw) (w66 hw) (w67 hw) (w68 hw) (by decide) (by decide) (by decide) (by decide) (by decide) rfl (lenOf pd_8 rfl) rfl (Nat.le_of_eq rfl) at_133 ?_
  intro v T h S hQ
  obtain ⟨rfl, hh⟩ := hQ
  replace hh := hh.symm
  subst hh
  show Goes _ _ _ _ T (mkF me_ 136 #[.val (.long q0), .second, .val (.int p1), .val (.int p2), .val (.int p3), .val (.int p4), .val (.long v1), .second, .val (.long v2), .second, .val (.long v3), .second, .val (.long v4), .second, .val (.long v5), .second, .val (.long v6), .second, .val (.long v7), .second, .val (.long v8), .second, .val (.ref b9), .unset, .unset, .unset, .unset, .unset, .unset, .unset, .unset, .unset, .unset, .unset, .unset, .unset, .unset, .unset, .unset, .unset] [(.long (own_min v7 v8))])
  generalize hv31 : (own_min v7 v8) = v31
  refine Goes.go (fun _ => XS.lstore (g := (mkF me_ 136 #[.val (.long q0), .second, .val (.int p1), .val (.int p2), .val (.int p3), .val (.int p4), .val (.long v1), .second, .val (.long v2), .second, .val (.long v3), .second, .val (.long v4), .second, .val (.long v5), .second, .val (.long v6), .second, .val (.long v7), .second, .val (.long v8), .second, .val (.ref b9), .unset, .unset, .unset, .unset, .unset, .unset, .unset, .unset, .unset, .unset, .unset, .unset, .unset, .unset, .unset, .unset, .unset] [(.long v31)])) S.here B.x rfl (B.d at_136) rfl (l' := #[.val (.long q0), .second, .val (.int p1), .val (.int p2), .val (.int p3), .val (.int p4), .val (.long v1), .second, .val (.long v2), .second, .val (.long v3), .second, .val (.long v4), .second, .val (.long v5), .second, .val (.long v6), .second, .val (.long v7), .second, .val (.long v8), .second, .val (.ref b9), .val (.long v31), .second, .unset, .unset, .unset, .unset, .unset, .unset, .unset, .unset, .unset, .unset, .unset, .unset, .unset, .unset, .unset]) rfl) ?_
  show Goes _ _ _ _ T (mkF me_ 138 #[.val (.long q0), .second, .val (.int p1), .val (.int p2), .val (.int p3), .val (.int p4), .val (.long v1), .second, .val (.long v2), .second, .val (.long v3), .second, .val (.long v4), .second, .val (.long v5), .second, .val (.long v6), .second, .val (.long v7), .second, .val (.long v8), .second, .val (.ref b9), .val (.long v31), .second, .unset, .unset, .unset, .unset, .unset, .unset, .unset, .unset, .unset, .unset, .unset, .unset, .unset, .unset, .unset] [])
  refine Goes.go (fun _ => XS.lload S.here B.x rfl (B.d at_138) rfl) ?_
  show Goes _ _ _ _ T (mkF me_ 140 #[.val (.long q0), .second, .val (.int p1), .val (.int p2), .val (.int p3), .val (.int p4), .val (.long v1), .second, .val (.long v2), .second, .val (.long v3), .second, .val (.long v4), .second, .val (.long v5), .second, .val (.long v6), .second, .val (.long v7), .second, .val (.long v8), .second, .val (.ref b9), .val (.long v31), .second, .unset, .unset, .unset, .unset, .unset, .unset, .unset, .unset, .unset, .unset, .unset, .unset, .unset, .unset, .unset] [(.long v6)])
  refine Goes.go (fun _ => XS.lload S.here B.x rfl (B.d at_140) rfl) ?_
  show Goes _ _ _ _ T (mkF me_ 142 #[.val (.long q0), .second, .val (.int p1), .val (.int p2), .val (.int p3), .val (.int p4), .val (.long v1), .second, .val (.long v2), .second, .val (.long v3), .second, .val (.long v4), .second, .val (.long v5), .second, .val (.long v6), .second, .val (.long v7), .second, .val (.long v8), .second, .val (.ref b9), .val (.long v31), .second, .unset, .unset, .unset, .unset, .unset, .unset, .unset, .unset, .unset, .unset, .unset, .unset, .unset, .unset, .unset] [(.long v31), (.long v6)])
  refine Goes.callS (argsL := [(.long v6), (.long v31)]) (rest := []) (W := 0) S B (rm_min l Z aw hw v6 v31 _ n0) (w65 hw) (w66 hw) (w67 hw) (w68 hw) (by decide) (by decide) (by decide) (by decide) (by decide) rfl (lenOf pd_8 rfl) rfl (Nat.le_of_eq rfl) at_142 ?_
  intro v T h S hQ
  obtain ⟨rfl, hh⟩ := hQ
  replace hh := hh.symm
  subst hh
  show Goes _ _ _ _ T (mkF me_ 145 #[.val (.long q0), .second, .val (.int p1), .val (.int p2), .val (.int p3), .val (.int p4), .val (.long v1), .second, .val (.long v2), .second, .val (.long v3), .second, .val (.long v4), .second, .val (.long v5), .second, .val (.long v6), .second, .val (.long v7), .second, .val (.long v8), .second, .val (.ref b9), .val (.long v31), .second, .unset, .unset, .unset, .unset, .unset, .unset, .unset, .unset, .unset, .unset, .unset, .unset, .unset, .unset, .unset] [(.long (own_min v6 v31))])
  generalize hv32 : (own_min v6 v31) = v32
  refine Goes.go (fun _ => XS.lstore (g := (mkF me_ 145 #[.val (.long q0), .second, .val (.int p1), .val (.int p2), .val (.int p3), .val (.int p4), .val (.long v1), .second, .val (.long v2), .second, .val (.long v3), .second, .val (.long v4), .second, .val (.long v5), .second, .val (.long v6), .second, .val (.long v7), .second, .val (.long v8), .second, .val (.ref b9), .val (.long v31), .second, .unset, .unset, .unset, .unset, .unset, .unset, .unset, .unset, .unset, .unset, .unset, .unset, .unset, .unset, .unset] [(.long v32)])) S.here B.x rfl (B.d at_145) rfl (l' := #[.val (.long q0), .second, .val (.int p1), .val (.int p2), .val (.int p3), .val (.int p4), .val (.long v1), .second, .val (.long v2), .second, .val (.long v3), .second, .val (.long v4), .second, .val (.long v5), .second, .val (.long v6), .second, .val (.long v7), .second, .val (.long v8), .second, .val (.ref b9), .val (.long v31), .second, .val (.long v32), .second, .unset, .unset, .unset, .unset, .unset, .unset, .unset, .unset, .unset, .unset, .unset, .unset, .unset]) rfl) ?_
  show Goes _ _ _ _ T (mkF me_ 147 #[.val (.long q0), .second, .val (.int p1), .val (.int p2), .val (.int p3), .val (.int p4), .val (.long v1), .second, .val (.long v2), .second, .val (.long v3), .second, .val (.long v4), .second, .val (.long v5), .second, .val (.long v6), .second, .val (.long v7), .second, .val (.long v8), .second, .val (.ref b9), .val (.long v31), .second, .val (.long v32), .second, .unset, .unset, .unset, .unset, .unset, .unset, .unset, .unset, .unset, .unset, .unset, .unset, .unset] [])
  refine Goes.go (fun _ => XS.lload S.here B.x rfl (B.d at_147) rfl) ?_
  show Goes _ _ _ _ T (mkF me_ 149 #[.val (.long q0), .second, .val (.int p1), .val (.int p2), .val (.int p3), .val (.int p4), .val (.long v1), .second, .val (.long v2), .second, .val (.long v3), .second, .val (.long v4), .second, .val (.long v5), .second, .val (.long v6), .second, .val (.long v7), .second, .val (.long v8), .second, .val (.ref b9), .val (.long v31), .second, .val (.long v32), .second, .unset, .unset, .unset, .unset, .unset, .unset, .unset, .unset, .unset, .unset, .unset, .unset, .unset] [(.long v5)])
  refine Goes.go (fun _ => XS.lload S.here B.x rfl (B.d at_149) rfl) ?_
  show Goes _ _ _ _ T (mkF me_ 151 #[.val (.long q0), .second, .val (.int p1), .val (.int p2), .val (.int p3), .val (.int p4), .val (.long v1), .second, .val (.long v2), .second, .val (.long v3), .second, .val (.long v4), .second, .val (.long v5), .second, .val (.long v6), .second, .val (.long v7), .second, .val (.long v8), .second, .val (.ref b9), .val (.long v31), .second, .val (.long v32), .second, .unset, .unset, .unset, .unset, .unset, .unset, .unset, .unset, .unset, .unset, .unset, .unset, .unset] [(.long v31), (.long v5)])
  refine Goes.go (fun _ => XS.lload S.here B.x rfl (B.d at_151) rfl) ?_
  show Goes _ _ _ _ T (mkF me_ 153 #[.val (.long q0), .second, .val (.int p1), .val (.int p2), .val (.int p3), .val (.int p4), .val (.long v1), .second, .val (.long v2), .second, .val (.long v3), .second, .val (.long v4), .second, .val (.long v5), .second, .val (.long v6), .second, .val (.long v7), .second, .val (.long v8), .second, .val (.ref b9), .val (.long v31), .second, .val (.long v32), .second, .unset, .unset, .unset, .unset, .unset, .unset, .unset, .unset, .unset, .unset, .unset, .unset, .unset] [(.long v32), (.long v31), (.long v5)])
  refine Goes.go (fun _ => XS.lsub S.here B.x rfl (B.d at_153) rfl) ?_
  show Goes _ _ _ _ T (mkF me_ 154 #[.val (.long q0), .second, .val (.int p1), .val (.int p2), .val (.int p3), .val (.int p4), .val (.long v1), .second, .val (.long v2), .second, .val (.long v3), .second, .val (.long v4), .second, .val (.long v5), .second, .val (.long v6), .second, .val (.long v7), .second, .val (.long v8), .second, .val (.ref b9), .val (.long v31), .second, .val (.long v32), .second, .unset, .unset, .unset, .unset, .unset, .unset, .unset, .unset, .unset, .unset, .unset, .unset, .unset] [(.long (v31 - v32)), (.long v5)])
  refine Goes.callS (argsL := [(.long v5), (.long (v31 - v32))]) (rest := []) (W := 0) S B (rm_min l Z aw hw v5 (v31 - v32) _ n0) (w65 hw) (w66 hw) (w67 hw) (w68 hw) (by decide) (by decide) (by decide) (by decide) (by decide) rfl (lenOf pd_8 rfl) rfl (Nat.le_of_eq rfl) at_154 ?_
  intro v T h S hQ
  obtain ⟨rfl, hh⟩ := hQ
  replace hh := hh.symm
  subst hh
  show Goes _ _ _ _ T (mkF me_ 157 #[.val (.long q0), .second, .val (.int p1), .val (.int p2), .val (.int p3), .val (.int p4), .val (.long v1), .second, .val (.long v2), .second, .val (.long v3), .second, .val (.long v4), .second, .val (.long v5), .second, .val (.long v6), .second, .val (.long v7), .second, .val (.long v8), .second, .val (.ref b9), .val (.long v31), .second, .val (.long v32), .second, .unset, .unset, .unset, .unset, .unset, .unset, .unset, .unset, .unset, .unset, .unset, .unset, .unset] [(.long (own_min v5 (v31 - v32)))])
  generalize hv33 : (own_min v5 (v31 - v32)) = v33
  refine Goes.go (fun _ => XS.lstore (g := (mkF me_ 157 #[.val (.long q0), .second, .val (.int p1), .val (.int p2), .val (.int p3), .val (.int p4), .val (.long v1), .second, .val (.long v2), .second, .val (.long v3), .second, .val (.long v4), .second, .val (.long v5), .second, .val (.long v6), .second, .val (.long v7), .second, .val (.long v8), .second, .val (.ref b9), .val (.long v31), .second, .val (.long v32), .second, .unset, .unset, .unset, .unset, .unset, .unset, .unset, .unset, .unset, .unset, .unset, .unset, .unset] [(.long v33)])) S.here B.x rfl (B.d at_157) rfl (l' := #[.val (.long q0), .second, .val (.int p1), .val (.int p2), .val (.int p3), .val (.int p4), .val (.long v1), .second, .val (.long v2), .second, .val (.long v3), .second, .val (.long v4), .second, .val (.long v5), .second, .val (.long v6), .second, .val (.long v7), .second, .val (.long v8), .second, .val (.ref b9), .val (.long v31), .second, .val (.long v32), .second, .val (.long v33), .second, .unset, .unset, .unset, .unset, .unset, .unset, .unset, .unset, .unset, .unset, .unset]) rfl) ?_
  show Goes _ _ _ _ T (mkF me_ 159 #[.val (.long q0), .second, .val (.int p1), .val (.int p2), .val (.int p3), .val (.int p4), .val (.long v1), .second, .val (.long v2), .second, .val (.long v3), .second, .val (.long v4), .second, .val (.long v5), .second, .val (.long v6), .second, .val (.long v7), .second, .val (.long v8), .second, .val (.ref b9), .val (.long v31), .second, .val (.long v32), .second, .val (.long v33), .second, .unset, .unset, .unset, .unset, .unset, .unset, .unset, .unset, .unset, .unset, .unset] [])
  refine Goes.go (fun _ => XS.lload S.here B.x rfl (B.d at_159) rfl) ?_
  show Goes _ _ _ _ T (mkF me_ 161 #[.val (.long q0), .second, .val (.int p1), .val (.int p2), .val (.int p3), .val (.int p4), .val (.long v1), .second, .val (.long v2), .second, .val (.long v3), .second, .val (.long v4), .second, .val (.long v5), .second, .val (.long v6), .second, .val (.long v7), .second, .val (.long v8), .second, .val (.ref b9), .val (.long v31), .second, .val (.long v32), .second, .val (.long v33), .second, .unset, .unset, .unset, .unset, .unset, .unset, .unset, .unset, .unset, .unset, .unset] [(.long v4)])
  refine Goes.go (fun _ => XS.lload S.here B.x rfl (B.d at_161) rfl) ?_
  show Goes _ _ _ _ T (mkF me_ 163 #[.val (.long q0), .second, .val (.int p1), .val (.int p2), .val (.int p3), .val (.int p4), .val (.long v1), .second, .val (.long v2), .second, .val (.long v3), .second, .val (.long v4), .second, .val (.long v5), .second, .val (.long v6), .second, .val (.long v7), .second, .val (.long v8), .second, .val (.ref b9), .val (.long v31), .second, .val (.long v32), .second, .val (.long v33), .second, .unset, .unset, .unset, .unset, .unset, .unset, .unset, .unset, .unset, .unset, .unset] [(.long v31), (.long v4)])
  refine Goes.go (fun _ => XS.lload S.here B.x rfl (B.d at_163) rfl) ?_
  show Goes _ _ _ _ T (mkF me_ 165 #[.val (.long q0), .second, .val (.int p1), .val (.int p2), .val (.int p3), .val (.int p4), .val (.long v1), .second, .val (.long v2), .second, .val (.long v3), .second, .val (.long v4), .second, .val (.long v5), .second, .val (.long v6), .second, .val (.long v7), .second, .val (.long v8), .second, .val (.ref b9), .val (.long v31), .second, .val (.long v32), .second, .val (.long v33), .second, .unset, .unset, .unset, .unset, .unset, .unset, .unset, .unset, .unset, .unset, .unset] [(.long v32), (.long v31), (.long v4)])
  refine Goes.go (fun _ => XS.lsub S.here B.x rfl (B.d at_165) rfl) ?_
  show Goes _ _ _ _ T (mkF me_ 166 #[.val (.long q0), .second, .val (.int p1), .val (.int p2), .val (.int p3), .val (.int p4), .val (.long v1), .second, .val (.long v2), .second, .val (.long v3), .second, .val (.long v4), .second, .val (.long v5), .second, .val (.long v6), .second, .val (.long v7), .second, .val (.long v8), .second, .val (.ref b9), .val (.long v31), .second, .val (.long v32), .second, .val (.long v33), .second, .unset, .unset, .unset, .unset, .unset, .unset, .unset, .unset, .unset, .unset, .unset] [(.long (v31 - v32)), (.long v4)])
  refine Goes.go (fun _ => XS.lload S.here B.x rfl (B.d at_166) rfl) ?_
  show Goes _ _ _ _ T (mkF me_ 168 #[.val (.long q0), .second, .val (.int p1), .val (.int p2), .val (.int p3), .val (.int p4), .val (.long v1), .second, .val (.long v2), .second, .val (.long v3), .second, .val (.long v4), .second, .val (.long v5), .second, .val (.long v6), .second, .val (.long v7), .second, .val (.long v8), .second, .val (.ref b9), .val (.long v31), .second, .val (.long v32), .second, .val (.long v33), .second, .unset, .unset, .unset, .unset, .unset, .unset, .unset, .unset, .unset, .unset, .unset] [(.long v33), (.long (v31 - v32)), (.long v4)])
  refine Goes.go (fun _ => XS.lsub S.here B.x rfl (B.d at_168) rfl) ?_
  show Goes _ _ _ _ T (mkF me_ 169 #[.val (.long q0), .second, .val (.int p1), .val (.int p2), .val (.int p3), .val (.int p4), .val (.long v1), .second, .val (.long v2), .second, .val (.long v3), .second, .val (.long v4), .second, .val (.long v5), .second, .val (.long v6), .second, .val (.long v7), .second, .val (.long v8), .second, .val (.ref b9), .val (.long v31), .second, .val (.long v32), .second, .val (.long v33), .second, .unset, .unset, .unset, .unset, .unset, .unset, .unset, .unset, .unset, .unset, .unset] [(.long ((v31 - v32) - v33)), (.long v4)])
  refine Goes.callS (argsL := [(.long v4), (.long ((v31 - v32) - v33))]) (rest := []) (W := 0) S B (rm_min l Z aw hw v4 ((v31 - v32) - v33) _ n0) (w65 hw) (w66 hw) (w67 hw) (w68 hw) (by decide) (by decide) (by decide) (by decide) (by decide) rfl (lenOf pd_8 rfl) rfl (Nat.le_of_eq rfl) at_169 ?_
  intro v T h S hQ
  obtain ⟨rfl, hh⟩ := hQ
  replace hh := hh.symm
  subst hh
  show Goes _ _ _ _ T (mkF me_ 172 #[.val (.long q0), .second, .val (.int p1), .val (.int p2), .val (.int p3), .val (.int p4), .val (.long v1), .second, .val (.long v2), .second, .val (.long v3), .second, .val (.long v4), .second, .val (.long v5), .second, .val (.long v6), .second, .val (.long v7), .second, .val (.long v8), .second, .val (.ref b9), .val (.long v31), .second, .val (.long v32), .second, .val (.long v33), .second, .unset, .unset, .unset, .unset, .unset, .unset, .unset, .unset, .unset, .unset, .unset] [(.long (own_min v4 ((v31 - v32) - v33)))])
  generalize hv34 : (own_min v4 ((v31 - v32) - v33)) = v34
  refine Goes.go (fun _ => XS.lstore (g := (mkF me_ 172 #[.val (.long q0), .second, .val (.int p1), .val (.int p2), .val (.int p3), .val (.int p4), .val (.long v1), .second, .val (.long v2), .second, .val (.long v3), .second, .val (.long v4), .second, .val (.long v5), .second, .val (.long v6), .second, .val (.long v7), .second, .val (.long v8), .second, .val (.ref b9), .val (.long v31), .second, .val (.long v32), .second, .val (.long v33), .second, .unset, .unset, .unset, .unset, .unset, .unset, .unset, .unset, .unset, .unset, .unset] [(.long v34)])) S.here B.x rfl (B.d at_172) rfl (l' := #[.val (.long q0), .second, .val (.int p1), .val (.int p2), .val (.int p3), .val (.int p4), .val (.long v1), .second, .val (.long v2), .second, .val (.long v3), .second, .val (.long v4), .second, .val (.long v5), .second, .val (.long v6), .second, .val (.long v7), .second, .val (.long v8), .second, .val (.ref b9), .val (.long v31), .second, .val (.long v32), .second, .val (.long v33), .second, .val (.long v34), .second, .unset, .unset, .unset, .unset, .unset, .unset, .unset, .unset, .unset]) rfl) ?_
  show Goes _ _ _ _ T (mkF me_ 174 #[.val (.long q0), .second, .val (.int p1), .val (.int p2), .val (.int p3), .val (.int p4), .val (.long v1), .second, .val (.long v2), .second, .val (.long v3), .second, .val (.long v4), .second, .val (.long v5), .second, .val (.long v6), .second, .val (.long v7), .second, .val (.long v8), .second, .val (.ref b9), .val (.long v31), .second, .val (.long v32), .second, .val (.long v33), .second, .val (.long v34), .second, .unset, .unset, .unset, .unset, .unset, .unset, .unset, .unset, .unset] [])
  rcases own_fin hb4 hb5 hb6 hb7 hb8 hr_119 hr_126 hv31 hv32 hv33 hv34 with ⟨eT, eN, tot, x0, x1, x2, xr⟩ | ⟨eT, eN, tot, x0, x1, x2, xr⟩ | ⟨eT, eN, tot, x0, x1, x2, xr⟩ | ⟨eT, eN, tot, x0, x1, x2, xr⟩
  · skip
    show Goes _ _ _ _ T (mkF me_ 174 #[.val (.long q0), .second, .val (.int p1), .val (.int p2), .val (.int p3), .val (.int p4), .val (.long v1), .second, .val (.long v2), .second, .val (.long v3), .second, .val (.long v4), .second, .val (.long v5), .second, .val (.long v6), .second, .val (.long v7), .second, .val (.long v8), .second, .val (.ref b9), .val (.long v31), .second, .val (.long v32), .second, .val (.long v33), .second, .val (.long v34), .second, .unset, .unset, .unset, .unset, .unset, .unset, .unset, .unset, .unset] [])
    refine Goes.go (fun _ => XS.lload S.here B.x rfl (B.d at_174) rfl) ?_
    show Goes _ _ _ _ T (mkF me_ 176 #[.val (.long q0), .second, .val (.int p1), .val (.int p2), .val (.int p3), .val (.int p4), .val (.long v1), .second, .val (.long v2), .second, .val (.long v3), .second, .val (.long v4), .second, .val (.long v5), .second, .val (.long v6), .second, .val (.long v7), .second, .val (.long v8), .second, .val (.ref b9), .val (.long v31), .second, .val (.long v32), .second, .val (.long v33), .second, .val (.long v34), .second, .unset, .unset, .unset, .unset, .unset, .unset, .unset, .unset, .unset] [(.long v34)])
    refine Goes.go (fun _ => XS.lconst S.here B.x rfl (B.d at_176)) ?_
    show Goes _ _ _ _ T (mkF me_ 177 #[.val (.long q0), .second, .val (.int p1), .val (.int p2), .val (.int p3), .val (.int p4), .val (.long v1), .second, .val (.long v2), .second, .val (.long v3), .second, .val (.long v4), .second, .val (.long v5), .second, .val (.long v6), .second, .val (.long v7), .second, .val (.long v8), .second, .val (.ref b9), .val (.long v31), .second, .val (.long v32), .second, .val (.long v33), .second, .val (.long v34), .second, .unset, .unset, .unset, .unset, .unset, .unset, .unset, .unset, .unset] [(.long (0 : Int64)), (.long v34)])
    refine Goes.go (fun _ => XS.lcmp S.here B.x rfl (B.d at_177) rfl) ?_
    show Goes _ _ _ _ T (mkF me_ 178 #[.val (.long q0), .second, .val (.int p1), .val (.int p2), .val (.int p3), .val (.int p4), .val (.long v1), .second, .val (.long v2), .second, .val (.long v3), .second, .val (.long v4), .second, .val (.long v5), .second, .val (.long v6), .second, .val (.long v7), .second, .val (.long v8), .second, .val (.ref b9), .val (.long v31), .second, .val (.long v32), .second, .val (.long v33), .second, .val (.long v34), .second, .unset, .unset, .unset, .unset, .unset, .unset, .unset, .unset, .unset] [(.int (lcmpW v34 (0 : Int64)))])
    refine Goes.dia (P := (0 : Int64) < v34) (mk := fun z => (mkF me_ 186 #[.val (.long q0), .second, .val (.int p1), .val (.int p2), .val (.int p3), .val (.int p4), .val (.long v1), .second, .val (.long v2), .second, .val (.long v3), .second, .val (.long v4), .second, .val (.long v5), .second, .val (.long v6), .second, .val (.long v7), .second, .val (.long v8), .second, .val (.ref b9), .val (.long v31), .second, .val (.long v32), .second, .val (.long v33), .second, .val (.long v34), .second, .unset, .unset, .unset, .unset, .unset, .unset, .unset, .unset, .unset] [(.int z)])) (fun hc178 kk => ?_) (fun hc178 kk => ?_) ?_
    · skip
      refine Goes.go (fun _ => XS.ifNo S.here B.x rfl (B.d at_178) rfl ((if0 _ _).trans (tlt ((lw_gt v34 (0 : Int64)).mpr hc178)).2.2.2)) ?_
      show Goes _ _ _ _ T (mkF me_ 181 #[.val (.long q0), .second, .val (.int p1), .val (.int p2), .val (.int p3), .val (.int p4), .val (.long v1), .second, .val (.long v2), .second, .val (.long v3), .second, .val (.long v4), .second, .val (.long v5), .second, .val (.long v6), .second, .val (.long v7), .second, .val (.long v8), .second, .val (.ref b9), .val (.long v31), .second, .val (.long v32), .second, .val (.long v33), .second, .val (.long v34), .second, .unset, .unset, .unset, .unset, .unset, .unset, .unset, .unset, .unset] [])
      refine Goes.go (fun _ => XS.iconst S.here B.x rfl (B.d at_181)) ?_
      show Goes _ _ _ _ T (mkF me_ 182 #[.val (.long q0), .second, .val (.int p1), .val (.int p2), .val (.int p3), .val (.int p4), .val (.long v1), .second, .val (.long v2), .second, .val (.long v3), .second, .val (.long v4), .second, .val (.long v5), .second, .val (.long v6), .second, .val (.long v7), .second, .val (.long v8), .second, .val (.ref b9), .val (.long v31), .second, .val (.long v32), .second, .val (.long v33), .second, .val (.long v34), .second, .unset, .unset, .unset, .unset, .unset, .unset, .unset, .unset, .unset] [(.int (1 : Int32))])
      refine Goes.go (fun _ => XS.goto S.here B.x rfl (pc0 := 182) (pc' := 186) rfl (B.d at_182) (by decide) (by decide)) ?_
      show Goes _ _ _ _ T (mkF me_ 186 #[.val (.long q0), .second, .val (.int p1), .val (.int p2), .val (.int p3), .val (.int p4), .val (.long v1), .second, .val (.long v2), .second, .val (.long v3), .second, .val (.long v4), .second, .val (.long v5), .second, .val (.long v6), .second, .val (.long v7), .second, .val (.long v8), .second, .val (.ref b9), .val (.long v31), .second, .val (.long v32), .second, .val (.long v33), .second, .val (.long v34), .second, .unset, .unset, .unset, .unset, .unset, .unset, .unset, .unset, .unset] [(.int (1 : Int32))])
      exact kk
    · skip
      refine Goes.go (fun _ => XS.ifYes S.here B.x rfl (pc0 := 178) (pc' := 185) rfl (B.d at_178) rfl ((if0 _ _).trans (flt (mt (lw_gt v34 (0 : Int64)).mp hc178)).2.2.2) (by decide) (by decide)) ?_
      show Goes _ _ _ _ T (mkF me_ 185 #[.val (.long q0), .second, .val (.int p1), .val (.int p2), .val (.int p3), .val (.int p4), .val (.long v1), .second, .val (.long v2), .second, .val (.long v3), .second, .val (.long v4), .second, .val (.long v5), .second, .val (.long v6), .second, .val (.long v7), .second, .val (.long v8), .second, .val (.ref b9), .val (.long v31), .second, .val (.long v32), .second, .val (.long v33), .second, .val (.long v34), .second, .unset, .unset, .unset, .unset, .unset, .unset, .unset, .unset, .unset] [])
      refine Goes.go (fun _ => XS.iconst S.here B.x rfl (B.d at_185)) ?_
      show Goes _ _ _ _ T (mkF me_ 186 #[.val (.long q0), .second, .val (.int p1), .val (.int p2), .val (.int p3), .val (.int p4), .val (.long v1), .second, .val (.long v2), .second, .val (.long v3), .second, .val (.long v4), .second, .val (.long v5), .second, .val (.long v6), .second, .val (.long v7), .second, .val (.long v8), .second, .val (.ref b9), .val (.long v31), .second, .val (.long v32), .second, .val (.long v33), .second, .val (.long v34), .second, .unset, .unset, .unset, .unset, .unset, .unset, .unset, .unset, .unset] [(.int (0 : Int32))])
      exact kk
    show Goes _ _ _ _ T (mkF me_ 186 #[.val (.long q0), .second, .val (.int p1), .val (.int p2), .val (.int p3), .val (.int p4), .val (.long v1), .second, .val (.long v2), .second, .val (.long v3), .second, .val (.long v4), .second, .val (.long v5), .second, .val (.long v6), .second, .val (.long v7), .second, .val (.long v8), .second, .val (.ref b9), .val (.long v31), .second, .val (.long v32), .second, .val (.long v33), .second, .val (.long v34), .second, .unset, .unset, .unset, .unset, .unset, .unset, .unset, .unset, .unset] [(.int (bi ((0 : Int64) < v34)))])
    refine Goes.go (fun _ => XS.lload S.here B.x rfl (B.d at_186) rfl) ?_
    show Goes _ _ _ _ T (mkF me_ 188 #[.val (.long q0), .second, .val (.int p1), .val (.int p2), .val (.int p3), .val (.int p4), .val (.long v1), .second, .val (.long v2), .second, .val (.long v3), .second, .val (.long v4), .second, .val (.long v5), .second, .val (.long v6), .second, .val (.long v7), .second, .val (.long v8), .second, .val (.ref b9), .val (.long v31), .second, .val (.long v32), .second, .val (.long v33), .second, .val (.long v34), .second, .unset, .unset, .unset, .unset, .unset, .unset, .unset, .unset, .unset] [(.long v33), (.int (bi ((0 : Int64) < v34)))])
    refine Goes.go (fun _ => XS.lconst S.here B.x rfl (B.d at_188)) ?_
    show Goes _ _ _ _ T (mkF me_ 189 #[.val (.long q0), .second, .val (.int p1), .val (.int p2), .val (.int p3), .val (.int p4), .val (.long v1), .second, .val (.long v2), .second, .val (.long v3), .second, .val (.long v4), .second, .val (.long v5), .second, .val (.long v6), .second, .val (.long v7), .second, .val (.long v8), .second, .val (.ref b9), .val (.long v31), .second, .val (.long v32), .second, .val (.long v33), .second, .val (.long v34), .second, .unset, .unset, .unset, .unset, .unset, .unset, .unset, .unset, .unset] [(.long (0 : Int64)), (.long v33), (.int (bi ((0 : Int64) < v34)))])
    refine Goes.go (fun _ => XS.lcmp S.here B.x rfl (B.d at_189) rfl) ?_
    show Goes _ _ _ _ T (mkF me_ 190 #[.val (.long q0), .second, .val (.int p1), .val (.int p2), .val (.int p3), .val (.int p4), .val (.long v1), .second, .val (.long v2), .second, .val (.long v3), .second, .val (.long v4), .second, .val (.long v5), .second, .val (.long v6), .second, .val (.long v7), .second, .val (.long v8), .second, .val (.ref b9), .val (.long v31), .second, .val (.long v32), .second, .val (.long v33), .second, .val (.long v34), .second, .unset, .unset, .unset, .unset, .unset, .unset, .unset, .unset, .unset] [(.int (lcmpW v33 (0 : Int64))), (.int (bi ((0 : Int64) < v34)))])
    refine Goes.dia (P := (0 : Int64) < v33) (mk := fun z => (mkF me_ 198 #[.val (.long q0), .second, .val (.int p1), .val (.int p2), .val (.int p3), .val (.int p4), .val (.long v1), .second, .val (.long v2), .second, .val (.long v3), .second, .val (.long v4), .second, .val (.long v5), .second, .val (.long v6), .second, .val (.long v7), .second, .val (.long v8), .second, .val (.ref b9), .val (.long v31), .second, .val (.long v32), .second, .val (.long v33), .second, .val (.long v34), .second, .unset, .unset, .unset, .unset, .unset, .unset, .unset, .unset, .unset] [(.int z), (.int (bi ((0 : Int64) < v34)))])) (fun hc190 kk => ?_) (fun hc190 kk => ?_) ?_
    · skip
      refine Goes.go (fun _ => XS.ifNo S.here B.x rfl (B.d at_190) rfl ((if0 _ _).trans (tlt ((lw_gt v33 (0 : Int64)).mpr hc190)).2.2.2)) ?_
      show Goes _ _ _ _ T (mkF me_ 193 #[.val (.long q0), .second, .val (.int p1), .val (.int p2), .val (.int p3), .val (.int p4), .val (.long v1), .second, .val (.long v2), .second, .val (.long v3), .second, .val (.long v4), .second, .val (.long v5), .second, .val (.long v6), .second, .val (.long v7), .second, .val (.long v8), .second, .val (.ref b9), .val (.long v31), .second, .val (.long v32), .second, .val (.long v33), .second, .val (.long v34), .second, .unset, .unset, .unset, .unset, .unset, .unset, .unset, .unset, .unset] [(.int (bi ((0 : Int64) < v34)))])
      refine Goes.go (fun _ => XS.iconst S.here B.x rfl (B.d at_193)) ?_
      show Goes _ _ _ _ T (mkF me_ 194 #[.val (.long q0), .second, .val (.int p1), .val (.int p2), .val (.int p3), .val (.int p4), .val (.long v1), .second, .val (.long v2), .second, .val (.long v3), .second, .val (.long v4), .second, .val (.long v5), .second, .val (.long v6), .second, .val (.long v7), .second, .val (.long v8), .second, .val (.ref b9), .val (.long v31), .second, .val (.long v32), .second, .val (.long v33), .second, .val (.long v34), .second, .unset, .unset, .unset, .unset, .unset, .unset, .unset, .unset, .unset] [(.int (1 : Int32)), (.int (bi ((0 : Int64) < v34)))])
      refine Goes.go (fun _ => XS.goto S.here B.x rfl (pc0 := 194) (pc' := 198) rfl (B.d at_194) (by decide) (by decide)) ?_
      show Goes _ _ _ _ T (mkF me_ 198 #[.val (.long q0), .second, .val (.int p1), .val (.int p2), .val (.int p3), .val (.int p4), .val (.long v1), .second, .val (.long v2), .second, .val (.long v3), .second, .val (.long v4), .second, .val (.long v5), .second, .val (.long v6), .second, .val (.long v7), .second, .val (.long v8), .second, .val (.ref b9), .val (.long v31), .second, .val (.long v32), .second, .val (.long v33), .second, .val (.long v34), .second, .unset, .unset, .unset, .unset, .unset, .unset, .unset, .unset, .unset] [(.int (1 : Int32)), (.int (bi ((0 : Int64) < v34)))])
      exact kk
    · skip
      refine Goes.go (fun _ => XS.ifYes S.here B.x rfl (pc0 := 190) (pc' := 197) rfl (B.d at_190) rfl ((if0 _ _).trans (flt (mt (lw_gt v33 (0 : Int64)).mp hc190)).2.2.2) (by decide) (by decide)) ?_
      show Goes _ _ _ _ T (mkF me_ 197 #[.val (.long q0), .second, .val (.int p1), .val (.int p2), .val (.int p3), .val (.int p4), .val (.long v1), .second, .val (.long v2), .second, .val (.long v3), .second, .val (.long v4), .second, .val (.long v5), .second, .val (.long v6), .second, .val (.long v7), .second, .val (.long v8), .second, .val (.ref b9), .val (.long v31), .second, .val (.long v32), .second, .val (.long v33), .second, .val (.long v34), .second, .unset, .unset, .unset, .unset, .unset, .unset, .unset, .unset, .unset] [(.int (bi ((0 : Int64) < v34)))])
      refine Goes.go (fun _ => XS.iconst S.here B.x rfl (B.d at_197)) ?_
      show Goes _ _ _ _ T (mkF me_ 198 #[.val (.long q0), .second, .val (.int p1), .val (.int p2), .val (.int p3), .val (.int p4), .val (.long v1), .second, .val (.long v2), .second, .val (.long v3), .second, .val (.long v4), .second, .val (.long v5), .second, .val (.long v6), .second, .val (.long v7), .second, .val (.long v8), .second, .val (.ref b9), .val (.long v31), .second, .val (.long v32), .second, .val (.long v33), .second, .val (.long v34), .second, .unset, .unset, .unset, .unset, .unset, .unset, .unset, .unset, .unset] [(.int (0 : Int32)), (.int (bi ((0 : Int64) < v34)))])
      exact kk
    show Goes _ _ _ _ T (mkF me_ 198 #[.val (.long q0), .second, .val (.int p1), .val (.int p2), .val (.int p3), .val (.int p4), .val (.long v1), .second, .val (.long v2), .second, .val (.long v3), .second, .val (.long v4), .second, .val (.long v5), .second, .val (.long v6), .second, .val (.long v7), .second, .val (.long v8), .second, .val (.ref b9), .val (.long v31), .second, .val (.long v32), .second, .val (.long v33), .second, .val (.long v34), .second, .unset, .unset, .unset, .unset, .unset, .unset, .unset, .unset, .unset] [(.int (bi ((0 : Int64) < v33))), (.int (bi ((0 : Int64) < v34)))])
    refine Goes.go (fun _ => XS.iadd S.here B.x rfl (B.d at_198) rfl) ?_
    show Goes _ _ _ _ T (mkF me_ 199 #[.val (.long q0), .second, .val (.int p1), .val (.int p2), .val (.int p3), .val (.int p4), .val (.long v1), .second, .val (.long v2), .second, .val (.long v3), .second, .val (.long v4), .second, .val (.long v5), .second, .val (.long v6), .second, .val (.long v7), .second, .val (.long v8), .second, .val (.ref b9), .val (.long v31), .second, .val (.long v32), .second, .val (.long v33), .second, .val (.long v34), .second, .unset, .unset, .unset, .unset, .unset, .unset, .unset, .unset, .unset] [(.int ((bi ((0 : Int64) < v34)) + (bi ((0 : Int64) < v33))))])
    refine Goes.go (fun _ => XS.lload S.here B.x rfl (B.d at_199) rfl) ?_
    show Goes _ _ _ _ T (mkF me_ 201 #[.val (.long q0), .second, .val (.int p1), .val (.int p2), .val (.int p3), .val (.int p4), .val (.long v1), .second, .val (.long v2), .second, .val (.long v3), .second, .val (.long v4), .second, .val (.long v5), .second, .val (.long v6), .second, .val (.long v7), .second, .val (.long v8), .second, .val (.ref b9), .val (.long v31), .second, .val (.long v32), .second, .val (.long v33), .second, .val (.long v34), .second, .unset, .unset, .unset, .unset, .unset, .unset, .unset, .unset, .unset] [(.long v32), (.int ((bi ((0 : Int64) < v34)) + (bi ((0 : Int64) < v33))))])
    refine Goes.go (fun _ => XS.lconst S.here B.x rfl (B.d at_201)) ?_
    show Goes _ _ _ _ T (mkF me_ 202 #[.val (.long q0), .second, .val (.int p1), .val (.int p2), .val (.int p3), .val (.int p4), .val (.long v1), .second, .val (.long v2), .second, .val (.long v3), .second, .val (.long v4), .second, .val (.long v5), .second, .val (.long v6), .second, .val (.long v7), .second, .val (.long v8), .second, .val (.ref b9), .val (.long v31), .second, .val (.long v32), .second, .val (.long v33), .second, .val (.long v34), .second, .unset, .unset, .unset, .unset, .unset, .unset, .unset, .unset, .unset] [(.long (0 : Int64)), (.long v32), (.int ((bi ((0 : Int64) < v34)) + (bi ((0 : Int64) < v33))))])
    refine Goes.go (fun _ => XS.lcmp S.here B.x rfl (B.d at_202) rfl) ?_
    show Goes _ _ _ _ T (mkF me_ 203 #[.val (.long q0), .second, .val (.int p1), .val (.int p2), .val (.int p3), .val (.int p4), .val (.long v1), .second, .val (.long v2), .second, .val (.long v3), .second, .val (.long v4), .second, .val (.long v5), .second, .val (.long v6), .second, .val (.long v7), .second, .val (.long v8), .second, .val (.ref b9), .val (.long v31), .second, .val (.long v32), .second, .val (.long v33), .second, .val (.long v34), .second, .unset, .unset, .unset, .unset, .unset, .unset, .unset, .unset, .unset] [(.int (lcmpW v32 (0 : Int64))), (.int ((bi ((0 : Int64) < v34)) + (bi ((0 : Int64) < v33))))])
    refine Goes.dia (P := (0 : Int64) < v32) (mk := fun z => (mkF me_ 211 #[.val (.long q0), .second, .val (.int p1), .val (.int p2), .val (.int p3), .val (.int p4), .val (.long v1), .second, .val (.long v2), .second, .val (.long v3), .second, .val (.long v4), .second, .val (.long v5), .second, .val (.long v6), .second, .val (.long v7), .second, .val (.long v8), .second, .val (.ref b9), .val (.long v31), .second, .val (.long v32), .second, .val (.long v33), .second, .val (.long v34), .second, .unset, .unset, .unset, .unset, .unset, .unset, .unset, .unset, .unset] [(.int z), (.int ((bi ((0 : Int64) < v34)) + (bi ((0 : Int64) < v33))))])) (fun hc203 kk => ?_) (fun hc203 kk => ?_) ?_
    · skip
      refine Goes.go (fun _ => XS.ifNo S.here B.x rfl (B.d at_203) rfl ((if0 _ _).trans (tlt ((lw_gt v32 (0 : Int64)).mpr hc203)).2.2.2)) ?_
      show Goes _ _ _ _ T (mkF me_ 206 #[.val (.long q0), .second, .val (.int p1), .val (.int p2), .val (.int p3), .val (.int p4), .val (.long v1), .second, .val (.long v2), .second, .val (.long v3), .second, .val (.long v4), .second, .val (.long v5), .second, .val (.long v6), .second, .val (.long v7), .second, .val (.long v8), .second, .val (.ref b9), .val (.long v31), .second, .val (.long v32), .second, .val (.long v33), .second, .val (.long v34), .second, .unset, .unset, .unset, .unset, .unset, .unset, .unset, .unset, .unset] [(.int ((bi ((0 : Int64) < v34)) + (bi ((0 : Int64) < v33))))])
      refine Goes.go (fun _ => XS.iconst S.here B.x rfl (B.d at_206)) ?_
      show Goes _ _ _ _ T (mkF me_ 207 #[.val (.long q0), .second, .val (.int p1), .val (.int p2), .val (.int p3), .val (.int p4), .val (.long v1), .second, .val (.long v2), .second, .val (.long v3), .second, .val (.long v4), .second, .val (.long v5), .second, .val (.long v6), .second, .val (.long v7), .second, .val (.long v8), .second, .val (.ref b9), .val (.long v31), .second, .val (.long v32), .second, .val (.long v33), .second, .val (.long v34), .second, .unset, .unset, .unset, .unset, .unset, .unset, .unset, .unset, .unset] [(.int (1 : Int32)), (.int ((bi ((0 : Int64) < v34)) + (bi ((0 : Int64) < v33))))])
      refine Goes.go (fun _ => XS.goto S.here B.x rfl (pc0 := 207) (pc' := 211) rfl (B.d at_207) (by decide) (by decide)) ?_
      show Goes _ _ _ _ T (mkF me_ 211 #[.val (.long q0), .second, .val (.int p1), .val (.int p2), .val (.int p3), .val (.int p4), .val (.long v1), .second, .val (.long v2), .second, .val (.long v3), .second, .val (.long v4), .second, .val (.long v5), .second, .val (.long v6), .second, .val (.long v7), .second, .val (.long v8), .second, .val (.ref b9), .val (.long v31), .second, .val (.long v32), .second, .val (.long v33), .second, .val (.long v34), .second, .unset, .unset, .unset, .unset, .unset, .unset, .unset, .unset, .unset] [(.int (1 : Int32)), (.int ((bi ((0 : Int64) < v34)) + (bi ((0 : Int64) < v33))))])
      exact kk
    · skip
      refine Goes.go (fun _ => XS.ifYes S.here B.x rfl (pc0 := 203) (pc' := 210) rfl (B.d at_203) rfl ((if0 _ _).trans (flt (mt (lw_gt v32 (0 : Int64)).mp hc203)).2.2.2) (by decide) (by decide)) ?_
      show Goes _ _ _ _ T (mkF me_ 210 #[.val (.long q0), .second, .val (.int p1), .val (.int p2), .val (.int p3), .val (.int p4), .val (.long v1), .second, .val (.long v2), .second, .val (.long v3), .second, .val (.long v4), .second, .val (.long v5), .second, .val (.long v6), .second, .val (.long v7), .second, .val (.long v8), .second, .val (.ref b9), .val (.long v31), .second, .val (.long v32), .second, .val (.long v33), .second, .val (.long v34), .second, .unset, .unset, .unset, .unset, .unset, .unset, .unset, .unset, .unset] [(.int ((bi ((0 : Int64) < v34)) + (bi ((0 : Int64) < v33))))])
      refine Goes.go (fun _ => XS.iconst S.here B.x rfl (B.d at_210)) ?_
      show Goes _ _ _ _ T (mkF me_ 211 #[.val (.long q0), .second, .val (.int p1), .val (.int p2), .val (.int p3), .val (.int p4), .val (.long v1), .second, .val (.long v2), .second, .val (.long v3), .second, .val (.long v4), .second, .val (.long v5), .second, .val (.long v6), .second, .val (.long v7), .second, .val (.long v8), .second, .val (.ref b9), .val (.long v31), .second, .val (.long v32), .second, .val (.long v33), .second, .val (.long v34), .second, .unset, .unset, .unset, .unset, .unset, .unset, .unset, .unset, .unset] [(.int (0 : Int32)), (.int ((bi ((0 : Int64) < v34)) + (bi ((0 : Int64) < v33))))])
      exact kk
    show Goes _ _ _ _ T (mkF me_ 211 #[.val (.long q0), .second, .val (.int p1), .val (.int p2), .val (.int p3), .val (.int p4), .val (.long v1), .second, .val (.long v2), .second, .val (.long v3), .second, .val (.long v4), .second, .val (.long v5), .second, .val (.long v6), .second, .val (.long v7), .second, .val (.long v8), .second, .val (.ref b9), .val (.long v31), .second, .val (.long v32), .second, .val (.long v33), .second, .val (.long v34), .second, .unset, .unset, .unset, .unset, .unset, .unset, .unset, .unset, .unset] [(.int (bi ((0 : Int64) < v32))), (.int ((bi ((0 : Int64) < v34)) + (bi ((0 : Int64) < v33))))])
    refine Goes.go (fun _ => XS.iadd S.here B.x rfl (B.d at_211) rfl) ?_
    show Goes _ _ _ _ T (mkF me_ 212 #[.val (.long q0), .second, .val (.int p1), .val (.int p2), .val (.int p3), .val (.int p4), .val (.long v1), .second, .val (.long v2), .second, .val (.long v3), .second, .val (.long v4), .second, .val (.long v5), .second, .val (.long v6), .second, .val (.long v7), .second, .val (.long v8), .second, .val (.ref b9), .val (.long v31), .second, .val (.long v32), .second, .val (.long v33), .second, .val (.long v34), .second, .unset, .unset, .unset, .unset, .unset, .unset, .unset, .unset, .unset] [(.int (((bi ((0 : Int64) < v34)) + (bi ((0 : Int64) < v33))) + (bi ((0 : Int64) < v32))))])
    refine Goes.go (fun _ => XS.istore (g := (mkF me_ 212 #[.val (.long q0), .second, .val (.int p1), .val (.int p2), .val (.int p3), .val (.int p4), .val (.long v1), .second, .val (.long v2), .second, .val (.long v3), .second, .val (.long v4), .second, .val (.long v5), .second, .val (.long v6), .second, .val (.long v7), .second, .val (.long v8), .second, .val (.ref b9), .val (.long v31), .second, .val (.long v32), .second, .val (.long v33), .second, .val (.long v34), .second, .unset, .unset, .unset, .unset, .unset, .unset, .unset, .unset, .unset] [(.int (((bi ((0 : Int64) < v34)) + (bi ((0 : Int64) < v33))) + (bi ((0 : Int64) < v32))))])) S.here B.x rfl (B.d at_212) rfl (l' := #[.val (.long q0), .second, .val (.int p1), .val (.int p2), .val (.int p3), .val (.int p4), .val (.long v1), .second, .val (.long v2), .second, .val (.long v3), .second, .val (.long v4), .second, .val (.long v5), .second, .val (.long v6), .second, .val (.long v7), .second, .val (.long v8), .second, .val (.ref b9), .val (.long v31), .second, .val (.long v32), .second, .val (.long v33), .second, .val (.long v34), .second, .val (.int (((bi ((0 : Int64) < v34)) + (bi ((0 : Int64) < v33))) + (bi ((0 : Int64) < v32)))), .unset, .unset, .unset, .unset, .unset, .unset, .unset, .unset]) rfl) ?_
    show Goes _ _ _ _ T (mkF me_ 214 #[.val (.long q0), .second, .val (.int p1), .val (.int p2), .val (.int p3), .val (.int p4), .val (.long v1), .second, .val (.long v2), .second, .val (.long v3), .second, .val (.long v4), .second, .val (.long v5), .second, .val (.long v6), .second, .val (.long v7), .second, .val (.long v8), .second, .val (.ref b9), .val (.long v31), .second, .val (.long v32), .second, .val (.long v33), .second, .val (.long v34), .second, .val (.int (((bi ((0 : Int64) < v34)) + (bi ((0 : Int64) < v33))) + (bi ((0 : Int64) < v32)))), .unset, .unset, .unset, .unset, .unset, .unset, .unset, .unset] [])
    refine Goes.go (fun _ => XS.aload S.here B.x rfl (B.d at_214) rfl rfl) ?_
    show Goes _ _ _ _ T (mkF me_ 216 #[.val (.long q0), .second, .val (.int p1), .val (.int p2), .val (.int p3), .val (.int p4), .val (.long v1), .second, .val (.long v2), .second, .val (.long v3), .second, .val (.long v4), .second, .val (.long v5), .second, .val (.long v6), .second, .val (.long v7), .second, .val (.long v8), .second, .val (.ref b9), .val (.long v31), .second, .val (.long v32), .second, .val (.long v33), .second, .val (.long v34), .second, .val (.int (((bi ((0 : Int64) < v34)) + (bi ((0 : Int64) < v33))) + (bi ((0 : Int64) < v32)))), .unset, .unset, .unset, .unset, .unset, .unset, .unset, .unset] [(.ref b9)])
    refine Goes.callV (argsL := []) (rest := []) (W := 0) S B (rm_permits l Z aw hw b9 b10 b11 (fun i => (.long (u18 i))) u19 u26 u27 u28 _ n0 E_b9 F_b9_instants F_b9_lastNumbers F_b9_first F_b9_size F_b9_dropped A_b10 A_b11) E_b9 (w69 hw) (w57 hw) (w59 hw) (w58 hw) (w2 hw) (w60 hw) (by decide) (by decide) (by decide) (by decide) (by decide) rfl (lenOf pd_4 rfl) rfl (Nat.le_of_eq rfl) at_216 ?_
    intro v T h S hQ
    obtain ⟨rfl, hh⟩ := hQ
    replace hh := hh.symm
    subst hh
    show Goes _ _ _ _ T (mkF me_ 219 #[.val (.long q0), .second, .val (.int p1), .val (.int p2), .val (.int p3), .val (.int p4), .val (.long v1), .second, .val (.long v2), .second, .val (.long v3), .second, .val (.long v4), .second, .val (.long v5), .second, .val (.long v6), .second, .val (.long v7), .second, .val (.long v8), .second, .val (.ref b9), .val (.long v31), .second, .val (.long v32), .second, .val (.long v33), .second, .val (.long v34), .second, .val (.int (((bi ((0 : Int64) < v34)) + (bi ((0 : Int64) < v33))) + (bi ((0 : Int64) < v32)))), .unset, .unset, .unset, .unset, .unset, .unset, .unset, .unset] [(.long (own_perm u27 u28 (u19 ((u26 + (u27 - (1 : Int32))) &&& (3 : Int32)).toNatClampNeg)))])
    rw [own_pt hN2_126 hs2_126 hl2_126]
    show Goes _ _ _ _ T (mkF me_ 219 #[.val (.long q0), .second, .val (.int p1), .val (.int p2), .val (.int p3), .val (.int p4), .val (.long v1), .second, .val (.long v2), .second, .val (.long v3), .second, .val (.long v4), .second, .val (.long v5), .second, .val (.long v6), .second, .val (.long v7), .second, .val (.long v8), .second, .val (.ref b9), .val (.long v31), .second, .val (.long v32), .second, .val (.long v33), .second, .val (.long v34), .second, .val (.int (((bi ((0 : Int64) < v34)) + (bi ((0 : Int64) < v33))) + (bi ((0 : Int64) < v32)))), .unset, .unset, .unset, .unset, .unset, .unset, .unset, .unset] [(.long (own_tt u28 u30))])
    generalize hv35 : (own_tt u28 u30) = v35
    refine Goes.go (fun _ => XS.lstore (g := (mkF me_ 219 #[.val (.long q0), .second, .val (.int p1), .val (.int p2), .val (.int p3), .val (.int p4), .val (.long v1), .second, .val (.long v2), .second, .val (.long v3), .second, .val (.long v4), .second, .val (.long v5), .second, .val (.long v6), .second, .val (.long v7), .second, .val (.long v8), .second, .val (.ref b9), .val (.long v31), .second, .val (.long v32), .second, .val (.long v33), .second, .val (.long v34), .second, .val (.int (((bi ((0 : Int64) < v34)) + (bi ((0 : Int64) < v33))) + (bi ((0 : Int64) < v32)))), .unset, .unset, .unset, .unset, .unset, .unset, .unset, .unset] [(.long v35)])) S.here B.x rfl (B.d at_219) rfl (l' := #[.val (.long q0), .second, .val (.int p1), .val (.int p2), .val (.int p3), .val (.int p4), .val (.long v1), .second, .val (.long v2), .second, .val (.long v3), .second, .val (.long v4), .second, .val (.long v5), .second, .val (.long v6), .second, .val (.long v7), .second, .val (.long v8), .second, .val (.ref b9), .val (.long v31), .second, .val (.long v32), .second, .val (.long v33), .second, .val (.long v34), .second, .val (.int (((bi ((0 : Int64) < v34)) + (bi ((0 : Int64) < v33))) + (bi ((0 : Int64) < v32)))), .val (.long v35), .second, .unset, .unset, .unset, .unset, .unset, .unset]) rfl) ?_
    show Goes _ _ _ _ T (mkF me_ 221 #[.val (.long q0), .second, .val (.int p1), .val (.int p2), .val (.int p3), .val (.int p4), .val (.long v1), .second, .val (.long v2), .second, .val (.long v3), .second, .val (.long v4), .second, .val (.long v5), .second, .val (.long v6), .second, .val (.long v7), .second, .val (.long v8), .second, .val (.ref b9), .val (.long v31), .second, .val (.long v32), .second, .val (.long v33), .second, .val (.long v34), .second, .val (.int (((bi ((0 : Int64) < v34)) + (bi ((0 : Int64) < v33))) + (bi ((0 : Int64) < v32)))), .val (.long v35), .second, .unset, .unset, .unset, .unset, .unset, .unset] [])
    refine Goes.go (fun _ => XS.lload S.here B.x rfl (B.d at_221) rfl) ?_
    show Goes _ _ _ _ T (mkF me_ 223 #[.val (.long q0), .second, .val (.int p1), .val (.int p2), .val (.int p3), .val (.int p4), .val (.long v1), .second, .val (.long v2), .second, .val (.long v3), .second, .val (.long v4), .second, .val (.long v5), .second, .val (.long v6), .second, .val (.long v7), .second, .val (.long v8), .second, .val (.ref b9), .val (.long v31), .second, .val (.long v32), .second, .val (.long v33), .second, .val (.long v34), .second, .val (.int (((bi ((0 : Int64) < v34)) + (bi ((0 : Int64) < v33))) + (bi ((0 : Int64) < v32)))), .val (.long v35), .second, .unset, .unset, .unset, .unset, .unset, .unset] [(.long v35)])
    refine Goes.go (fun _ => XS.lload S.here B.x rfl (B.d at_223) rfl) ?_
    show Goes _ _ _ _ T (mkF me_ 225 #[.val (.long q0), .second, .val (.int p1), .val (.int p2), .val (.int p3), .val (.int p4), .val (.long v1), .second, .val (.long v2), .second, .val (.long v3), .second, .val (.long v4), .second, .val (.long v5), .second, .val (.long v6), .second, .val (.long v7), .second, .val (.long v8), .second, .val (.ref b9), .val (.long v31), .second, .val (.long v32), .second, .val (.long v33), .second, .val (.long v34), .second, .val (.int (((bi ((0 : Int64) < v34)) + (bi ((0 : Int64) < v33))) + (bi ((0 : Int64) < v32)))), .val (.long v35), .second, .unset, .unset, .unset, .unset, .unset, .unset] [(.long v34), (.long v35)])
    refine Goes.go (fun _ => XS.lload S.here B.x rfl (B.d at_225) rfl) ?_
    show Goes _ _ _ _ T (mkF me_ 227 #[.val (.long q0), .second, .val (.int p1), .val (.int p2), .val (.int p3), .val (.int p4), .val (.long v1), .second, .val (.long v2), .second, .val (.long v3), .second, .val (.long v4), .second, .val (.long v5), .second, .val (.long v6), .second, .val (.long v7), .second, .val (.long v8), .second, .val (.ref b9), .val (.long v31), .second, .val (.long v32), .second, .val (.long v33), .second, .val (.long v34), .second, .val (.int (((bi ((0 : Int64) < v34)) + (bi ((0 : Int64) < v33))) + (bi ((0 : Int64) < v32)))), .val (.long v35), .second, .unset, .unset, .unset, .unset, .unset, .unset] [(.long v33), (.long v34), (.long v35)])
    refine Goes.go (fun _ => XS.ladd S.here B.x rfl (B.d at_227) rfl) ?_
    show Goes _ _ _ _ T (mkF me_ 228 #[.val (.long q0), .second, .val (.int p1), .val (.int p2), .val (.int p3), .val (.int p4), .val (.long v1), .second, .val (.long v2), .second, .val (.long v3), .second, .val (.long v4), .second, .val (.long v5), .second, .val (.long v6), .second, .val (.long v7), .second, .val (.long v8), .second, .val (.ref b9), .val (.long v31), .second, .val (.long v32), .second, .val (.long v33), .second, .val (.long v34), .second, .val (.int (((bi ((0 : Int64) < v34)) + (bi ((0 : Int64) < v33))) + (bi ((0 : Int64) < v32)))), .val (.long v35), .second, .unset, .unset, .unset, .unset, .unset, .unset] [(.long (v34 + v33)), (.long v35)])
    refine Goes.go (fun _ => XS.lload S.here B.x rfl (B.d at_228) rfl) ?_
    show Goes _ _ _ _ T (mkF me_ 230 #[.val (.long q0), .second, .val (.int p1), .val (.int p2), .val (.int p3), .val (.int p4), .val (.long v1), .second, .val (.long v2), .second, .val (.long v3), .second, .val (.long v4), .second, .val (.long v5), .second, .val (.long v6), .second, .val (.long v7), .second, .val (.long v8), .second, .val (.ref b9), .val (.long v31), .second, .val (.long v32), .second, .val (.long v33), .second, .val (.long v34), .second, .val (.int (((bi ((0 : Int64) < v34)) + (bi ((0 : Int64) < v33))) + (bi ((0 : Int64) < v32)))), .val (.long v35), .second, .unset, .unset, .unset, .unset, .unset, .unset] [(.long v32), (.long (v34 + v33)), (.long v35)])
    refine Goes.go (fun _ => XS.ladd S.here B.x rfl (B.d at_230) rfl) ?_
    show Goes _ _ _ _ T (mkF me_ 231 #[.val (.long q0), .second, .val (.int p1), .val (.int p2), .val (.int p3), .val (.int p4), .val (.long v1), .second, .val (.long v2), .second, .val (.long v3), .second, .val (.long v4), .second, .val (.long v5), .second, .val (.long v6), .second, .val (.long v7), .second, .val (.long v8), .second, .val (.ref b9), .val (.long v31), .second, .val (.long v32), .second, .val (.long v33), .second, .val (.long v34), .second, .val (.int (((bi ((0 : Int64) < v34)) + (bi ((0 : Int64) < v33))) + (bi ((0 : Int64) < v32)))), .val (.long v35), .second, .unset, .unset, .unset, .unset, .unset, .unset] [(.long ((v34 + v33) + v32)), (.long v35)])
    refine Goes.go (fun _ => XS.lcmp S.here B.x rfl (B.d at_231) rfl) ?_
    show Goes _ _ _ _ T (mkF me_ 232 #[.val (.long q0), .second, .val (.int p1), .val (.int p2), .val (.int p3), .val (.int p4), .val (.long v1), .second, .val (.long v2), .second, .val (.long v3), .second, .val (.long v4), .second, .val (.long v5), .second, .val (.long v6), .second, .val (.long v7), .second, .val (.long v8), .second, .val (.ref b9), .val (.long v31), .second, .val (.long v32), .second, .val (.long v33), .second, .val (.long v34), .second, .val (.int (((bi ((0 : Int64) < v34)) + (bi ((0 : Int64) < v33))) + (bi ((0 : Int64) < v32)))), .val (.long v35), .second, .unset, .unset, .unset, .unset, .unset, .unset] [(.int (lcmpW v35 ((v34 + v33) + v32)))])
    refine Goes.go (fun _ => XS.ifYes S.here B.x rfl (pc0 := 232) (pc' := 237) rfl (B.d at_232) rfl ((if0 _ _).trans (teq ((lw_eq v35 ((v34 + v33) + v32)).mpr (show v35 = ((v34 + v33) + v32) from hv35.symm.trans tot))).1) (by decide) (by decide)) ?_
    show Goes _ _ _ _ T (mkF me_ 237 #[.val (.long q0), .second, .val (.int p1), .val (.int p2), .val (.int p3), .val (.int p4), .val (.long v1), .second, .val (.long v2), .second, .val (.long v3), .second, .val (.long v4), .second, .val (.long v5), .second, .val (.long v6), .second, .val (.long v7), .second, .val (.long v8), .second, .val (.ref b9), .val (.long v31), .second, .val (.long v32), .second, .val (.long v33), .second, .val (.long v34), .second, .val (.int (((bi ((0 : Int64) < v34)) + (bi ((0 : Int64) < v33))) + (bi ((0 : Int64) < v32)))), .val (.long v35), .second, .unset, .unset, .unset, .unset, .unset, .unset] [])
    refine Goes.go (fun _ => XS.aload S.here B.x rfl (B.d at_237) rfl rfl) ?_
    show Goes _ _ _ _ T (mkF me_ 239 #[.val (.long q0), .second, .val (.int p1), .val (.int p2), .val (.int p3), .val (.int p4), .val (.long v1), .second, .val (.long v2), .second, .val (.long v3), .second, .val (.long v4), .second, .val (.long v5), .second, .val (.long v6), .second, .val (.long v7), .second, .val (.long v8), .second, .val (.ref b9), .val (.long v31), .second, .val (.long v32), .second, .val (.long v33), .second, .val (.long v34), .second, .val (.int (((bi ((0 : Int64) < v34)) + (bi ((0 : Int64) < v33))) + (bi ((0 : Int64) < v32)))), .val (.long v35), .second, .unset, .unset, .unset, .unset, .unset, .unset] [(.ref b9)])
    refine Goes.callV (argsL := []) (rest := []) (W := 0) S B (rm_insts l Z aw hw b9 u27 _ n0 F_b9_size) E_b9 (w70 hw) (w71 hw) (w73 hw) (w72 hw) (w2 hw) (w74 hw) (by decide) (by decide) (by decide) (by decide) (by decide) rfl (lenOf pd_9 rfl) rfl (Nat.le_of_eq rfl) at_239 ?_
    intro v T h S hQ
    obtain ⟨rfl, hh⟩ := hQ
    replace hh := hh.symm
    subst hh
    show Goes _ _ _ _ T (mkF me_ 242 #[.val (.long q0), .second, .val (.int p1), .val (.int p2), .val (.int p3), .val (.int p4), .val (.long v1), .second, .val (.long v2), .second, .val (.long v3), .second, .val (.long v4), .second, .val (.long v5), .second, .val (.long v6), .second, .val (.long v7), .second, .val (.long v8), .second, .val (.ref b9), .val (.long v31), .second, .val (.long v32), .second, .val (.long v33), .second, .val (.long v34), .second, .val (.int (((bi ((0 : Int64) < v34)) + (bi ((0 : Int64) < v33))) + (bi ((0 : Int64) < v32)))), .val (.long v35), .second, .unset, .unset, .unset, .unset, .unset, .unset] [(.int u27)])
    refine Goes.go (fun _ => XS.iload S.here B.x rfl (B.d at_242) rfl) ?_
    show Goes _ _ _ _ T (mkF me_ 244 #[.val (.long q0), .second, .val (.int p1), .val (.int p2), .val (.int p3), .val (.int p4), .val (.long v1), .second, .val (.long v2), .second, .val (.long v3), .second, .val (.long v4), .second, .val (.long v5), .second, .val (.long v6), .second, .val (.long v7), .second, .val (.long v8), .second, .val (.ref b9), .val (.long v31), .second, .val (.long v32), .second, .val (.long v33), .second, .val (.long v34), .second, .val (.int (((bi ((0 : Int64) < v34)) + (bi ((0 : Int64) < v33))) + (bi ((0 : Int64) < v32)))), .val (.long v35), .second, .unset, .unset, .unset, .unset, .unset, .unset] [(.int (((bi ((0 : Int64) < v34)) + (bi ((0 : Int64) < v33))) + (bi ((0 : Int64) < v32)))), (.int u27)])
    refine Goes.go (fun _ => XS.icmpYes S.here B.x rfl (pc0 := 244) (pc' := 249) rfl (B.d at_244) rfl (teq (show u27 = (((bi ((0 : Int64) < v34)) + (bi ((0 : Int64) < v33))) + (bi ((0 : Int64) < v32))) from own_n3 hs2_126 eT x0 x1 x2)).1 (by decide) (by decide)) ?_
    show Goes _ _ _ _ T (mkF me_ 249 #[.val (.long q0), .second, .val (.int p1), .val (.int p2), .val (.int p3), .val (.int p4), .val (.long v1), .second, .val (.long v2), .second, .val (.long v3), .second, .val (.long v4), .second, .val (.long v5), .second, .val (.long v6), .second, .val (.long v7), .second, .val (.long v8), .second, .val (.ref b9), .val (.long v31), .second, .val (.long v32), .second, .val (.long v33), .second, .val (.long v34), .second, .val (.int (((bi ((0 : Int64) < v34)) + (bi ((0 : Int64) < v33))) + (bi ((0 : Int64) < v32)))), .val (.long v35), .second, .unset, .unset, .unset, .unset, .unset, .unset] [])
    refine Goes.go (fun _ => XS.iload S.here B.x rfl (B.d at_249) rfl) ?_
    show Goes _ _ _ _ T (mkF me_ 251 #[.val (.long q0), .second, .val (.int p1), .val (.int p2), .val (.int p3), .val (.int p4), .val (.long v1), .second, .val (.long v2), .second, .val (.long v3), .second, .val (.long v4), .second, .val (.long v5), .second, .val (.long v6), .second, .val (.long v7), .second, .val (.long v8), .second, .val (.ref b9), .val (.long v31), .second, .val (.long v32), .second, .val (.long v33), .second, .val (.long v34), .second, .val (.int (((bi ((0 : Int64) < v34)) + (bi ((0 : Int64) < v33))) + (bi ((0 : Int64) < v32)))), .val (.long v35), .second, .unset, .unset, .unset, .unset, .unset, .unset] [(.int (((bi ((0 : Int64) < v34)) + (bi ((0 : Int64) < v33))) + (bi ((0 : Int64) < v32))))])
    refine Goes.go (fun _ => XS.ifYes S.here B.x rfl (pc0 := 251) (pc' := 256) rfl (B.d at_251) rfl ((if0 _ _).trans (feq (show ¬ ((((bi ((0 : Int64) < v34)) + (bi ((0 : Int64) < v33))) + (bi ((0 : Int64) < v32))) = (0 : Int32)) from own_z3 x0 x1 x2)).2) (by decide) (by decide)) ?_
    show Goes _ _ _ _ T (mkF me_ 256 #[.val (.long q0), .second, .val (.int p1), .val (.int p2), .val (.int p3), .val (.int p4), .val (.long v1), .second, .val (.long v2), .second, .val (.long v3), .second, .val (.long v4), .second, .val (.long v5), .second, .val (.long v6), .second, .val (.long v7), .second, .val (.long v8), .second, .val (.ref b9), .val (.long v31), .second, .val (.long v32), .second, .val (.long v33), .second, .val (.long v34), .second, .val (.int (((bi ((0 : Int64) < v34)) + (bi ((0 : Int64) < v33))) + (bi ((0 : Int64) < v32)))), .val (.long v35), .second, .unset, .unset, .unset, .unset, .unset, .unset] [])
    refine Goes.go (fun _ => XS.lload S.here B.x rfl (B.d at_256) rfl) ?_
    show Goes _ _ _ _ T (mkF me_ 258 #[.val (.long q0), .second, .val (.int p1), .val (.int p2), .val (.int p3), .val (.int p4), .val (.long v1), .second, .val (.long v2), .second, .val (.long v3), .second, .val (.long v4), .second, .val (.long v5), .second, .val (.long v6), .second, .val (.long v7), .second, .val (.long v8), .second, .val (.ref b9), .val (.long v31), .second, .val (.long v32), .second, .val (.long v33), .second, .val (.long v34), .second, .val (.int (((bi ((0 : Int64) < v34)) + (bi ((0 : Int64) < v33))) + (bi ((0 : Int64) < v32)))), .val (.long v35), .second, .unset, .unset, .unset, .unset, .unset, .unset] [(.long v34)])
    refine Goes.go (fun _ => XS.lconst S.here B.x rfl (B.d at_258)) ?_
    show Goes _ _ _ _ T (mkF me_ 259 #[.val (.long q0), .second, .val (.int p1), .val (.int p2), .val (.int p3), .val (.int p4), .val (.long v1), .second, .val (.long v2), .second, .val (.long v3), .second, .val (.long v4), .second, .val (.long v5), .second, .val (.long v6), .second, .val (.long v7), .second, .val (.long v8), .second, .val (.ref b9), .val (.long v31), .second, .val (.long v32), .second, .val (.long v33), .second, .val (.long v34), .second, .val (.int (((bi ((0 : Int64) < v34)) + (bi ((0 : Int64) < v33))) + (bi ((0 : Int64) < v32)))), .val (.long v35), .second, .unset, .unset, .unset, .unset, .unset, .unset] [(.long (0 : Int64)), (.long v34)])
    refine Goes.go (fun _ => XS.lcmp S.here B.x rfl (B.d at_259) rfl) ?_
    show Goes _ _ _ _ T (mkF me_ 260 #[.val (.long q0), .second, .val (.int p1), .val (.int p2), .val (.int p3), .val (.int p4), .val (.long v1), .second, .val (.long v2), .second, .val (.long v3), .second, .val (.long v4), .second, .val (.long v5), .second, .val (.long v6), .second, .val (.long v7), .second, .val (.long v8), .second, .val (.ref b9), .val (.long v31), .second, .val (.long v32), .second, .val (.long v33), .second, .val (.long v34), .second, .val (.int (((bi ((0 : Int64) < v34)) + (bi ((0 : Int64) < v33))) + (bi ((0 : Int64) < v32)))), .val (.long v35), .second, .unset, .unset, .unset, .unset, .unset, .unset] [(.int (lcmpW v34 (0 : Int64)))])
    refine Goes.go (fun _ => XS.ifNo S.here B.x rfl (B.d at_260) rfl ((if0 _ _).trans (tlt ((lw_gt v34 (0 : Int64)).mpr (show (0 : Int64) < v34 from x0))).2.2.2)) ?_
    show Goes _ _ _ _ T (mkF me_ 263 #[.val (.long q0), .second, .val (.int p1), .val (.int p2), .val (.int p3), .val (.int p4), .val (.long v1), .second, .val (.long v2), .second, .val (.long v3), .second, .val (.long v4), .second, .val (.long v5), .second, .val (.long v6), .second, .val (.long v7), .second, .val (.long v8), .second, .val (.ref b9), .val (.long v31), .second, .val (.long v32), .second, .val (.long v33), .second, .val (.long v34), .second, .val (.int (((bi ((0 : Int64) < v34)) + (bi ((0 : Int64) < v33))) + (bi ((0 : Int64) < v32)))), .val (.long v35), .second, .unset, .unset, .unset, .unset, .unset, .unset] [])
    refine Goes.go (fun _ => XS.lload S.here B.x rfl (B.d at_263) rfl) ?_
    show Goes _ _ _ _ T (mkF me_ 265 #[.val (.long q0), .second, .val (.int p1), .val (.int p2), .val (.int p3), .val (.int p4), .val (.long v1), .second, .val (.long v2), .second, .val (.long v3), .second, .val (.long v4), .second, .val (.long v5), .second, .val (.long v6), .second, .val (.long v7), .second, .val (.long v8), .second, .val (.ref b9), .val (.long v31), .second, .val (.long v32), .second, .val (.long v33), .second, .val (.long v34), .second, .val (.int (((bi ((0 : Int64) < v34)) + (bi ((0 : Int64) < v33))) + (bi ((0 : Int64) < v32)))), .val (.long v35), .second, .unset, .unset, .unset, .unset, .unset, .unset] [(.long v1)])
    refine Goes.go (fun _ => XS.goto S.here B.x rfl (pc0 := 265) (pc' := 282) rfl (B.d at_265) (by decide) (by decide)) ?_
    show Goes _ _ _ _ T (mkF me_ 282 #[.val (.long q0), .second, .val (.int p1), .val (.int p2), .val (.int p3), .val (.int p4), .val (.long v1), .second, .val (.long v2), .second, .val (.long v3), .second, .val (.long v4), .second, .val (.long v5), .second, .val (.long v6), .second, .val (.long v7), .second, .val (.long v8), .second, .val (.ref b9), .val (.long v31), .second, .val (.long v32), .second, .val (.long v33), .second, .val (.long v34), .second, .val (.int (((bi ((0 : Int64) < v34)) + (bi ((0 : Int64) < v33))) + (bi ((0 : Int64) < v32)))), .val (.long v35), .second, .unset, .unset, .unset, .unset, .unset, .unset] [(.long v1)])
    refine Goes.go (fun _ => XS.lstore (g := (mkF me_ 282 #[.val (.long q0), .second, .val (.int p1), .val (.int p2), .val (.int p3), .val (.int p4), .val (.long v1), .second, .val (.long v2), .second, .val (.long v3), .second, .val (.long v4), .second, .val (.long v5), .second, .val (.long v6), .second, .val (.long v7), .second, .val (.long v8), .second, .val (.ref b9), .val (.long v31), .second, .val (.long v32), .second, .val (.long v33), .second, .val (.long v34), .second, .val (.int (((bi ((0 : Int64) < v34)) + (bi ((0 : Int64) < v33))) + (bi ((0 : Int64) < v32)))), .val (.long v35), .second, .unset, .unset, .unset, .unset, .unset, .unset] [(.long v1)])) S.here B.x rfl (B.d at_282) rfl (l' := #[.val (.long q0), .second, .val (.int p1), .val (.int p2), .val (.int p3), .val (.int p4), .val (.long v1), .second, .val (.long v2), .second, .val (.long v3), .second, .val (.long v4), .second, .val (.long v5), .second, .val (.long v6), .second, .val (.long v7), .second, .val (.long v8), .second, .val (.ref b9), .val (.long v31), .second, .val (.long v32), .second, .val (.long v33), .second, .val (.long v34), .second, .val (.int (((bi ((0 : Int64) < v34)) + (bi ((0 : Int64) < v33))) + (bi ((0 : Int64) < v32)))), .val (.long v35), .second, .val (.long v1), .second, .unset, .unset, .unset, .unset]) rfl) ?_
    show Goes _ _ _ _ T (mkF me_ 284 #[.val (.long q0), .second, .val (.int p1), .val (.int p2), .val (.int p3), .val (.int p4), .val (.long v1), .second, .val (.long v2), .second, .val (.long v3), .second, .val (.long v4), .second, .val (.long v5), .second, .val (.long v6), .second, .val (.long v7), .second, .val (.long v8), .second, .val (.ref b9), .val (.long v31), .second, .val (.long v32), .second, .val (.long v33), .second, .val (.long v34), .second, .val (.int (((bi ((0 : Int64) < v34)) + (bi ((0 : Int64) < v33))) + (bi ((0 : Int64) < v32)))), .val (.long v35), .second, .val (.long v1), .second, .unset, .unset, .unset, .unset] [])
    refine Goes.go (fun _ => XS.lload S.here B.x rfl (B.d at_284) rfl) ?_
    show Goes _ _ _ _ T (mkF me_ 286 #[.val (.long q0), .second, .val (.int p1), .val (.int p2), .val (.int p3), .val (.int p4), .val (.long v1), .second, .val (.long v2), .second, .val (.long v3), .second, .val (.long v4), .second, .val (.long v5), .second, .val (.long v6), .second, .val (.long v7), .second, .val (.long v8), .second, .val (.ref b9), .val (.long v31), .second, .val (.long v32), .second, .val (.long v33), .second, .val (.long v34), .second, .val (.int (((bi ((0 : Int64) < v34)) + (bi ((0 : Int64) < v33))) + (bi ((0 : Int64) < v32)))), .val (.long v35), .second, .val (.long v1), .second, .unset, .unset, .unset, .unset] [(.long v34)])
    refine Goes.go (fun _ => XS.lconst S.here B.x rfl (B.d at_286)) ?_
    show Goes _ _ _ _ T (mkF me_ 287 #[.val (.long q0), .second, .val (.int p1), .val (.int p2), .val (.int p3), .val (.int p4), .val (.long v1), .second, .val (.long v2), .second, .val (.long v3), .second, .val (.long v4), .second, .val (.long v5), .second, .val (.long v6), .second, .val (.long v7), .second, .val (.long v8), .second, .val (.ref b9), .val (.long v31), .second, .val (.long v32), .second, .val (.long v33), .second, .val (.long v34), .second, .val (.int (((bi ((0 : Int64) < v34)) + (bi ((0 : Int64) < v33))) + (bi ((0 : Int64) < v32)))), .val (.long v35), .second, .val (.long v1), .second, .unset, .unset, .unset, .unset] [(.long (0 : Int64)), (.long v34)])
    refine Goes.go (fun _ => XS.lcmp S.here B.x rfl (B.d at_287) rfl) ?_
    show Goes _ _ _ _ T (mkF me_ 288 #[.val (.long q0), .second, .val (.int p1), .val (.int p2), .val (.int p3), .val (.int p4), .val (.long v1), .second, .val (.long v2), .second, .val (.long v3), .second, .val (.long v4), .second, .val (.long v5), .second, .val (.long v6), .second, .val (.long v7), .second, .val (.long v8), .second, .val (.ref b9), .val (.long v31), .second, .val (.long v32), .second, .val (.long v33), .second, .val (.long v34), .second, .val (.int (((bi ((0 : Int64) < v34)) + (bi ((0 : Int64) < v33))) + (bi ((0 : Int64) < v32)))), .val (.long v35), .second, .val (.long v1), .second, .unset, .unset, .unset, .unset] [(.int (lcmpW v34 (0 : Int64)))])
    refine Goes.go (fun _ => XS.ifNo S.here B.x rfl (B.d at_288) rfl ((if0 _ _).trans (tlt ((lw_gt v34 (0 : Int64)).mpr (show (0 : Int64) < v34 from x0))).2.2.2)) ?_
    show Goes _ _ _ _ T (mkF me_ 291 #[.val (.long q0), .second, .val (.int p1), .val (.int p2), .val (.int p3), .val (.int p4), .val (.long v1), .second, .val (.long v2), .second, .val (.long v3), .second, .val (.long v4), .second, .val (.long v5), .second, .val (.long v6), .second, .val (.long v7), .second, .val (.long v8), .second, .val (.ref b9), .val (.long v31), .second, .val (.long v32), .second, .val (.long v33), .second, .val (.long v34), .second, .val (.int (((bi ((0 : Int64) < v34)) + (bi ((0 : Int64) < v33))) + (bi ((0 : Int64) < v32)))), .val (.long v35), .second, .val (.long v1), .second, .unset, .unset, .unset, .unset] [])
    refine Goes.go (fun _ => XS.lload S.here B.x rfl (B.d at_291) rfl) ?_
    show Goes _ _ _ _ T (mkF me_ 293 #[.val (.long q0), .second, .val (.int p1), .val (.int p2), .val (.int p3), .val (.int p4), .val (.long v1), .second, .val (.long v2), .second, .val (.long v3), .second, .val (.long v4), .second, .val (.long v5), .second, .val (.long v6), .second, .val (.long v7), .second, .val (.long v8), .second, .val (.ref b9), .val (.long v31), .second, .val (.long v32), .second, .val (.long v33), .second, .val (.long v34), .second, .val (.int (((bi ((0 : Int64) < v34)) + (bi ((0 : Int64) < v33))) + (bi ((0 : Int64) < v32)))), .val (.long v35), .second, .val (.long v1), .second, .unset, .unset, .unset, .unset] [(.long v34)])
    refine Goes.go (fun _ => XS.goto S.here B.x rfl (pc0 := 293) (pc' := 310) rfl (B.d at_293) (by decide) (by decide)) ?_
    show Goes _ _ _ _ T (mkF me_ 310 #[.val (.long q0), .second, .val (.int p1), .val (.int p2), .val (.int p3), .val (.int p4), .val (.long v1), .second, .val (.long v2), .second, .val (.long v3), .second, .val (.long v4), .second, .val (.long v5), .second, .val (.long v6), .second, .val (.long v7), .second, .val (.long v8), .second, .val (.ref b9), .val (.long v31), .second, .val (.long v32), .second, .val (.long v33), .second, .val (.long v34), .second, .val (.int (((bi ((0 : Int64) < v34)) + (bi ((0 : Int64) < v33))) + (bi ((0 : Int64) < v32)))), .val (.long v35), .second, .val (.long v1), .second, .unset, .unset, .unset, .unset] [(.long v34)])
    refine Goes.go (fun _ => XS.lstore (g := (mkF me_ 310 #[.val (.long q0), .second, .val (.int p1), .val (.int p2), .val (.int p3), .val (.int p4), .val (.long v1), .second, .val (.long v2), .second, .val (.long v3), .second, .val (.long v4), .second, .val (.long v5), .second, .val (.long v6), .second, .val (.long v7), .second, .val (.long v8), .second, .val (.ref b9), .val (.long v31), .second, .val (.long v32), .second, .val (.long v33), .second, .val (.long v34), .second, .val (.int (((bi ((0 : Int64) < v34)) + (bi ((0 : Int64) < v33))) + (bi ((0 : Int64) < v32)))), .val (.long v35), .second, .val (.long v1), .second, .unset, .unset, .unset, .unset] [(.long v34)])) S.here B.x rfl (B.d at_310) rfl (l' := #[.val (.long q0), .second, .val (.int p1), .val (.int p2), .val (.int p3), .val (.int p4), .val (.long v1), .second, .val (.long v2), .second, .val (.long v3), .second, .val (.long v4), .second, .val (.long v5), .second, .val (.long v6), .second, .val (.long v7), .second, .val (.long v8), .second, .val (.ref b9), .val (.long v31), .second, .val (.long v32), .second, .val (.long v33), .second, .val (.long v34), .second, .val (.int (((bi ((0 : Int64) < v34)) + (bi ((0 : Int64) < v33))) + (bi ((0 : Int64) < v32)))), .val (.long v35), .second, .val (.long v1), .second, .val (.long v34), .second, .unset, .unset]) rfl) ?_
    show Goes _ _ _ _ T (mkF me_ 312 #[.val (.long q0), .second, .val (.int p1), .val (.int p2), .val (.int p3), .val (.int p4), .val (.long v1), .second, .val (.long v2), .second, .val (.long v3), .second, .val (.long v4), .second, .val (.long v5), .second, .val (.long v6), .second, .val (.long v7), .second, .val (.long v8), .second, .val (.ref b9), .val (.long v31), .second, .val (.long v32), .second, .val (.long v33), .second, .val (.long v34), .second, .val (.int (((bi ((0 : Int64) < v34)) + (bi ((0 : Int64) < v33))) + (bi ((0 : Int64) < v32)))), .val (.long v35), .second, .val (.long v1), .second, .val (.long v34), .second, .unset, .unset] [])
    refine Goes.go (fun _ => XS.aload S.here B.x rfl (B.d at_312) rfl rfl) ?_
    show Goes _ _ _ _ T (mkF me_ 314 #[.val (.long q0), .second, .val (.int p1), .val (.int p2), .val (.int p3), .val (.int p4), .val (.long v1), .second, .val (.long v2), .second, .val (.long v3), .second, .val (.long v4), .second, .val (.long v5), .second, .val (.long v6), .second, .val (.long v7), .second, .val (.long v8), .second, .val (.ref b9), .val (.long v31), .second, .val (.long v32), .second, .val (.long v33), .second, .val (.long v34), .second, .val (.int (((bi ((0 : Int64) < v34)) + (bi ((0 : Int64) < v33))) + (bi ((0 : Int64) < v32)))), .val (.long v35), .second, .val (.long v1), .second, .val (.long v34), .second, .unset, .unset] [(.ref b9)])
    refine Goes.callV (argsL := []) (rest := []) (W := 0) S B (rm_oldest l Z aw hw b9 b10 u18 u26 _ n0 E_b9 F_b9_first F_b9_instants A_b10) E_b9 (w75 hw) (w76 hw) (w78 hw) (w77 hw) (w2 hw) (w79 hw) (by decide) (by decide) (by decide) (by decide) (by decide) rfl (lenOf pd_4 rfl) rfl (Nat.le_of_eq rfl) at_314 ?_
    intro v T h S hQ
    obtain ⟨rfl, hh⟩ := hQ
    replace hh := hh.symm
    subst hh
    show Goes _ _ _ _ T (mkF me_ 317 #[.val (.long q0), .second, .val (.int p1), .val (.int p2), .val (.int p3), .val (.int p4), .val (.long v1), .second, .val (.long v2), .second, .val (.long v3), .second, .val (.long v4), .second, .val (.long v5), .second, .val (.long v6), .second, .val (.long v7), .second, .val (.long v8), .second, .val (.ref b9), .val (.long v31), .second, .val (.long v32), .second, .val (.long v33), .second, .val (.long v34), .second, .val (.int (((bi ((0 : Int64) < v34)) + (bi ((0 : Int64) < v33))) + (bi ((0 : Int64) < v32)))), .val (.long v35), .second, .val (.long v1), .second, .val (.long v34), .second, .unset, .unset] [(.long (u18 ((u26 + (0 : Int32)) &&& (3 : Int32)).toNatClampNeg))])
    rw [show (u18 ((u26 + (0 : Int32)) &&& (3 : Int32)).toNatClampNeg) = v1 from own_get (p := 0) (i := 0) hQ2_126 own_e0 (by rw [eT]; rfl)]
    show Goes _ _ _ _ T (mkF me_ 317 #[.val (.long q0), .second, .val (.int p1), .val (.int p2), .val (.int p3), .val (.int p4), .val (.long v1), .second, .val (.long v2), .second, .val (.long v3), .second, .val (.long v4), .second, .val (.long v5), .second, .val (.long v6), .second, .val (.long v7), .second, .val (.long v8), .second, .val (.ref b9), .val (.long v31), .second, .val (.long v32), .second, .val (.long v33), .second, .val (.long v34), .second, .val (.int (((bi ((0 : Int64) < v34)) + (bi ((0 : Int64) < v33))) + (bi ((0 : Int64) < v32)))), .val (.long v35), .second, .val (.long v1), .second, .val (.long v34), .second, .unset, .unset] [(.long v1)])
    refine Goes.go (fun _ => XS.lstore (g := (mkF me_ 317 #[.val (.long q0), .second, .val (.int p1), .val (.int p2), .val (.int p3), .val (.int p4), .val (.long v1), .second, .val (.long v2), .second, .val (.long v3), .second, .val (.long v4), .second, .val (.long v5), .second, .val (.long v6), .second, .val (.long v7), .second, .val (.long v8), .second, .val (.ref b9), .val (.long v31), .second, .val (.long v32), .second, .val (.long v33), .second, .val (.long v34), .second, .val (.int (((bi ((0 : Int64) < v34)) + (bi ((0 : Int64) < v33))) + (bi ((0 : Int64) < v32)))), .val (.long v35), .second, .val (.long v1), .second, .val (.long v34), .second, .unset, .unset] [(.long v1)])) S.here B.x rfl (B.d at_317) rfl (l' := #[.val (.long q0), .second, .val (.int p1), .val (.int p2), .val (.int p3), .val (.int p4), .val (.long v1), .second, .val (.long v2), .second, .val (.long v3), .second, .val (.long v4), .second, .val (.long v5), .second, .val (.long v6), .second, .val (.long v7), .second, .val (.long v8), .second, .val (.ref b9), .val (.long v31), .second, .val (.long v32), .second, .val (.long v33), .second, .val (.long v34), .second, .val (.int (((bi ((0 : Int64) < v34)) + (bi ((0 : Int64) < v33))) + (bi ((0 : Int64) < v32)))), .val (.long v35), .second, .val (.long v1), .second, .val (.long v34), .second, .val (.long v1), .second]) rfl) ?_
    show Goes _ _ _ _ T (mkF me_ 319 #[.val (.long q0), .second, .val (.int p1), .val (.int p2), .val (.int p3), .val (.int p4), .val (.long v1), .second, .val (.long v2), .second, .val (.long v3), .second, .val (.long v4), .second, .val (.long v5), .second, .val (.long v6), .second, .val (.long v7), .second, .val (.long v8), .second, .val (.ref b9), .val (.long v31), .second, .val (.long v32), .second, .val (.long v33), .second, .val (.long v34), .second, .val (.int (((bi ((0 : Int64) < v34)) + (bi ((0 : Int64) < v33))) + (bi ((0 : Int64) < v32)))), .val (.long v35), .second, .val (.long v1), .second, .val (.long v34), .second, .val (.long v1), .second] [])
    refine Goes.go (fun _ => XS.lload S.here B.x rfl (B.d at_319) rfl) ?_
    show Goes _ _ _ _ T (mkF me_ 321 #[.val (.long q0), .second, .val (.int p1), .val (.int p2), .val (.int p3), .val (.int p4), .val (.long v1), .second, .val (.long v2), .second, .val (.long v3), .second, .val (.long v4), .second, .val (.long v5), .second, .val (.long v6), .second, .val (.long v7), .second, .val (.long v8), .second, .val (.ref b9), .val (.long v31), .second, .val (.long v32), .second, .val (.long v33), .second, .val (.long v34), .second, .val (.int (((bi ((0 : Int64) < v34)) + (bi ((0 : Int64) < v33))) + (bi ((0 : Int64) < v32)))), .val (.long v35), .second, .val (.long v1), .second, .val (.long v34), .second, .val (.long v1), .second] [(.long v1)])
    refine Goes.go (fun _ => XS.lload S.here B.x rfl (B.d at_321) rfl) ?_
    show Goes _ _ _ _ T (mkF me_ 323 #[.val (.long q0), .second, .val (.int p1), .val (.int p2), .val (.int p3), .val (.int p4), .val (.long v1), .second, .val (.long v2), .second, .val (.long v3), .second, .val (.long v4), .second, .val (.long v5), .second, .val (.long v6), .second, .val (.long v7), .second, .val (.long v8), .second, .val (.ref b9), .val (.long v31), .second, .val (.long v32), .second, .val (.long v33), .second, .val (.long v34), .second, .val (.int (((bi ((0 : Int64) < v34)) + (bi ((0 : Int64) < v33))) + (bi ((0 : Int64) < v32)))), .val (.long v35), .second, .val (.long v1), .second, .val (.long v34), .second, .val (.long v1), .second] [(.long v1), (.long v1)])
    refine Goes.go (fun _ => XS.lcmp S.here B.x rfl (B.d at_323) rfl) ?_
    show Goes _ _ _ _ T (mkF me_ 324 #[.val (.long q0), .second, .val (.int p1), .val (.int p2), .val (.int p3), .val (.int p4), .val (.long v1), .second, .val (.long v2), .second, .val (.long v3), .second, .val (.long v4), .second, .val (.long v5), .second, .val (.long v6), .second, .val (.long v7), .second, .val (.long v8), .second, .val (.ref b9), .val (.long v31), .second, .val (.long v32), .second, .val (.long v33), .second, .val (.long v34), .second, .val (.int (((bi ((0 : Int64) < v34)) + (bi ((0 : Int64) < v33))) + (bi ((0 : Int64) < v32)))), .val (.long v35), .second, .val (.long v1), .second, .val (.long v34), .second, .val (.long v1), .second] [(.int (lcmpW v1 v1))])
    refine Goes.go (fun _ => XS.ifYes S.here B.x rfl (pc0 := 324) (pc' := 329) rfl (B.d at_324) rfl ((if0 _ _).trans (teq ((lw_eq v1 v1).mpr (rfl : v1 = v1))).1) (by decide) (by decide)) ?_
    show Goes _ _ _ _ T (mkF me_ 329 #[.val (.long q0), .second, .val (.int p1), .val (.int p2), .val (.int p3), .val (.int p4), .val (.long v1), .second, .val (.long v2), .second, .val (.long v3), .second, .val (.long v4), .second, .val (.long v5), .second, .val (.long v6), .second, .val (.long v7), .second, .val (.long v8), .second, .val (.ref b9), .val (.long v31), .second, .val (.long v32), .second, .val (.long v33), .second, .val (.long v34), .second, .val (.int (((bi ((0 : Int64) < v34)) + (bi ((0 : Int64) < v33))) + (bi ((0 : Int64) < v32)))), .val (.long v35), .second, .val (.long v1), .second, .val (.long v34), .second, .val (.long v1), .second] [])
    refine Goes.go (fun _ => XS.lload S.here B.x rfl (B.d at_329) rfl) ?_
    show Goes _ _ _ _ T (mkF me_ 331 #[.val (.long q0), .second, .val (.int p1), .val (.int p2), .val (.int p3), .val (.int p4), .val (.long v1), .second, .val (.long v2), .second, .val (.long v3), .second, .val (.long v4), .second, .val (.long v5), .second, .val (.long v6), .second, .val (.long v7), .second, .val (.long v8), .second, .val (.ref b9), .val (.long v31), .second, .val (.long v32), .second, .val (.long v33), .second, .val (.long v34), .second, .val (.int (((bi ((0 : Int64) < v34)) + (bi ((0 : Int64) < v33))) + (bi ((0 : Int64) < v32)))), .val (.long v35), .second, .val (.long v1), .second, .val (.long v34), .second, .val (.long v1), .second] [(.long v35)])
    refine Goes.go (fun _ => XS.aload S.here B.x rfl (B.d at_331) rfl rfl) ?_
    show Goes _ _ _ _ T (mkF me_ 333 #[.val (.long q0), .second, .val (.int p1), .val (.int p2), .val (.int p3), .val (.int p4), .val (.long v1), .second, .val (.long v2), .second, .val (.long v3), .second, .val (.long v4), .second, .val (.long v5), .second, .val (.long v6), .second, .val (.long v7), .second, .val (.long v8), .second, .val (.ref b9), .val (.long v31), .second, .val (.long v32), .second, .val (.long v33), .second, .val (.long v34), .second, .val (.int (((bi ((0 : Int64) < v34)) + (bi ((0 : Int64) < v33))) + (bi ((0 : Int64) < v32)))), .val (.long v35), .second, .val (.long v1), .second, .val (.long v34), .second, .val (.long v1), .second] [(.ref b9), (.long v35)])
    refine Goes.go (fun _ => XS.lload S.here B.x rfl (B.d at_333) rfl) ?_
    show Goes _ _ _ _ T (mkF me_ 335 #[.val (.long q0), .second, .val (.int p1), .val (.int p2), .val (.int p3), .val (.int p4), .val (.long v1), .second, .val (.long v2), .second, .val (.long v3), .second, .val (.long v4), .second, .val (.long v5), .second, .val (.long v6), .second, .val (.long v7), .second, .val (.long v8), .second, .val (.ref b9), .val (.long v31), .second, .val (.long v32), .second, .val (.long v33), .second, .val (.long v34), .second, .val (.int (((bi ((0 : Int64) < v34)) + (bi ((0 : Int64) < v33))) + (bi ((0 : Int64) < v32)))), .val (.long v35), .second, .val (.long v1), .second, .val (.long v34), .second, .val (.long v1), .second] [(.long v1), (.ref b9), (.long v35)])
    refine Goes.ldcL S B (w80 hw) at_335 ?_
    show Goes _ _ _ _ T (mkF me_ 338 #[.val (.long q0), .second, .val (.int p1), .val (.int p2), .val (.int p3), .val (.int p4), .val (.long v1), .second, .val (.long v2), .second, .val (.long v3), .second, .val (.long v4), .second, .val (.long v5), .second, .val (.long v6), .second, .val (.long v7), .second, .val (.long v8), .second, .val (.ref b9), .val (.long v31), .second, .val (.long v32), .second, .val (.long v33), .second, .val (.long v34), .second, .val (.int (((bi ((0 : Int64) < v34)) + (bi ((0 : Int64) < v33))) + (bi ((0 : Int64) < v32)))), .val (.long v35), .second, .val (.long v1), .second, .val (.long v34), .second, .val (.long v1), .second] [(.long (9223372036854775807 : Int64)), (.long v1), (.ref b9), (.long v35)])
    refine Goes.callV (argsL := [(.long v1), (.long (9223372036854775807 : Int64))]) (rest := [(.long v35)]) (W := 2) S B (rm_count l Z aw hw b9 v1 (9223372036854775807 : Int64) b10 b11 u18 u19 u26 u27 u28 u29 _ n0 E_b9 F_b9_instants F_b9_lastNumbers F_b9_first F_b9_size F_b9_dropped A_b10 A_b11 hQ2_126 hs2_126 (own_S3 eT hlt1 hlt2 hlt3)) E_b9 (w81 hw) (w82 hw) (w84 hw) (w83 hw) (w2 hw) (w85 hw) (by decide) (by decide) (by decide) (by decide) (by decide) rfl (lenOf pd_8 rfl) rfl (Nat.le_of_eq rfl) at_338 ?_
    intro v T h S hQ
    obtain ⟨rfl, hh⟩ := hQ
    replace hh := hh.symm
    subst hh
    show Goes _ _ _ _ T (mkF me_ 341 #[.val (.long q0), .second, .val (.int p1), .val (.int p2), .val (.int p3), .val (.int p4), .val (.long v1), .second, .val (.long v2), .second, .val (.long v3), .second, .val (.long v4), .second, .val (.long v5), .second, .val (.long v6), .second, .val (.long v7), .second, .val (.long v8), .second, .val (.ref b9), .val (.long v31), .second, .val (.long v32), .second, .val (.long v33), .second, .val (.long v34), .second, .val (.int (((bi ((0 : Int64) < v34)) + (bi ((0 : Int64) < v33))) + (bi ((0 : Int64) < v32)))), .val (.long v35), .second, .val (.long v1), .second, .val (.long v34), .second, .val (.long v1), .second] [(.long (own_cnt (own_fa u27 u29 v1) ((Int32.ofNat (own_pos u29 (9223372036854775807 : Int64))) - (1 : Int32)) u26 u28 u19)), (.long v35)])
    refine Goes.go (fun _ => XS.lsub S.here B.x rfl (B.d at_341) rfl) ?_
    show Goes _ _ _ _ T (mkF me_ 342 #[.val (.long q0), .second, .val (.int p1), .val (.int p2), .val (.int p3), .val (.int p4), .val (.long v1), .second, .val (.long v2), .second, .val (.long v3), .second, .val (.long v4), .second, .val (.long v5), .second, .val (.long v6), .second, .val (.long v7), .second, .val (.long v8), .second, .val (.ref b9), .val (.long v31), .second, .val (.long v32), .second, .val (.long v33), .second, .val (.long v34), .second, .val (.int (((bi ((0 : Int64) < v34)) + (bi ((0 : Int64) < v33))) + (bi ((0 : Int64) < v32)))), .val (.long v35), .second, .val (.long v1), .second, .val (.long v34), .second, .val (.long v1), .second] [(.long (v35 - (own_cnt (own_fa u27 u29 v1) ((Int32.ofNat (own_pos u29 (9223372036854775807 : Int64))) - (1 : Int32)) u26 u28 u19)))])
    refine Goes.go (fun _ => XS.lload S.here B.x rfl (B.d at_342) rfl) ?_
    show Goes _ _ _ _ T (mkF me_ 344 #[.val (.long q0), .second, .val (.int p1), .val (.int p2), .val (.int p3), .val (.int p4), .val (.long v1), .second, .val (.long v2), .second, .val (.long v3), .second, .val (.long v4), .second, .val (.long v5), .second, .val (.long v6), .second, .val (.long v7), .second, .val (.long v8), .second, .val (.ref b9), .val (.long v31), .second, .val (.long v32), .second, .val (.long v33), .second, .val (.long v34), .second, .val (.int (((bi ((0 : Int64) < v34)) + (bi ((0 : Int64) < v33))) + (bi ((0 : Int64) < v32)))), .val (.long v35), .second, .val (.long v1), .second, .val (.long v34), .second, .val (.long v1), .second] [(.long v34), (.long (v35 - (own_cnt (own_fa u27 u29 v1) ((Int32.ofNat (own_pos u29 (9223372036854775807 : Int64))) - (1 : Int32)) u26 u28 u19)))])
    refine Goes.go (fun _ => XS.lcmp S.here B.x rfl (B.d at_344) rfl) ?_
    show Goes _ _ _ _ T (mkF me_ 345 #[.val (.long q0), .second, .val (.int p1), .val (.int p2), .val (.int p3), .val (.int p4), .val (.long v1), .second, .val (.long v2), .second, .val (.long v3), .second, .val (.long v4), .second, .val (.long v5), .second, .val (.long v6), .second, .val (.long v7), .second, .val (.long v8), .second, .val (.ref b9), .val (.long v31), .second, .val (.long v32), .second, .val (.long v33), .second, .val (.long v34), .second, .val (.int (((bi ((0 : Int64) < v34)) + (bi ((0 : Int64) < v33))) + (bi ((0 : Int64) < v32)))), .val (.long v35), .second, .val (.long v1), .second, .val (.long v34), .second, .val (.long v1), .second] [(.int (lcmpW (v35 - (own_cnt (own_fa u27 u29 v1) ((Int32.ofNat (own_pos u29 (9223372036854775807 : Int64))) - (1 : Int32)) u26 u28 u19)) v34))])
    refine Goes.go (fun _ => XS.ifNo S.here B.x rfl (B.d at_345) rfl ((if0 _ _).trans (teq ((lw_eq (v35 - (own_cnt (own_fa u27 u29 v1) ((Int32.ofNat (own_pos u29 (9223372036854775807 : Int64))) - (1 : Int32)) u26 u28 u19)) v34).mpr (show (v35 - (own_cnt (own_fa u27 u29 v1) ((Int32.ofNat (own_pos u29 (9223372036854775807 : Int64))) - (1 : Int32)) u26 u28 u19)) = v34 from own_fA3 eT eN hN2_126 hlt1 hlt2 hbd hv35 xr))).2)) ?_
    show Goes _ _ _ _ T (mkF me_ 348 #[.val (.long q0), .second, .val (.int p1), .val (.int p2), .val (.int p3), .val (.int p4), .val (.long v1), .second, .val (.long v2), .second, .val (.long v3), .second, .val (.long v4), .second, .val (.long v5), .second, .val (.long v6), .second, .val (.long v7), .second, .val (.long v8), .second, .val (.ref b9), .val (.long v31), .second, .val (.long v32), .second, .val (.long v33), .second, .val (.long v34), .second, .val (.int (((bi ((0 : Int64) < v34)) + (bi ((0 : Int64) < v33))) + (bi ((0 : Int64) < v32)))), .val (.long v35), .second, .val (.long v1), .second, .val (.long v34), .second, .val (.long v1), .second] [])
    refine Goes.go (fun _ => XS.iconst S.here B.x rfl (B.d at_348)) ?_
    show Goes _ _ _ _ T (mkF me_ 349 #[.val (.long q0), .second, .val (.int p1), .val (.int p2), .val (.int p3), .val (.int p4), .val (.long v1), .second, .val (.long v2), .second, .val (.long v3), .second, .val (.long v4), .second, .val (.long v5), .second, .val (.long v6), .second, .val (.long v7), .second, .val (.long v8), .second, .val (.ref b9), .val (.long v31), .second, .val (.long v32), .second, .val (.long v33), .second, .val (.long v34), .second, .val (.int (((bi ((0 : Int64) < v34)) + (bi ((0 : Int64) < v33))) + (bi ((0 : Int64) < v32)))), .val (.long v35), .second, .val (.long v1), .second, .val (.long v34), .second, .val (.long v1), .second] [(.int (1 : Int32))])
    refine Goes.go (fun _ => XS.goto S.here B.x rfl (pc0 := 349) (pc' := 353) rfl (B.d at_349) (by decide) (by decide)) ?_
    show Goes _ _ _ _ T (mkF me_ 353 #[.val (.long q0), .second, .val (.int p1), .val (.int p2), .val (.int p3), .val (.int p4), .val (.long v1), .second, .val (.long v2), .second, .val (.long v3), .second, .val (.long v4), .second, .val (.long v5), .second, .val (.long v6), .second, .val (.long v7), .second, .val (.long v8), .second, .val (.ref b9), .val (.long v31), .second, .val (.long v32), .second, .val (.long v33), .second, .val (.long v34), .second, .val (.int (((bi ((0 : Int64) < v34)) + (bi ((0 : Int64) < v33))) + (bi ((0 : Int64) < v32)))), .val (.long v35), .second, .val (.long v1), .second, .val (.long v34), .second, .val (.long v1), .second] [(.int (1 : Int32))])
    refine Goes.retN S B (by simp) at_353 (by decide) (by decide) ?_
    exact rfl
  · skip
    show Goes _ _ _ _ T (mkF me_ 174 #[.val (.long q0), .second, .val (.int p1), .val (.int p2), .val (.int p3), .val (.int p4), .val (.long v1), .second, .val (.long v2), .second, .val (.long v3), .second, .val (.long v4), .second, .val (.long v5), .second, .val (.long v6), .second, .val (.long v7), .second, .val (.long v8), .second, .val (.ref b9), .val (.long v31), .second, .val (.long v32), .second, .val (.long v33), .second, .val (.long v34), .second, .unset, .unset, .unset, .unset, .unset, .unset, .unset, .unset, .unset] [])
    refine Goes.go (fun _ => XS.lload S.here B.x rfl (B.d at_174) rfl) ?_
    show Goes _ _ _ _ T (mkF me_ 176 #[.val (.long q0), .second, .val (.int p1), .val (.int p2), .val (.int p3), .val (.int p4), .val (.long v1), .second, .val (.long v2), .second, .val (.long v3), .second, .val (.long v4), .second, .val (.long v5), .second, .val (.long v6), .second, .val (.long v7), .second, .val (.long v8), .second, .val (.ref b9), .val (.long v31), .second, .val (.long v32), .second, .val (.long v33), .second, .val (.long v34), .second, .unset, .unset, .unset, .unset, .unset, .unset, .unset, .unset, .unset] [(.long v34)])
    refine Goes.go (fun _ => XS.lconst S.here B.x rfl (B.d at_176)) ?_
    show Goes _ _ _ _ T (mkF me_ 177 #[.val (.long q0), .second, .val (.int p1), .val (.int p2), .val (.int p3), .val (.int p4), .val (.long v1), .second, .val (.long v2), .second, .val (.long v3), .second, .val (.long v4), .second, .val (.long v5), .second, .val (.long v6), .second, .val (.long v7), .second, .val (.long v8), .second, .val (.ref b9), .val (.long v31), .second, .val (.long v32), .second, .val (.long v33), .second, .val (.long v34), .second, .unset, .unset, .unset, .unset, .unset, .unset, .unset, .unset, .unset] [(.long (0 : Int64)), (.long v34)])
    refine Goes.go (fun _ => XS.lcmp S.here B.x rfl (B.d at_177) rfl) ?_
    show Goes _ _ _ _ T (mkF me_ 178 #[.val (.long q0), .second, .val (.int p1), .val (.int p2), .val (.int p3), .val (.int p4), .val (.long v1), .second, .val (.long v2), .second, .val (.long v3), .second, .val (.long v4), .second, .val (.long v5), .second, .val (.long v6), .second, .val (.long v7), .second, .val (.long v8), .second, .val (.ref b9), .val (.long v31), .second, .val (.long v32), .second, .val (.long v33), .second, .val (.long v34), .second, .unset, .unset, .unset, .unset, .unset, .unset, .unset, .unset, .unset] [(.int (lcmpW v34 (0 : Int64)))])
    refine Goes.dia (P := (0 : Int64) < v34) (mk := fun z => (mkF me_ 186 #[.val (.long q0), .second, .val (.int p1), .val (.int p2), .val (.int p3), .val (.int p4), .val (.long v1), .second, .val (.long v2), .second, .val (.long v3), .second, .val (.long v4), .second, .val (.long v5), .second, .val (.long v6), .second, .val (.long v7), .second, .val (.long v8), .second, .val (.ref b9), .val (.long v31), .second, .val (.long v32), .second, .val (.long v33), .second, .val (.long v34), .second, .unset, .unset, .unset, .unset, .unset, .unset, .unset, .unset, .unset] [(.int z)])) (fun hc178 kk => ?_) (fun hc178 kk => ?_) ?_
    · skip
      refine Goes.go (fun _ => XS.ifNo S.here B.x rfl (B.d at_178) rfl ((if0 _ _).trans (tlt ((lw_gt v34 (0 : Int64)).mpr hc178)).2.2.2)) ?_
      show Goes _ _ _ _ T (mkF me_ 181 #[.val (.long q0), .second, .val (.int p1), .val (.int p2), .val (.int p3), .val (.int p4), .val (.long v1), .second, .val (.long v2), .second, .val (.long v3), .second, .val (.long v4), .second, .val (.long v5), .second, .val (.long v6), .second, .val (.long v7), .second, .val (.long v8), .second, .val (.ref b9), .val (.long v31), .second, .val (.long v32), .second, .val (.long v33), .second, .val (.long v34), .second, .unset, .unset, .unset, .unset, .unset, .unset, .unset, .unset, .unset] [])
      refine Goes.go (fun _ => XS.iconst S.here B.x rfl (B.d at_181)) ?_
      show Goes _ _ _ _ T (mkF me_ 182 #[.val (.long q0), .second, .val (.int p1), .val (.int p2), .val (.int p3), .val (.int p4), .val (.long v1), .second, .val (.long v2), .second, .val (.long v3), .second, .val (.long v4), .second, .val (.long v5), .second, .val (.long v6), .second, .val (.long v7), .second, .val (.long v8), .second, .val (.ref b9), .val (.long v31), .second, .val (.long v32), .second, .val (.long v33), .second, .val (.long v34), .second, .unset, .unset, .unset, .unset, .unset, .unset, .unset, .unset, .unset] [(.int (1 : Int32))])
      refine Goes.go (fun _ => XS.goto S.here B.x rfl (pc0 := 182) (pc' := 186) rfl (B.d at_182) (by decide) (by decide)) ?_
      show Goes _ _ _ _ T (mkF me_ 186 #[.val (.long q0), .second, .val (.int p1), .val (.int p2), .val (.int p3), .val (.int p4), .val (.long v1), .second, .val (.long v2), .second, .val (.long v3), .second, .val (.long v4), .second, .val (.long v5), .second, .val (.long v6), .second, .val (.long v7), .second, .val (.long v8), .second, .val (.ref b9), .val (.long v31), .second, .val (.long v32), .second, .val (.long v33), .second, .val (.long v34), .second, .unset, .unset, .unset, .unset, .unset, .unset, .unset, .unset, .unset] [(.int (1 : Int32))])
      exact kk
    · skip
      refine Goes.go (fun _ => XS.ifYes S.here B.x rfl (pc0 := 178) (pc' := 185) rfl (B.d at_178) rfl ((if0 _ _).trans (flt (mt (lw_gt v34 (0 : Int64)).mp hc178)).2.2.2) (by decide) (by decide)) ?_
      show Goes _ _ _ _ T (mkF me_ 185 #[.val (.long q0), .second, .val (.int p1), .val (.int p2), .val (.int p3), .val (.int p4), .val (.long v1), .second, .val (.long v2), .second, .val (.long v3), .second, .val (.long v4), .second, .val (.long v5), .second, .val (.long v6), .second, .val (.long v7), .second, .val (.long v8), .second, .val (.ref b9), .val (.long v31), .second, .val (.long v32), .second, .val (.long v33), .second, .val (.long v34), .second, .unset, .unset, .unset, .unset, .unset, .unset, .unset, .unset, .unset] [])
      refine Goes.go (fun _ => XS.iconst S.here B.x rfl (B.d at_185)) ?_
      show Goes _ _ _ _ T (mkF me_ 186 #[.val (.long q0), .second, .val (.int p1), .val (.int p2), .val (.int p3), .val (.int p4), .val (.long v1), .second, .val (.long v2), .second, .val (.long v3), .second, .val (.long v4), .second, .val (.long v5), .second, .val (.long v6), .second, .val (.long v7), .second, .val (.long v8), .second, .val (.ref b9), .val (.long v31), .second, .val (.long v32), .second, .val (.long v33), .second, .val (.long v34), .second, .unset, .unset, .unset, .unset, .unset, .unset, .unset, .unset, .unset] [(.int (0 : Int32))])
      exact kk
    show Goes _ _ _ _ T (mkF me_ 186 #[.val (.long q0), .second, .val (.int p1), .val (.int p2), .val (.int p3), .val (.int p4), .val (.long v1), .second, .val (.long v2), .second, .val (.long v3), .second, .val (.long v4), .second, .val (.long v5), .second, .val (.long v6), .second, .val (.long v7), .second, .val (.long v8), .second, .val (.ref b9), .val (.long v31), .second, .val (.long v32), .second, .val (.long v33), .second, .val (.long v34), .second, .unset, .unset, .unset, .unset, .unset, .unset, .unset, .unset, .unset] [(.int (bi ((0 : Int64) < v34)))])
    refine Goes.go (fun _ => XS.lload S.here B.x rfl (B.d at_186) rfl) ?_
    show Goes _ _ _ _ T (mkF me_ 188 #[.val (.long q0), .second, .val (.int p1), .val (.int p2), .val (.int p3), .val (.int p4), .val (.long v1), .second, .val (.long v2), .second, .val (.long v3), .second, .val (.long v4), .second, .val (.long v5), .second, .val (.long v6), .second, .val (.long v7), .second, .val (.long v8), .second, .val (.ref b9), .val (.long v31), .second, .val (.long v32), .second, .val (.long v33), .second, .val (.long v34), .second, .unset, .unset, .unset, .unset, .unset, .unset, .unset, .unset, .unset] [(.long v33), (.int (bi ((0 : Int64) < v34)))])
    refine Goes.go (fun _ => XS.lconst S.here B.x rfl (B.d at_188)) ?_
    show Goes _ _ _ _ T (mkF me_ 189 #[.val (.long q0), .second, .val (.int p1), .val (.int p2), .val (.int p3), .val (.int p4), .val (.long v1), .second, .val (.long v2), .second, .val (.long v3), .second, .val (.long v4), .second, .val (.long v5), .second, .val (.long v6), .second, .val (.long v7), .second, .val (.long v8), .second, .val (.ref b9), .val (.long v31), .second, .val (.long v32), .second, .val (.long v33), .second, .val (.long v34), .second, .unset, .unset, .unset, .unset, .unset, .unset, .unset, .unset, .unset] [(.long (0 : Int64)), (.long v33), (.int (bi ((0 : Int64) < v34)))])
    refine Goes.go (fun _ => XS.lcmp S.here B.x rfl (B.d at_189) rfl) ?_
    show Goes _ _ _ _ T (mkF me_ 190 #[.val (.long q0), .second, .val (.int p1), .val (.int p2), .val (.int p3), .val (.int p4), .val (.long v1), .second, .val (.long v2), .second, .val (.long v3), .second, .val (.long v4), .second, .val (.long v5), .second, .val (.long v6), .second, .val (.long v7), .second, .val (.long v8), .second, .val (.ref b9), .val (.long v31), .second, .val (.long v32), .second, .val (.long v33), .second, .val (.long v34), .second, .unset, .unset, .unset, .unset, .unset, .unset, .unset, .unset, .unset] [(.int (lcmpW v33 (0 : Int64))), (.int (bi ((0 : Int64) < v34)))])
    refine Goes.dia (P := (0 : Int64) < v33) (mk := fun z => (mkF me_ 198 #[.val (.long q0), .second, .val (.int p1), .val (.int p2), .val (.int p3), .val (.int p4), .val (.long v1), .second, .val (.long v2), .second, .val (.long v3), .second, .val (.long v4), .second, .val (.long v5), .second, .val (.long v6), .second, .val (.long v7), .second, .val (.long v8), .second, .val (.ref b9), .val (.long v31), .second, .val (.long v32), .second, .val (.long v33), .second, .val (.long v34), .second, .unset, .unset, .unset, .unset, .unset, .unset, .unset, .unset, .unset] [(.int z), (.int (bi ((0 : Int64) < v34)))])) (fun hc190 kk => ?_) (fun hc190 kk => ?_) ?_
    · skip
      refine Goes.go (fun _ => XS.ifNo S.here B.x rfl (B.d at_190) rfl ((if0 _ _).trans (tlt ((lw_gt v33 (0 : Int64)).mpr hc190)).2.2.2)) ?_
      show Goes _ _ _ _ T (mkF me_ 193 #[.val (.long q0), .second, .val (.int p1), .val (.int p2), .val (.int p3), .val (.int p4), .val (.long v1), .second, .val (.long v2), .second, .val (.long v3), .second, .val (.long v4), .second, .val (.long v5), .second, .val (.long v6), .second, .val (.long v7), .second, .val (.long v8), .second, .val (.ref b9), .val (.long v31), .second, .val (.long v32), .second, .val (.long v33), .second, .val (.long v34), .second, .unset, .unset, .unset, .unset, .unset, .unset, .unset, .unset, .unset] [(.int (bi ((0 : Int64) < v34)))])
      refine Goes.go (fun _ => XS.iconst S.here B.x rfl (B.d at_193)) ?_
      show Goes _ _ _ _ T (mkF me_ 194 #[.val (.long q0), .second, .val (.int p1), .val (.int p2), .val (.int p3), .val (.int p4), .val (.long v1), .second, .val (.long v2), .second, .val (.long v3), .second, .val (.long v4), .second, .val (.long v5), .second, .val (.long v6), .second, .val (.long v7), .second, .val (.long v8), .second, .val (.ref b9), .val (.long v31), .second, .val (.long v32), .second, .val (.long v33), .second, .val (.long v34), .second, .unset, .unset, .unset, .unset, .unset, .unset, .unset, .unset, .unset] [(.int (1 : Int32)), (.int (bi ((0 : Int64) < v34)))])
      refine Goes.go (fun _ => XS.goto S.here B.x rfl (pc0 := 194) (pc' := 198) rfl (B.d at_194) (by decide) (by decide)) ?_
      show Goes _ _ _ _ T (mkF me_ 198 #[.val (.long q0), .second, .val (.int p1), .val (.int p2), .val (.int p3), .val (.int p4), .val (.long v1), .second, .val (.long v2), .second, .val (.long v3), .second, .val (.long v4), .second, .val (.long v5), .second, .val (.long v6), .second, .val (.long v7), .second, .val (.long v8), .second, .val (.ref b9), .val (.long v31), .second, .val (.long v32), .second, .val (.long v33), .second, .val (.long v34), .second, .unset, .unset, .unset, .unset, .unset, .unset, .unset, .unset, .unset] [(.int (1 : Int32)), (.int (bi ((0 : Int64) < v34)))])
      exact kk
    · skip
      refine Goes.go (fun _ => XS.ifYes S.here B.x rfl (pc0 := 190) (pc' := 197) rfl (B.d at_190) rfl ((if0 _ _).trans (flt (mt (lw_gt v33 (0 : Int64)).mp hc190)).2.2.2) (by decide) (by decide)) ?_
      show Goes _ _ _ _ T (mkF me_ 197 #[.val (.long q0), .second, .val (.int p1), .val (.int p2), .val (.int p3), .val (.int p4), .val (.long v1), .second, .val (.long v2), .second, .val (.long v3), .second, .val (.long v4), .second, .val (.long v5), .second, .val (.long v6), .second, .val (.long v7), .second, .val (.long v8), .second, .val (.ref b9), .val (.long v31), .second, .val (.long v32), .second, .val (.long v33), .second, .val (.long v34), .second, .unset, .unset, .unset, .unset, .unset, .unset, .unset, .unset, .unset] [(.int (bi ((0 : Int64) < v34)))])
      refine Goes.go (fun _ => XS.iconst S.here B.x rfl (B.d at_197)) ?_
      show Goes _ _ _ _ T (mkF me_ 198 #[.val (.long q0), .second, .val (.int p1), .val (.int p2), .val (.int p3), .val (.int p4), .val (.long v1), .second, .val (.long v2), .second, .val (.long v3), .second, .val (.long v4), .second, .val (.long v5), .second, .val (.long v6), .second, .val (.long v7), .second, .val (.long v8), .second, .val (.ref b9), .val (.long v31), .second, .val (.long v32), .second, .val (.long v33), .second, .val (.long v34), .second, .unset, .unset, .unset, .unset, .unset, .unset, .unset, .unset, .unset] [(.int (0 : Int32)), (.int (bi ((0 : Int64) < v34)))])
      exact kk
    show Goes _ _ _ _ T (mkF me_ 198 #[.val (.long q0), .second, .val (.int p1), .val (.int p2), .val (.int p3), .val (.int p4), .val (.long v1), .second, .val (.long v2), .second, .val (.long v3), .second, .val (.long v4), .second, .val (.long v5), .second, .val (.long v6), .second, .val (.long v7), .second, .val (.long v8), .second, .val (.ref b9), .val (.long v31), .second, .val (.long v32), .second, .val (.long v33), .second, .val (.long v34), .second, .unset, .unset, .unset, .unset, .unset, .unset, .unset, .unset, .unset] [(.int (bi ((0 : Int64) < v33))), (.int (bi ((0 : Int64) < v34)))])
    refine Goes.go (fun _ => XS.iadd S.here B.x rfl (B.d at_198) rfl) ?_
    show Goes _ _ _ _ T (mkF me_ 199 #[.val (.long q0), .second, .val (.int p1), .val (.int p2), .val (.int p3), .val (.int p4), .val (.long v1), .second, .val (.long v2), .second, .val (.long v3), .second, .val (.long v4), .second, .val (.long v5), .second, .val (.long v6), .second, .val (.long v7), .second, .val (.long v8), .second, .val (.ref b9), .val (.long v31), .second, .val (.long v32), .second, .val (.long v33), .second, .val (.long v34), .second, .unset, .unset, .unset, .unset, .unset, .unset, .unset, .unset, .unset] [(.int ((bi ((0 : Int64) < v34)) + (bi ((0 : Int64) < v33))))])
    refine Goes.go (fun _ => XS.lload S.here B.x rfl (B.d at_199) rfl) ?_
    show Goes _ _ _ _ T (mkF me_ 201 #[.val (.long q0), .second, .val (.int p1), .val (.int p2), .val (.int p3), .val (.int p4), .val (.long v1), .second, .val (.long v2), .second, .val (.long v3), .second, .val (.long v4), .second, .val (.long v5), .second, .val (.long v6), .second, .val (.long v7), .second, .val (.long v8), .second, .val (.ref b9), .val (.long v31), .second, .val (.long v32), .second, .val (.long v33), .second, .val (.long v34), .second, .unset, .unset, .unset, .unset, .unset, .unset, .unset, .unset, .unset] [(.long v32), (.int ((bi ((0 : Int64) < v34)) + (bi ((0 : Int64) < v33))))])
    refine Goes.go (fun _ => XS.lconst S.here B.x rfl (B.d at_201)) ?_
    show Goes _ _ _ _ T (mkF me_ 202 #[.val (.long q0), .second, .val (.int p1), .val (.int p2), .val (.int p3), .val (.int p4), .val (.long v1), .second, .val (.long v2), .second, .val (.long v3), .second, .val (.long v4), .second, .val (.long v5), .second, .val (.long v6), .second, .val (.long v7), .second, .val (.long v8), .second, .val (.ref b9), .val (.long v31), .second, .val (.long v32), .second, .val (.long v33), .second, .val (.long v34), .second, .unset, .unset, .unset, .unset, .unset, .unset, .unset, .unset, .unset] [(.long (0 : Int64)), (.long v32), (.int ((bi ((0 : Int64) < v34)) + (bi ((0 : Int64) < v33))))])
    refine Goes.go (fun _ => XS.lcmp S.here B.x rfl (B.d at_202) rfl) ?_
    show Goes _ _ _ _ T (mkF me_ 203 #[.val (.long q0), .second, .val (.int p1), .val (.int p2), .val (.int p3), .val (.int p4), .val (.long v1), .second, .val (.long v2), .second, .val (.long v3), .second, .val (.long v4), .second, .val (.long v5), .second, .val (.long v6), .second, .val (.long v7), .second, .val (.long v8), .second, .val (.ref b9), .val (.long v31), .second, .val (.long v32), .second, .val (.long v33), .second, .val (.long v34), .second, .unset, .unset, .unset, .unset, .unset, .unset, .unset, .unset, .unset] [(.int (lcmpW v32 (0 : Int64))), (.int ((bi ((0 : Int64) < v34)) + (bi ((0 : Int64) < v33))))])
    refine Goes.dia (P := (0 : Int64) < v32) (mk := fun z => (mkF me_ 211 #[.val (.long q0), .second, .val (.int p1), .val (.int p2), .val (.int p3), .val (.int p4), .val (.long v1), .second, .val (.long v2), .second, .val (.long v3), .second, .val (.long v4), .second, .val (.long v5), .second, .val (.long v6), .second, .val (.long v7), .second, .val (.long v8), .second, .val (.ref b9), .val (.long v31), .second, .val (.long v32), .second, .val (.long v33), .second, .val (.long v34), .second, .unset, .unset, .unset, .unset, .unset, .unset, .unset, .unset, .unset] [(.int z), (.int ((bi ((0 : Int64) < v34)) + (bi ((0 : Int64) < v33))))])) (fun hc203 kk => ?_) (fun hc203 kk => ?_) ?_
    · skip
      refine Goes.go (fun _ => XS.ifNo S.here B.x rfl (B.d at_203) rfl ((if0 _ _).trans (tlt ((lw_gt v32 (0 : Int64)).mpr hc203)).2.2.2)) ?_
      show Goes _ _ _ _ T (mkF me_ 206 #[.val (.long q0), .second, .val (.int p1), .val (.int p2), .val (.int p3), .val (.int p4), .val (.long v1), .second, .val (.long v2), .second, .val (.long v3), .second, .val (.long v4), .second, .val (.long v5), .second, .val (.long v6), .second, .val (.long v7), .second, .val (.long v8), .second, .val (.ref b9), .val (.long v31), .second, .val (.long v32), .second, .val (.long v33), .second, .val (.long v34), .second, .unset, .unset, .unset, .unset, .unset, .unset, .unset, .unset, .unset] [(.int ((bi ((0 : Int64) < v34)) + (bi ((0 : Int64) < v33))))])
      refine Goes.go (fun _ => XS.iconst S.here B.x rfl (B.d at_206)) ?_
      show Goes _ _ _ _ T (mkF me_ 207 #[.val (.long q0), .second, .val (.int p1), .val (.int p2), .val (.int p3), .val (.int p4), .val (.long v1), .second, .val (.long v2), .second, .val (.long v3), .second, .val (.long v4), .second, .val (.long v5), .second, .val (.long v6), .second, .val (.long v7), .second, .val (.long v8), .second, .val (.ref b9), .val (.long v31), .second, .val (.long v32), .second, .val (.long v33), .second, .val (.long v34), .second, .unset, .unset, .unset, .unset, .unset, .unset, .unset, .unset, .unset] [(.int (1 : Int32)), (.int ((bi ((0 : Int64) < v34)) + (bi ((0 : Int64) < v33))))])
      refine Goes.go (fun _ => XS.goto S.here B.x rfl (pc0 := 207) (pc' := 211) rfl (B.d at_207) (by decide) (by decide)) ?_
      show Goes _ _ _ _ T (mkF me_ 211 #[.val (.long q0), .second, .val (.int p1), .val (.int p2), .val (.int p3), .val (.int p4), .val (.long v1), .second, .val (.long v2), .second, .val (.long v3), .second, .val (.long v4), .second, .val (.long v5), .second, .val (.long v6), .second, .val (.long v7), .second, .val (.long v8), .second, .val (.ref b9), .val (.long v31), .second, .val (.long v32), .second, .val (.long v33), .second, .val (.long v34), .second, .unset, .unset, .unset, .unset, .unset, .unset, .unset, .unset, .unset] [(.int (1 : Int32)), (.int ((bi ((0 : Int64) < v34)) + (bi ((0 : Int64) < v33))))])
      exact kk
    · skip
      refine Goes.go (fun _ => XS.ifYes S.here B.x rfl (pc0 := 203) (pc' := 210) rfl (B.d at_203) rfl ((if0 _ _).trans (flt (mt (lw_gt v32 (0 : Int64)).mp hc203)).2.2.2) (by decide) (by decide)) ?_
      show Goes _ _ _ _ T (mkF me_ 210 #[.val (.long q0), .second, .val (.int p1), .val (.int p2), .val (.int p3), .val (.int p4), .val (.long v1), .second, .val (.long v2), .second, .val (.long v3), .second, .val (.long v4), .second, .val (.long v5), .second, .val (.long v6), .second, .val (.long v7), .second, .val (.long v8), .second, .val (.ref b9), .val (.long v31), .second, .val (.long v32), .second, .val (.long v33), .second, .val (.long v34), .second, .unset, .unset, .unset, .unset, .unset, .unset, .unset, .unset, .unset] [(.int ((bi ((0 : Int64) < v34)) + (bi ((0 : Int64) < v33))))])
      refine Goes.go (fun _ => XS.iconst S.here B.x rfl (B.d at_210)) ?_
      show Goes _ _ _ _ T (mkF me_ 211 #[.val (.long q0), .second, .val (.int p1), .val (.int p2), .val (.int p3), .val (.int p4), .val (.long v1), .second, .val (.long v2), .second, .val (.long v3), .second, .val (.long v4), .second, .val (.long v5), .second, .val (.long v6), .second, .val (.long v7), .second, .val (.long v8), .second, .val (.ref b9), .val (.long v31), .second, .val (.long v32), .second, .val (.long v33), .second, .val (.long v34), .second, .unset, .unset, .unset, .unset, .unset, .unset, .unset, .unset, .unset] [(.int (0 : Int32)), (.int ((bi ((0 : Int64) < v34)) + (bi ((0 : Int64) < v33))))])
      exact kk
    show Goes _ _ _ _ T (mkF me_ 211 #[.val (.long q0), .second, .val (.int p1), .val (.int p2), .val (.int p3), .val (.int p4), .val (.long v1), .second, .val (.long v2), .second, .val (.long v3), .second, .val (.long v4), .second, .val (.long v5), .second, .val (.long v6), .second, .val (.long v7), .second, .val (.long v8), .second, .val (.ref b9), .val (.long v31), .second, .val (.long v32), .second, .val (.long v33), .second, .val (.long v34), .second, .unset, .unset, .unset, .unset, .unset, .unset, .unset, .unset, .unset] [(.int (bi ((0 : Int64) < v32))), (.int ((bi ((0 : Int64) < v34)) + (bi ((0 : Int64) < v33))))])
    refine Goes.go (fun _ => XS.iadd S.here B.x rfl (B.d at_211) rfl) ?_
    show Goes _ _ _ _ T (mkF me_ 212 #[.val (.long q0), .second, .val (.int p1), .val (.int p2), .val (.int p3), .val (.int p4), .val (.long v1), .second, .val (.long v2), .second, .val (.long v3), .second, .val (.long v4), .second, .val (.long v5), .second, .val (.long v6), .second, .val (.long v7), .second, .val (.long v8), .second, .val (.ref b9), .val (.long v31), .second, .val (.long v32), .second, .val (.long v33), .second, .val (.long v34), .second, .unset, .unset, .unset, .unset, .unset, .unset, .unset, .unset, .unset] [(.int (((bi ((0 : Int64) < v34)) + (bi ((0 : Int64) < v33))) + (bi ((0 : Int64) < v32))))])
    refine Goes.go (fun _ => XS.istore (g := (mkF me_ 212 #[.val (.long q0), .second, .val (.int p1), .val (.int p2), .val (.int p3), .val (.int p4), .val (.long v1), .second, .val (.long v2), .second, .val (.long v3), .second, .val (.long v4), .second, .val (.long v5), .second, .val (.long v6), .second, .val (.long v7), .second, .val (.long v8), .second, .val (.ref b9), .val (.long v31), .second, .val (.long v32), .second, .val (.long v33), .second, .val (.long v34), .second, .unset, .unset, .unset, .unset, .unset, .unset, .unset, .unset, .unset] [(.int (((bi ((0 : Int64) < v34)) + (bi ((0 : Int64) < v33))) + (bi ((0 : Int64) < v32))))])) S.here B.x rfl (B.d at_212) rfl (l' := #[.val (.long q0), .second, .val (.int p1), .val (.int p2), .val (.int p3), .val (.int p4), .val (.long v1), .second, .val (.long v2), .second, .val (.long v3), .second, .val (.long v4), .second, .val (.long v5), .second, .val (.long v6), .second, .val (.long v7), .second, .val (.long v8), .second, .val (.ref b9), .val (.long v31), .second, .val (.long v32), .second, .val (.long v33), .second, .val (.long v34), .second, .val (.int (((bi ((0 : Int64) < v34)) + (bi ((0 : Int64) < v33))) + (bi ((0 : Int64) < v32)))), .unset, .unset, .unset, .unset, .unset, .unset, .unset, .unset]) rfl) ?_
    show Goes _ _ _ _ T (mkF me_ 214 #[.val (.long q0), .second, .val (.int p1), .val (.int p2), .val (.int p3), .val (.int p4), .val (.long v1), .second, .val (.long v2), .second, .val (.long v3), .second, .val (.long v4), .second, .val (.long v5), .second, .val (.long v6), .second, .val (.long v7), .second, .val (.long v8), .second, .val (.ref b9), .val (.long v31), .second, .val (.long v32), .second, .val (.long v33), .second, .val (.long v34), .second, .val (.int (((bi ((0 : Int64) < v34)) + (bi ((0 : Int64) < v33))) + (bi ((0 : Int64) < v32)))), .unset, .unset, .unset, .unset, .unset, .unset, .unset, .unset] [])
    refine Goes.go (fun _ => XS.aload S.here B.x rfl (B.d at_214) rfl rfl) ?_
    show Goes _ _ _ _ T (mkF me_ 216 #[.val (.long q0), .second, .val (.int p1), .val (.int p2), .val (.int p3), .val (.int p4), .val (.long v1), .second, .val (.long v2), .second, .val (.long v3), .second, .val (.long v4), .second, .val (.long v5), .second, .val (.long v6), .second, .val (.long v7), .second, .val (.long v8), .second, .val (.ref b9), .val (.long v31), .second, .val (.long v32), .second, .val (.long v33), .second, .val (.long v34), .second, .val (.int (((bi ((0 : Int64) < v34)) + (bi ((0 : Int64) < v33))) + (bi ((0 : Int64) < v32)))), .unset, .unset, .unset, .unset, .unset, .unset, .unset, .unset] [(.ref b9)])
    refine Goes.callV (argsL := []) (rest := []) (W := 0) S B (rm_permits l Z aw hw b9 b10 b11 (fun i => (.long (u18 i))) u19 u26 u27 u28 _ n0 E_b9 F_b9_instants F_b9_lastNumbers F_b9_first F_b9_size F_b9_dropped A_b10 A_b11) E_b9 (w69 hw) (w57 hw) (w59 hw) (w58 hw) (w2 hw) (w60 hw) (by decide) (by decide) (by decide) (by decide) (by decide) rfl (lenOf pd_4 rfl) rfl (Nat.le_of_eq rfl) at_216 ?_
    intro v T h S hQ
    obtain ⟨rfl, hh⟩ := hQ
    replace hh := hh.symm
    subst hh
    show Goes _ _ _ _ T (mkF me_ 219 #[.val (.long q0), .second, .val (.int p1), .val (.int p2), .val (.int p3), .val (.int p4), .val (.long v1), .second, .val (.long v2), .second, .val (.long v3), .second, .val (.long v4), .second, .val (.long v5), .second, .val (.long v6), .second, .val (.long v7), .second, .val (.long v8), .second, .val (.ref b9), .val (.long v31), .second, .val (.long v32), .second, .val (.long v33), .second, .val (.long v34), .second, .val (.int (((bi ((0 : Int64) < v34)) + (bi ((0 : Int64) < v33))) + (bi ((0 : Int64) < v32)))), .unset, .unset, .unset, .unset, .unset, .unset, .unset, .unset] [(.long (own_perm u27 u28 (u19 ((u26 + (u27 - (1 : Int32))) &&& (3 : Int32)).toNatClampNeg)))])
    rw [own_pt hN2_126 hs2_126 hl2_126]
    show Goes _ _ _ _ T (mkF me_ 219 #[.val (.long q0), .second, .val (.int p1), .val (.int p2), .val (.int p3), .val (.int p4), .val (.long v1), .second, .val (.long v2), .second, .val (.long v3), .second, .val (.long v4), .second, .val (.long v5), .second, .val (.long v6), .second, .val (.long v7), .second, .val (.long v8), .second, .val (.ref b9), .val (.long v31), .second, .val (.long v32), .second, .val (.long v33), .second, .val (.long v34), .second, .val (.int (((bi ((0 : Int64) < v34)) + (bi ((0 : Int64) < v33))) + (bi ((0 : Int64) < v32)))), .unset, .unset, .unset, .unset, .unset, .unset, .unset, .unset] [(.long (own_tt u28 u30))])
    generalize hv36 : (own_tt u28 u30) = v36
    refine Goes.go (fun _ => XS.lstore (g := (mkF me_ 219 #[.val (.long q0), .second, .val (.int p1), .val (.int p2), .val (.int p3), .val (.int p4), .val (.long v1), .second, .val (.long v2), .second, .val (.long v3), .second, .val (.long v4), .second, .val (.long v5), .second, .val (.long v6), .second, .val (.long v7), .second, .val (.long v8), .second, .val (.ref b9), .val (.long v31), .second, .val (.long v32), .second, .val (.long v33), .second, .val (.long v34), .second, .val (.int (((bi ((0 : Int64) < v34)) + (bi ((0 : Int64) < v33))) + (bi ((0 : Int64) < v32)))), .unset, .unset, .unset, .unset, .unset, .unset, .unset, .unset] [(.long v36)])) S.here B.x rfl (B.d at_219) rfl (l' := #[.val (.long q0), .second, .val (.int p1), .val (.int p2), .val (.int p3), .val (.int p4), .val (.long v1), .second, .val (.long v2), .second, .val (.long v3), .second, .val (.long v4), .second, .val (.long v5), .second, .val (.long v6), .second, .val (.long v7), .second, .val (.long v8), .second, .val (.ref b9), .val (.long v31), .second, .val (.long v32), .second, .val (.long v33), .second, .val (.long v34), .second, .val (.int (((bi ((0 : Int64) < v34)) + (bi ((0 : Int64) < v33))) + (bi ((0 : Int64) < v32)))), .val (.long v36), .second, .unset, .unset, .unset, .unset, .unset, .unset]) rfl) ?_
    show Goes _ _ _ _ T (mkF me_ 221 #[.val (.long q0), .second, .val (.int p1), .val (.int p2), .val (.int p3), .val (.int p4), .val (.long v1), .second, .val (.long v2), .second, .val (.long v3), .second, .val (.long v4), .second, .val (.long v5), .second, .val (.long v6), .second, .val (.long v7), .second, .val (.long v8), .second, .val (.ref b9), .val (.long v31), .second, .val (.long v32), .second, .val (.long v33), .second, .val (.long v34), .second, .val (.int (((bi ((0 : Int64) < v34)) + (bi ((0 : Int64) < v33))) + (bi ((0 : Int64) < v32)))), .val (.long v36), .second, .unset, .unset, .unset, .unset, .unset, .unset] [])
    refine Goes.go (fun _ => XS.lload S.here B.x rfl (B.d at_221) rfl) ?_
    show Goes _ _ _ _ T (mkF me_ 223 #[.val (.long q0), .second, .val (.int p1), .val (.int p2), .val (.int p3), .val (.int p4), .val (.long v1), .second, .val (.long v2), .second, .val (.long v3), .second, .val (.long v4), .second, .val (.long v5), .second, .val (.long v6), .second, .val (.long v7), .second, .val (.long v8), .second, .val (.ref b9), .val (.long v31), .second, .val (.long v32), .second, .val (.long v33), .second, .val (.long v34), .second, .val (.int (((bi ((0 : Int64) < v34)) + (bi ((0 : Int64) < v33))) + (bi ((0 : Int64) < v32)))), .val (.long v36), .second, .unset, .unset, .unset, .unset, .unset, .unset] [(.long v36)])
    refine Goes.go (fun _ => XS.lload S.here B.x rfl (B.d at_223) rfl) ?_
    show Goes _ _ _ _ T (mkF me_ 225 #[.val (.long q0), .second, .val (.int p1), .val (.int p2), .val (.int p3), .val (.int p4), .val (.long v1), .second, .val (.long v2), .second, .val (.long v3), .second, .val (.long v4), .second, .val (.long v5), .second, .val (.long v6), .second, .val (.long v7), .second, .val (.long v8), .second, .val (.ref b9), .val (.long v31), .second, .val (.long v32), .second, .val (.long v33), .second, .val (.long v34), .second, .val (.int (((bi ((0 : Int64) < v34)) + (bi ((0 : Int64) < v33))) + (bi ((0 : Int64) < v32)))), .val (.long v36), .second, .unset, .unset, .unset, .unset, .unset, .unset] [(.long v34), (.long v36)])
    refine Goes.go (fun _ => XS.lload S.here B.x rfl (B.d at_225) rfl) ?_
    show Goes _ _ _ _ T (mkF me_ 227 #[.val (.long q0), .second, .val (.int p1), .val (.int p2), .val (.int p3), .val (.int p4), .val (.long v1), .second, .val (.long v2), .second, .val (.long v3), .second, .val (.long v4), .second, .val (.long v5), .second, .val (.long v6), .second, .val (.long v7), .second, .val (.long v8), .second, .val (.ref b9), .val (.long v31), .second, .val (.long v32), .second, .val (.long v33), .second, .val (.long v34), .second, .val (.int (((bi ((0 : Int64) < v34)) + (bi ((0 : Int64) < v33))) + (bi ((0 : Int64) < v32)))), .val (.long v36), .second, .unset, .unset, .unset, .unset, .unset, .unset] [(.long v33), (.long v34), (.long v36)])
    refine Goes.go (fun _ => XS.ladd S.here B.x rfl (B.d at_227) rfl) ?_
    show Goes _ _ _ _ T (mkF me_ 228 #[.val (.long q0), .second, .val (.int p1), .val (.int p2), .val (.int p3), .val (.int p4), .val (.long v1), .second, .val (.long v2), .second, .val (.long v3), .second, .val (.long v4), .second, .val (.long v5), .second, .val (.long v6), .second, .val (.long v7), .second, .val (.long v8), .second, .val (.ref b9), .val (.long v31), .second, .val (.long v32), .second, .val (.long v33), .second, .val (.long v34), .second, .val (.int (((bi ((0 : Int64) < v34)) + (bi ((0 : Int64) < v33))) + (bi ((0 : Int64) < v32)))), .val (.long v36), .second, .unset, .unset, .unset, .unset, .unset, .unset] [(.long (v34 + v33)), (.long v36)])
    refine Goes.go (fun _ => XS.lload S.here B.x rfl (B.d at_228) rfl) ?_
    show Goes _ _ _ _ T (mkF me_ 230 #[.val (.long q0), .second, .val (.int p1), .val (.int p2), .val (.int p3), .val (.int p4), .val (.long v1), .second, .val (.long v2), .second, .val (.long v3), .second, .val (.long v4), .second, .val (.long v5), .second, .val (.long v6), .second, .val (.long v7), .second, .val (.long v8), .second, .val (.ref b9), .val (.long v31), .second, .val (.long v32), .second, .val (.long v33), .second, .val (.long v34), .second, .val (.int (((bi ((0 : Int64) < v34)) + (bi ((0 : Int64) < v33))) + (bi ((0 : Int64) < v32)))), .val (.long v36), .second, .unset, .unset, .unset, .unset, .unset, .unset] [(.long v32), (.long (v34 + v33)), (.long v36)])
    refine Goes.go (fun _ => XS.ladd S.here B.x rfl (B.d at_230) rfl) ?_
    show Goes _ _ _ _ T (mkF me_ 231 #[.val (.long q0), .second, .val (.int p1), .val (.int p2), .val (.int p3), .val (.int p4), .val (.long v1), .second, .val (.long v2), .second, .val (.long v3), .second, .val (.long v4), .second, .val (.long v5), .second, .val (.long v6), .second, .val (.long v7), .second, .val (.long v8), .second, .val (.ref b9), .val (.long v31), .second, .val (.long v32), .second, .val (.long v33), .second, .val (.long v34), .second, .val (.int (((bi ((0 : Int64) < v34)) + (bi ((0 : Int64) < v33))) + (bi ((0 : Int64) < v32)))), .val (.long v36), .second, .unset, .unset, .unset, .unset, .unset, .unset] [(.long ((v34 + v33) + v32)), (.long v36)])
    refine Goes.go (fun _ => XS.lcmp S.here B.x rfl (B.d at_231) rfl) ?_
    show Goes _ _ _ _ T (mkF me_ 232 #[.val (.long q0), .second, .val (.int p1), .val (.int p2), .val (.int p3), .val (.int p4), .val (.long v1), .second, .val (.long v2), .second, .val (.long v3), .second, .val (.long v4), .second, .val (.long v5), .second, .val (.long v6), .second, .val (.long v7), .second, .val (.long v8), .second, .val (.ref b9), .val (.long v31), .second, .val (.long v32), .second, .val (.long v33), .second, .val (.long v34), .second, .val (.int (((bi ((0 : Int64) < v34)) + (bi ((0 : Int64) < v33))) + (bi ((0 : Int64) < v32)))), .val (.long v36), .second, .unset, .unset, .unset, .unset, .unset, .unset] [(.int (lcmpW v36 ((v34 + v33) + v32)))])
    refine Goes.go (fun _ => XS.ifYes S.here B.x rfl (pc0 := 232) (pc' := 237) rfl (B.d at_232) rfl ((if0 _ _).trans (teq ((lw_eq v36 ((v34 + v33) + v32)).mpr (show v36 = ((v34 + v33) + v32) from hv36.symm.trans tot))).1) (by decide) (by decide)) ?_
    show Goes _ _ _ _ T (mkF me_ 237 #[.val (.long q0), .second, .val (.int p1), .val (.int p2), .val (.int p3), .val (.int p4), .val (.long v1), .second, .val (.long v2), .second, .val (.long v3), .second, .val (.long v4), .second, .val (.long v5), .second, .val (.long v6), .second, .val (.long v7), .second, .val (.long v8), .second, .val (.ref b9), .val (.long v31), .second, .val (.long v32), .second, .val (.long v33), .second, .val (.long v34), .second, .val (.int (((bi ((0 : Int64) < v34)) + (bi ((0 : Int64) < v33))) + (bi ((0 : Int64) < v32)))), .val (.long v36), .second, .unset, .unset, .unset, .unset, .unset, .unset] [])
    refine Goes.go (fun _ => XS.aload S.here B.x rfl (B.d at_237) rfl rfl) ?_
    show Goes _ _ _ _ T (mkF me_ 239 #[.val (.long q0), .second, .val (.int p1), .val (.int p2), .val (.int p3), .val (.int p4), .val (.long v1), .second, .val (.long v2), .second, .val (.long v3), .second, .val (.long v4), .second, .val (.long v5), .second, .val (.long v6), .second, .val (.long v7), .second, .val (.long v8), .second, .val (.ref b9), .val (.long v31), .second, .val (.long v32), .second, .val (.long v33), .second, .val (.long v34), .second, .val (.int (((bi ((0 : Int64) < v34)) + (bi ((0 : Int64) < v33))) + (bi ((0 : Int64) < v32)))), .val (.long v36), .second, .unset, .unset, .unset, .unset, .unset, .unset] [(.ref b9)])
    refine Goes.callV (argsL := []) (rest := []) (W := 0) S B (rm_insts l Z aw hw b9 u27 _ n0 F_b9_size) E_b9 (w70 hw) (w71 hw) (w73 hw) (w72 hw) (w2 hw) (w74 hw) (by decide) (by decide) (by decide) (by decide) (by decide) rfl (lenOf pd_9 rfl) rfl (Nat.le_of_eq rfl) at_239 ?_
    intro v T h S hQ
    obtain ⟨rfl, hh⟩ := hQ
    replace hh := hh.symm
    subst hh
    show Goes _ _ _ _ T (mkF me_ 242 #[.val (.long q0), .second, .val (.int p1), .val (.int p2), .val (.int p3), .val (.int p4), .val (.long v1), .second, .val (.long v2), .second, .val (.long v3), .second, .val (.long v4), .second, .val (.long v5), .second, .val (.long v6), .second, .val (.long v7), .second, .val (.long v8), .second, .val (.ref b9), .val (.long v31), .second, .val (.long v32), .second, .val (.long v33), .second, .val (.long v34), .second, .val (.int (((bi ((0 : Int64) < v34)) + (bi ((0 : Int64) < v33))) + (bi ((0 : Int64) < v32)))), .val (.long v36), .second, .unset, .unset, .unset, .unset, .unset, .unset] [(.int u27)])
    refine Goes.go (fun _ => XS.iload S.here B.x rfl (B.d at_242) rfl) ?_
    show Goes _ _ _ _ T (mkF me_ 244 #[.val (.long q0), .second, .val (.int p1), .val (.int p2), .val (.int p3), .val (.int p4), .val (.long v1), .second, .val (.long v2), .second, .val (.long v3), .second, .val (.long v4), .second, .val (.long v5), .second, .val (.long v6), .second, .val (.long v7), .second, .val (.long v8), .second, .val (.ref b9), .val (.long v31), .second, .val (.long v32), .second, .val (.long v33), .second, .val (.long v34), .second, .val (.int (((bi ((0 : Int64) < v34)) + (bi ((0 : Int64) < v33))) + (bi ((0 : Int64) < v32)))), .val (.long v36), .second, .unset, .unset, .unset, .unset, .unset, .unset] [(.int (((bi ((0 : Int64) < v34)) + (bi ((0 : Int64) < v33))) + (bi ((0 : Int64) < v32)))), (.int u27)])
    refine Goes.go (fun _ => XS.icmpYes S.here B.x rfl (pc0 := 244) (pc' := 249) rfl (B.d at_244) rfl (teq (show u27 = (((bi ((0 : Int64) < v34)) + (bi ((0 : Int64) < v33))) + (bi ((0 : Int64) < v32))) from own_n2 hs2_126 eT x0 x1 x2)).1 (by decide) (by decide)) ?_
    show Goes _ _ _ _ T (mkF me_ 249 #[.val (.long q0), .second, .val (.int p1), .val (.int p2), .val (.int p3), .val (.int p4), .val (.long v1), .second, .val (.long v2), .second, .val (.long v3), .second, .val (.long v4), .second, .val (.long v5), .second, .val (.long v6), .second, .val (.long v7), .second, .val (.long v8), .second, .val (.ref b9), .val (.long v31), .second, .val (.long v32), .second, .val (.long v33), .second, .val (.long v34), .second, .val (.int (((bi ((0 : Int64) < v34)) + (bi ((0 : Int64) < v33))) + (bi ((0 : Int64) < v32)))), .val (.long v36), .second, .unset, .unset, .unset, .unset, .unset, .unset] [])
    refine Goes.go (fun _ => XS.iload S.here B.x rfl (B.d at_249) rfl) ?_
    show Goes _ _ _ _ T (mkF me_ 251 #[.val (.long q0), .second, .val (.int p1), .val (.int p2), .val (.int p3), .val (.int p4), .val (.long v1), .second, .val (.long v2), .second, .val (.long v3), .second, .val (.long v4), .second, .val (.long v5), .second, .val (.long v6), .second, .val (.long v7), .second, .val (.long v8), .second, .val (.ref b9), .val (.long v31), .second, .val (.long v32), .second, .val (.long v33), .second, .val (.long v34), .second, .val (.int (((bi ((0 : Int64) < v34)) + (bi ((0 : Int64) < v33))) + (bi ((0 : Int64) < v32)))), .val (.long v36), .second, .unset, .unset, .unset, .unset, .unset, .unset] [(.int (((bi ((0 : Int64) < v34)) + (bi ((0 : Int64) < v33))) + (bi ((0 : Int64) < v32))))])
    refine Goes.go (fun _ => XS.ifYes S.here B.x rfl (pc0 := 251) (pc' := 256) rfl (B.d at_251) rfl ((if0 _ _).trans (feq (show ¬ ((((bi ((0 : Int64) < v34)) + (bi ((0 : Int64) < v33))) + (bi ((0 : Int64) < v32))) = (0 : Int32)) from own_z2 x0 x1 x2)).2) (by decide) (by decide)) ?_
    show Goes _ _ _ _ T (mkF me_ 256 #[.val (.long q0), .second, .val (.int p1), .val (.int p2), .val (.int p3), .val (.int p4), .val (.long v1), .second, .val (.long v2), .second, .val (.long v3), .second, .val (.long v4), .second, .val (.long v5), .second, .val (.long v6), .second, .val (.long v7), .second, .val (.long v8), .second, .val (.ref b9), .val (.long v31), .second, .val (.long v32), .second, .val (.long v33), .second, .val (.long v34), .second, .val (.int (((bi ((0 : Int64) < v34)) + (bi ((0 : Int64) < v33))) + (bi ((0 : Int64) < v32)))), .val (.long v36), .second, .unset, .unset, .unset, .unset, .unset, .unset] [])
    refine Goes.go (fun _ => XS.lload S.here B.x rfl (B.d at_256) rfl) ?_
    show Goes _ _ _ _ T (mkF me_ 258 #[.val (.long q0), .second, .val (.int p1), .val (.int p2), .val (.int p3), .val (.int p4), .val (.long v1), .second, .val (.long v2), .second, .val (.long v3), .second, .val (.long v4), .second, .val (.long v5), .second, .val (.long v6), .second, .val (.long v7), .second, .val (.long v8), .second, .val (.ref b9), .val (.long v31), .second, .val (.long v32), .second, .val (.long v33), .second, .val (.long v34), .second, .val (.int (((bi ((0 : Int64) < v34)) + (bi ((0 : Int64) < v33))) + (bi ((0 : Int64) < v32)))), .val (.long v36), .second, .unset, .unset, .unset, .unset, .unset, .unset] [(.long v34)])
    refine Goes.go (fun _ => XS.lconst S.here B.x rfl (B.d at_258)) ?_
    show Goes _ _ _ _ T (mkF me_ 259 #[.val (.long q0), .second, .val (.int p1), .val (.int p2), .val (.int p3), .val (.int p4), .val (.long v1), .second, .val (.long v2), .second, .val (.long v3), .second, .val (.long v4), .second, .val (.long v5), .second, .val (.long v6), .second, .val (.long v7), .second, .val (.long v8), .second, .val (.ref b9), .val (.long v31), .second, .val (.long v32), .second, .val (.long v33), .second, .val (.long v34), .second, .val (.int (((bi ((0 : Int64) < v34)) + (bi ((0 : Int64) < v33))) + (bi ((0 : Int64) < v32)))), .val (.long v36), .second, .unset, .unset, .unset, .unset, .unset, .unset] [(.long (0 : Int64)), (.long v34)])
    refine Goes.go (fun _ => XS.lcmp S.here B.x rfl (B.d at_259) rfl) ?_
    show Goes _ _ _ _ T (mkF me_ 260 #[.val (.long q0), .second, .val (.int p1), .val (.int p2), .val (.int p3), .val (.int p4), .val (.long v1), .second, .val (.long v2), .second, .val (.long v3), .second, .val (.long v4), .second, .val (.long v5), .second, .val (.long v6), .second, .val (.long v7), .second, .val (.long v8), .second, .val (.ref b9), .val (.long v31), .second, .val (.long v32), .second, .val (.long v33), .second, .val (.long v34), .second, .val (.int (((bi ((0 : Int64) < v34)) + (bi ((0 : Int64) < v33))) + (bi ((0 : Int64) < v32)))), .val (.long v36), .second, .unset, .unset, .unset, .unset, .unset, .unset] [(.int (lcmpW v34 (0 : Int64)))])
    refine Goes.go (fun _ => XS.ifYes S.here B.x rfl (pc0 := 260) (pc' := 268) rfl (B.d at_260) rfl ((if0 _ _).trans (flt (mt (lw_gt v34 (0 : Int64)).mp (show ¬ ((0 : Int64) < v34) from x0))).2.2.2) (by decide) (by decide)) ?_
    show Goes _ _ _ _ T (mkF me_ 268 #[.val (.long q0), .second, .val (.int p1), .val (.int p2), .val (.int p3), .val (.int p4), .val (.long v1), .second, .val (.long v2), .second, .val (.long v3), .second, .val (.long v4), .second, .val (.long v5), .second, .val (.long v6), .second, .val (.long v7), .second, .val (.long v8), .second, .val (.ref b9), .val (.long v31), .second, .val (.long v32), .second, .val (.long v33), .second, .val (.long v34), .second, .val (.int (((bi ((0 : Int64) < v34)) + (bi ((0 : Int64) < v33))) + (bi ((0 : Int64) < v32)))), .val (.long v36), .second, .unset, .unset, .unset, .unset, .unset, .unset] [])
    refine Goes.go (fun _ => XS.lload S.here B.x rfl (B.d at_268) rfl) ?_
    show Goes _ _ _ _ T (mkF me_ 270 #[.val (.long q0), .second, .val (.int p1), .val (.int p2), .val (.int p3), .val (.int p4), .val (.long v1), .second, .val (.long v2), .second, .val (.long v3), .second, .val (.long v4), .second, .val (.long v5), .second, .val (.long v6), .second, .val (.long v7), .second, .val (.long v8), .second, .val (.ref b9), .val (.long v31), .second, .val (.long v32), .second, .val (.long v33), .second, .val (.long v34), .second, .val (.int (((bi ((0 : Int64) < v34)) + (bi ((0 : Int64) < v33))) + (bi ((0 : Int64) < v32)))), .val (.long v36), .second, .unset, .unset, .unset, .unset, .unset, .unset] [(.long v33)])
    refine Goes.go (fun _ => XS.lconst S.here B.x rfl (B.d at_270)) ?_
    show Goes _ _ _ _ T (mkF me_ 271 #[.val (.long q0), .second, .val (.int p1), .val (.int p2), .val (.int p3), .val (.int p4), .val (.long v1), .second, .val (.long v2), .second, .val (.long v3), .second, .val (.long v4), .second, .val (.long v5), .second, .val (.long v6), .second, .val (.long v7), .second, .val (.long v8), .second, .val (.ref b9), .val (.long v31), .second, .val (.long v32), .second, .val (.long v33), .second, .val (.long v34), .second, .val (.int (((bi ((0 : Int64) < v34)) + (bi ((0 : Int64) < v33))) + (bi ((0 : Int64) < v32)))), .val (.long v36), .second, .unset, .unset, .unset, .unset, .unset, .unset] [(.long (0 : Int64)), (.long v33)])
    refine Goes.go (fun _ => XS.lcmp S.here B.x rfl (B.d at_271) rfl) ?_
    show Goes _ _ _ _ T (mkF me_ 272 #[.val (.long q0), .second, .val (.int p1), .val (.int p2), .val (.int p3), .val (.int p4), .val (.long v1), .second, .val (.long v2), .second, .val (.long v3), .second, .val (.long v4), .second, .val (.long v5), .second, .val (.long v6), .second, .val (.long v7), .second, .val (.long v8), .second, .val (.ref b9), .val (.long v31), .second, .val (.long v32), .second, .val (.long v33), .second, .val (.long v34), .second, .val (.int (((bi ((0 : Int64) < v34)) + (bi ((0 : Int64) < v33))) + (bi ((0 : Int64) < v32)))), .val (.long v36), .second, .unset, .unset, .unset, .unset, .unset, .unset] [(.int (lcmpW v33 (0 : Int64)))])
    refine Goes.go (fun _ => XS.ifNo S.here B.x rfl (B.d at_272) rfl ((if0 _ _).trans (tlt ((lw_gt v33 (0 : Int64)).mpr (show (0 : Int64) < v33 from x1))).2.2.2)) ?_
    show Goes _ _ _ _ T (mkF me_ 275 #[.val (.long q0), .second, .val (.int p1), .val (.int p2), .val (.int p3), .val (.int p4), .val (.long v1), .second, .val (.long v2), .second, .val (.long v3), .second, .val (.long v4), .second, .val (.long v5), .second, .val (.long v6), .second, .val (.long v7), .second, .val (.long v8), .second, .val (.ref b9), .val (.long v31), .second, .val (.long v32), .second, .val (.long v33), .second, .val (.long v34), .second, .val (.int (((bi ((0 : Int64) < v34)) + (bi ((0 : Int64) < v33))) + (bi ((0 : Int64) < v32)))), .val (.long v36), .second, .unset, .unset, .unset, .unset, .unset, .unset] [])
    refine Goes.go (fun _ => XS.lload S.here B.x rfl (B.d at_275) rfl) ?_
    show Goes _ _ _ _ T (mkF me_ 277 #[.val (.long q0), .second, .val (.int p1), .val (.int p2), .val (.int p3), .val (.int p4), .val (.long v1), .second, .val (.long v2), .second, .val (.long v3), .second, .val (.long v4), .second, .val (.long v5), .second, .val (.long v6), .second, .val (.long v7), .second, .val (.long v8), .second, .val (.ref b9), .val (.long v31), .second, .val (.long v32), .second, .val (.long v33), .second, .val (.long v34), .second, .val (.int (((bi ((0 : Int64) < v34)) + (bi ((0 : Int64) < v33))) + (bi ((0 : Int64) < v32)))), .val (.long v36), .second, .unset, .unset, .unset, .unset, .unset, .unset] [(.long v2)])
    refine Goes.go (fun _ => XS.goto S.here B.x rfl (pc0 := 277) (pc' := 282) rfl (B.d at_277) (by decide) (by decide)) ?_
    show Goes _ _ _ _ T (mkF me_ 282 #[.val (.long q0), .second, .val (.int p1), .val (.int p2), .val (.int p3), .val (.int p4), .val (.long v1), .second, .val (.long v2), .second, .val (.long v3), .second, .val (.long v4), .second, .val (.long v5), .second, .val (.long v6), .second, .val (.long v7), .second, .val (.long v8), .second, .val (.ref b9), .val (.long v31), .second, .val (.long v32), .second, .val (.long v33), .second, .val (.long v34), .second, .val (.int (((bi ((0 : Int64) < v34)) + (bi ((0 : Int64) < v33))) + (bi ((0 : Int64) < v32)))), .val (.long v36), .second, .unset, .unset, .unset, .unset, .unset, .unset] [(.long v2)])
    refine Goes.go (fun _ => XS.lstore (g := (mkF me_ 282 #[.val (.long q0), .second, .val (.int p1), .val (.int p2), .val (.int p3), .val (.int p4), .val (.long v1), .second, .val (.long v2), .second, .val (.long v3), .second, .val (.long v4), .second, .val (.long v5), .second, .val (.long v6), .second, .val (.long v7), .second, .val (.long v8), .second, .val (.ref b9), .val (.long v31), .second, .val (.long v32), .second, .val (.long v33), .second, .val (.long v34), .second, .val (.int (((bi ((0 : Int64) < v34)) + (bi ((0 : Int64) < v33))) + (bi ((0 : Int64) < v32)))), .val (.long v36), .second, .unset, .unset, .unset, .unset, .unset, .unset] [(.long v2)])) S.here B.x rfl (B.d at_282) rfl (l' := #[.val (.long q0), .second, .val (.int p1), .val (.int p2), .val (.int p3), .val (.int p4), .val (.long v1), .second, .val (.long v2), .second, .val (.long v3), .second, .val (.long v4), .second, .val (.long v5), .second, .val (.long v6), .second, .val (.long v7), .second, .val (.long v8), .second, .val (.ref b9), .val (.long v31), .second, .val (.long v32), .second, .val (.long v33), .second, .val (.long v34), .second, .val (.int (((bi ((0 : Int64) < v34)) + (bi ((0 : Int64) < v33))) + (bi ((0 : Int64) < v32)))), .val (.long v36), .second, .val (.long v2), .second, .unset, .unset, .unset, .unset]) rfl) ?_
    show Goes _ _ _ _ T (mkF me_ 284 #[.val (.long q0), .second, .val (.int p1), .val (.int p2), .val (.int p3), .val (.int p4), .val (.long v1), .second, .val (.long v2), .second, .val (.long v3), .second, .val (.long v4), .second, .val (.long v5), .second, .val (.long v6), .second, .val (.long v7), .second, .val (.long v8), .second, .val (.ref b9), .val (.long v31), .second, .val (.long v32), .second, .val (.long v33), .second, .val (.long v34), .second, .val (.int (((bi ((0 : Int64) < v34)) + (bi ((0 : Int64) < v33))) + (bi ((0 : Int64) < v32)))), .val (.long v36), .second, .val (.long v2), .second, .unset, .unset, .unset, .unset] [])
    refine Goes.go (fun _ => XS.lload S.here B.x rfl (B.d at_284) rfl) ?_
    show Goes _ _ _ _ T (mkF me_ 286 #[.val (.long q0), .second, .val (.int p1), .val (.int p2), .val (.int p3), .val (.int p4), .val (.long v1), .second, .val (.long v2), .second, .val (.long v3), .second, .val (.long v4), .second, .val (.long v5), .second, .val (.long v6), .second, .val (.long v7), .second, .val (.long v8), .second, .val (.ref b9), .val (.long v31), .second, .val (.long v32), .second, .val (.long v33), .second, .val (.long v34), .second, .val (.int (((bi ((0 : Int64) < v34)) + (bi ((0 : Int64) < v33))) + (bi ((0 : Int64) < v32)))), .val (.long v36), .second, .val (.long v2), .second, .unset, .unset, .unset, .unset] [(.long v34)])
    refine Goes.go (fun _ => XS.lconst S.here B.x rfl (B.d at_286)) ?_
    show Goes _ _ _ _ T (mkF me_ 287 #[.val (.long q0), .second, .val (.int p1), .val (.int p2), .val (.int p3), .val (.int p4), .val (.long v1), .second, .val (.long v2), .second, .val (.long v3), .second, .val (.long v4), .second, .val (.long v5), .second, .val (.long v6), .second, .val (.long v7), .second, .val (.long v8), .second, .val (.ref b9), .val (.long v31), .second, .val (.long v32), .second, .val (.long v33), .second, .val (.long v34), .second, .val (.int (((bi ((0 : Int64) < v34)) + (bi ((0 : Int64) < v33))) + (bi ((0 : Int64) < v32)))), .val (.long v36), .second, .val (.long v2), .second, .unset, .unset, .unset, .unset] [(.long (0 : Int64)), (.long v34)])
    refine Goes.go (fun _ => XS.lcmp S.here B.x rfl (B.d at_287) rfl) ?_
    show Goes _ _ _ _ T (mkF me_ 288 #[.val (.long q0), .second, .val (.int p1), .val (.int p2), .val (.int p3), .val (.int p4), .val (.long v1), .second, .val (.long v2), .second, .val (.long v3), .second, .val (.long v4), .second, .val (.long v5), .second, .val (.long v6), .second, .val (.long v7), .second, .val (.long v8), .second, .val (.ref b9), .val (.long v31), .second, .val (.long v32), .second, .val (.long v33), .second, .val (.long v34), .second, .val (.int (((bi ((0 : Int64) < v34)) + (bi ((0 : Int64) < v33))) + (bi ((0 : Int64) < v32)))), .val (.long v36), .second, .val (.long v2), .second, .unset, .unset, .unset, .unset] [(.int (lcmpW v34 (0 : Int64)))])
    refine Goes.go (fun _ => XS.ifYes S.here B.x rfl (pc0 := 288) (pc' := 296) rfl (B.d at_288) rfl ((if0 _ _).trans (flt (mt (lw_gt v34 (0 : Int64)).mp (show ¬ ((0 : Int64) < v34) from x0))).2.2.2) (by decide) (by decide)) ?_
    show Goes _ _ _ _ T (mkF me_ 296 #[.val (.long q0), .second, .val (.int p1), .val (.int p2), .val (.int p3), .val (.int p4), .val (.long v1), .second, .val (.long v2), .second, .val (.long v3), .second, .val (.long v4), .second, .val (.long v5), .second, .val (.long v6), .second, .val (.long v7), .second, .val (.long v8), .second, .val (.ref b9), .val (.long v31), .second, .val (.long v32), .second, .val (.long v33), .second, .val (.long v34), .second, .val (.int (((bi ((0 : Int64) < v34)) + (bi ((0 : Int64) < v33))) + (bi ((0 : Int64) < v32)))), .val (.long v36), .second, .val (.long v2), .second, .unset, .unset, .unset, .unset] [])
    refine Goes.go (fun _ => XS.lload S.here B.x rfl (B.d at_296) rfl) ?_
    show Goes _ _ _ _ T (mkF me_ 298 #[.val (.long q0), .second, .val (.int p1), .val (.int p2), .val (.int p3), .val (.int p4), .val (.long v1), .second, .val (.long v2), .second, .val (.long v3), .second, .val (.long v4), .second, .val (.long v5), .second, .val (.long v6), .second, .val (.long v7), .second, .val (.long v8), .second, .val (.ref b9), .val (.long v31), .second, .val (.long v32), .second, .val (.long v33), .second, .val (.long v34), .second, .val (.int (((bi ((0 : Int64) < v34)) + (bi ((0 : Int64) < v33))) + (bi ((0 : Int64) < v32)))), .val (.long v36), .second, .val (.long v2), .second, .unset, .unset, .unset, .unset] [(.long v33)])
    refine Goes.go (fun _ => XS.lconst S.here B.x rfl (B.d at_298)) ?_
    show Goes _ _ _ _ T (mkF me_ 299 #[.val (.long q0), .second, .val (.int p1), .val (.int p2), .val (.int p3), .val (.int p4), .val (.long v1), .second, .val (.long v2), .second, .val (.long v3), .second, .val (.long v4), .second, .val (.long v5), .second, .val (.long v6), .second, .val (.long v7), .second, .val (.long v8), .second, .val (.ref b9), .val (.long v31), .second, .val (.long v32), .second, .val (.long v33), .second, .val (.long v34), .second, .val (.int (((bi ((0 : Int64) < v34)) + (bi ((0 : Int64) < v33))) + (bi ((0 : Int64) < v32)))), .val (.long v36), .second, .val (.long v2), .second, .unset, .unset, .unset, .unset] [(.long (0 : Int64)), (.long v33)])
    refine Goes.go (fun _ => XS.lcmp S.here B.x rfl (B.d at_299) rfl) ?_
    show Goes _ _ _ _ T (mkF me_ 300 #[.val (.long q0), .second, .val (.int p1), .val (.int p2), .val (.int p3), .val (.int p4), .val (.long v1), .second, .val (.long v2), .second, .val (.long v3), .second, .val (.long v4), .second, .val (.long v5), .second, .val (.long v6), .second, .val (.long v7), .second, .val (.long v8), .second, .val (.ref b9), .val (.long v31), .second, .val (.long v32), .second, .val (.long v33), .second, .val (.long v34), .second, .val (.int (((bi ((0 : Int64) < v34)) + (bi ((0 : Int64) < v33))) + (bi ((0 : Int64) < v32)))), .val (.long v36), .second, .val (.long v2), .second, .unset, .unset, .unset, .unset] [(.int (lcmpW v33 (0 : Int64)))])
    refine Goes.go (fun _ => XS.ifNo S.here B.x rfl (B.d at_300) rfl ((if0 _ _).trans (tlt ((lw_gt v33 (0 : Int64)).mpr (show (0 : Int64) < v33 from x1))).2.2.2)) ?_
    show Goes _ _ _ _ T (mkF me_ 303 #[.val (.long q0), .second, .val (.int p1), .val (.int p2), .val (.int p3), .val (.int p4), .val (.long v1), .second, .val (.long v2), .second, .val (.long v3), .second, .val (.long v4), .second, .val (.long v5), .second, .val (.long v6), .second, .val (.long v7), .second, .val (.long v8), .second, .val (.ref b9), .val (.long v31), .second, .val (.long v32), .second, .val (.long v33), .second, .val (.long v34), .second, .val (.int (((bi ((0 : Int64) < v34)) + (bi ((0 : Int64) < v33))) + (bi ((0 : Int64) < v32)))), .val (.long v36), .second, .val (.long v2), .second, .unset, .unset, .unset, .unset] [])
    refine Goes.go (fun _ => XS.lload S.here B.x rfl (B.d at_303) rfl) ?_
    show Goes _ _ _ _ T (mkF me_ 305 #[.val (.long q0), .second, .val (.int p1), .val (.int p2), .val (.int p3), .val (.int p4), .val (.long v1), .second, .val (.long v2), .second, .val (.long v3), .second, .val (.long v4), .second, .val (.long v5), .second, .val (.long v6), .second, .val (.long v7), .second, .val (.long v8), .second, .val (.ref b9), .val (.long v31), .second, .val (.long v32), .second, .val (.long v33), .second, .val (.long v34), .second, .val (.int (((bi ((0 : Int64) < v34)) + (bi ((0 : Int64) < v33))) + (bi ((0 : Int64) < v32)))), .val (.long v36), .second, .val (.long v2), .second, .unset, .unset, .unset, .unset] [(.long v33)])
    refine Goes.go (fun _ => XS.goto S.here B.x rfl (pc0 := 305) (pc' := 310) rfl (B.d at_305) (by decide) (by decide)) ?_
    show Goes _ _ _ _ T (mkF me_ 310 #[.val (.long q0), .second, .val (.int p1), .val (.int p2), .val (.int p3), .val (.int p4), .val (.long v1), .second, .val (.long v2), .second, .val (.long v3), .second, .val (.long v4), .second, .val (.long v5), .second, .val (.long v6), .second, .val (.long v7), .second, .val (.long v8), .second, .val (.ref b9), .val (.long v31), .second, .val (.long v32), .second, .val (.long v33), .second, .val (.long v34), .second, .val (.int (((bi ((0 : Int64) < v34)) + (bi ((0 : Int64) < v33))) + (bi ((0 : Int64) < v32)))), .val (.long v36), .second, .val (.long v2), .second, .unset, .unset, .unset, .unset] [(.long v33)])
    refine Goes.go (fun _ => XS.lstore (g := (mkF me_ 310 #[.val (.long q0), .second, .val (.int p1), .val (.int p2), .val (.int p3), .val (.int p4), .val (.long v1), .second, .val (.long v2), .second, .val (.long v3), .second, .val (.long v4), .second, .val (.long v5), .second, .val (.long v6), .second, .val (.long v7), .second, .val (.long v8), .second, .val (.ref b9), .val (.long v31), .second, .val (.long v32), .second, .val (.long v33), .second, .val (.long v34), .second, .val (.int (((bi ((0 : Int64) < v34)) + (bi ((0 : Int64) < v33))) + (bi ((0 : Int64) < v32)))), .val (.long v36), .second, .val (.long v2), .second, .unset, .unset, .unset, .unset] [(.long v33)])) S.here B.x rfl (B.d at_310) rfl (l' := #[.val (.long q0), .second, .val (.int p1), .val (.int p2), .val (.int p3), .val (.int p4), .val (.long v1), .second, .val (.long v2), .second, .val (.long v3), .second, .val (.long v4), .second, .val (.long v5), .second, .val (.long v6), .second, .val (.long v7), .second, .val (.long v8), .second, .val (.ref b9), .val (.long v31), .second, .val (.long v32), .second, .val (.long v33), .second, .val (.long v34), .second, .val (.int (((bi ((0 : Int64) < v34)) + (bi ((0 : Int64) < v33))) + (bi ((0 : Int64) < v32)))), .val (.long v36), .second, .val (.long v2), .second, .val (.long v33), .second, .unset, .unset]) rfl) ?_
    show Goes _ _ _ _ T (mkF me_ 312 #[.val (.long q0), .second, .val (.int p1), .val (.int p2), .val (.int p3), .val (.int p4), .val (.long v1), .second, .val (.long v2), .second, .val (.long v3), .second, .val (.long v4), .second, .val (.long v5), .second, .val (.long v6), .second, .val (.long v7), .second, .val (.long v8), .second, .val (.ref b9), .val (.long v31), .second, .val (.long v32), .second, .val (.long v33), .second, .val (.long v34), .second, .val (.int (((bi ((0 : Int64) < v34)) + (bi ((0 : Int64) < v33))) + (bi ((0 : Int64) < v32)))), .val (.long v36), .second, .val (.long v2), .second, .val (.long v33), .second, .unset, .unset] [])
    refine Goes.go (fun _ => XS.aload S.here B.x rfl (B.d at_312) rfl rfl) ?_
    show Goes _ _ _ _ T (mkF me_ 314 #[.val (.long q0), .second, .val (.int p1), .val (.int p2), .val (.int p3), .val (.int p4), .val (.long v1), .second, .val (.long v2), .second, .val (.long v3), .second, .val (.long v4), .second, .val (.long v5), .second, .val (.long v6), .second, .val (.long v7), .second, .val (.long v8), .second, .val (.ref b9), .val (.long v31), .second, .val (.long v32), .second, .val (.long v33), .second, .val (.long v34), .second, .val (.int (((bi ((0 : Int64) < v34)) + (bi ((0 : Int64) < v33))) + (bi ((0 : Int64) < v32)))), .val (.long v36), .second, .val (.long v2), .second, .val (.long v33), .second, .unset, .unset] [(.ref b9)])
    refine Goes.callV (argsL := []) (rest := []) (W := 0) S B (rm_oldest l Z aw hw b9 b10 u18 u26 _ n0 E_b9 F_b9_first F_b9_instants A_b10) E_b9 (w75 hw) (w76 hw) (w78 hw) (w77 hw) (w2 hw) (w79 hw) (by decide) (by decide) (by decide) (by decide) (by decide) rfl (lenOf pd_4 rfl) rfl (Nat.le_of_eq rfl) at_314 ?_
    intro v T h S hQ
    obtain ⟨rfl, hh⟩ := hQ
    replace hh := hh.symm
    subst hh
    show Goes _ _ _ _ T (mkF me_ 317 #[.val (.long q0), .second, .val (.int p1), .val (.int p2), .val (.int p3), .val (.int p4), .val (.long v1), .second, .val (.long v2), .second, .val (.long v3), .second, .val (.long v4), .second, .val (.long v5), .second, .val (.long v6), .second, .val (.long v7), .second, .val (.long v8), .second, .val (.ref b9), .val (.long v31), .second, .val (.long v32), .second, .val (.long v33), .second, .val (.long v34), .second, .val (.int (((bi ((0 : Int64) < v34)) + (bi ((0 : Int64) < v33))) + (bi ((0 : Int64) < v32)))), .val (.long v36), .second, .val (.long v2), .second, .val (.long v33), .second, .unset, .unset] [(.long (u18 ((u26 + (0 : Int32)) &&& (3 : Int32)).toNatClampNeg))])
    rw [show (u18 ((u26 + (0 : Int32)) &&& (3 : Int32)).toNatClampNeg) = v2 from own_get (p := 0) (i := 0) hQ2_126 own_e0 (by rw [eT]; rfl)]
    show Goes _ _ _ _ T (mkF me_ 317 #[.val (.long q0), .second, .val (.int p1), .val (.int p2), .val (.int p3), .val (.int p4), .val (.long v1), .second, .val (.long v2), .second, .val (.long v3), .second, .val (.long v4), .second, .val (.long v5), .second, .val (.long v6), .second, .val (.long v7), .second, .val (.long v8), .second, .val (.ref b9), .val (.long v31), .second, .val (.long v32), .second, .val (.long v33), .second, .val (.long v34), .second, .val (.int (((bi ((0 : Int64) < v34)) + (bi ((0 : Int64) < v33))) + (bi ((0 : Int64) < v32)))), .val (.long v36), .second, .val (.long v2), .second, .val (.long v33), .second, .unset, .unset] [(.long v2)])
    refine Goes.go (fun _ => XS.lstore (g := (mkF me_ 317 #[.val (.long q0), .second, .val (.int p1), .val (.int p2), .val (.int p3), .val (.int p4), .val (.long v1), .second, .val (.long v2), .second, .val (.long v3), .second, .val (.long v4), .second, .val (.long v5), .second, .val (.long v6), .second, .val (.long v7), .second, .val (.long v8), .second, .val (.ref b9), .val (.long v31), .second, .val (.long v32), .second, .val (.long v33), .second, .val (.long v34), .second, .val (.int (((bi ((0 : Int64) < v34)) + (bi ((0 : Int64) < v33))) + (bi ((0 : Int64) < v32)))), .val (.long v36), .second, .val (.long v2), .second, .val (.long v33), .second, .unset, .unset] [(.long v2)])) S.here B.x rfl (B.d at_317) rfl (l' := #[.val (.long q0), .second, .val (.int p1), .val (.int p2), .val (.int p3), .val (.int p4), .val (.long v1), .second, .val (.long v2), .second, .val (.long v3), .second, .val (.long v4), .second, .val (.long v5), .second, .val (.long v6), .second, .val (.long v7), .second, .val (.long v8), .second, .val (.ref b9), .val (.long v31), .second, .val (.long v32), .second, .val (.long v33), .second, .val (.long v34), .second, .val (.int (((bi ((0 : Int64) < v34)) + (bi ((0 : Int64) < v33))) + (bi ((0 : Int64) < v32)))), .val (.long v36), .second, .val (.long v2), .second, .val (.long v33), .second, .val (.long v2), .second]) rfl) ?_
    show Goes _ _ _ _ T (mkF me_ 319 #[.val (.long q0), .second, .val (.int p1), .val (.int p2), .val (.int p3), .val (.int p4), .val (.long v1), .second, .val (.long v2), .second, .val (.long v3), .second, .val (.long v4), .second, .val (.long v5), .second, .val (.long v6), .second, .val (.long v7), .second, .val (.long v8), .second, .val (.ref b9), .val (.long v31), .second, .val (.long v32), .second, .val (.long v33), .second, .val (.long v34), .second, .val (.int (((bi ((0 : Int64) < v34)) + (bi ((0 : Int64) < v33))) + (bi ((0 : Int64) < v32)))), .val (.long v36), .second, .val (.long v2), .second, .val (.long v33), .second, .val (.long v2), .second] [])
    refine Goes.go (fun _ => XS.lload S.here B.x rfl (B.d at_319) rfl) ?_
    show Goes _ _ _ _ T (mkF me_ 321 #[.val (.long q0), .second, .val (.int p1), .val (.int p2), .val (.int p3), .val (.int p4), .val (.long v1), .second, .val (.long v2), .second, .val (.long v3), .second, .val (.long v4), .second, .val (.long v5), .second, .val (.long v6), .second, .val (.long v7), .second, .val (.long v8), .second, .val (.ref b9), .val (.long v31), .second, .val (.long v32), .second, .val (.long v33), .second, .val (.long v34), .second, .val (.int (((bi ((0 : Int64) < v34)) + (bi ((0 : Int64) < v33))) + (bi ((0 : Int64) < v32)))), .val (.long v36), .second, .val (.long v2), .second, .val (.long v33), .second, .val (.long v2), .second] [(.long v2)])
    refine Goes.go (fun _ => XS.lload S.here B.x rfl (B.d at_321) rfl) ?_
    show Goes _ _ _ _ T (mkF me_ 323 #[.val (.long q0), .second, .val (.int p1), .val (.int p2), .val (.int p3), .val (.int p4), .val (.long v1), .second, .val (.long v2), .second, .val (.long v3), .second, .val (.long v4), .second, .val (.long v5), .second, .val (.long v6), .second, .val (.long v7), .second, .val (.long v8), .second, .val (.ref b9), .val (.long v31), .second, .val (.long v32), .second, .val (.long v33), .second, .val (.long v34), .second, .val (.int (((bi ((0 : Int64) < v34)) + (bi ((0 : Int64) < v33))) + (bi ((0 : Int64) < v32)))), .val (.long v36), .second, .val (.long v2), .second, .val (.long v33), .second, .val (.long v2), .second] [(.long v2), (.long v2)])
    refine Goes.go (fun _ => XS.lcmp S.here B.x rfl (B.d at_323) rfl) ?_
    show Goes _ _ _ _ T (mkF me_ 324 #[.val (.long q0), .second, .val (.int p1), .val (.int p2), .val (.int p3), .val (.int p4), .val (.long v1), .second, .val (.long v2), .second, .val (.long v3), .second, .val (.long v4), .second, .val (.long v5), .second, .val (.long v6), .second, .val (.long v7), .second, .val (.long v8), .second, .val (.ref b9), .val (.long v31), .second, .val (.long v32), .second, .val (.long v33), .second, .val (.long v34), .second, .val (.int (((bi ((0 : Int64) < v34)) + (bi ((0 : Int64) < v33))) + (bi ((0 : Int64) < v32)))), .val (.long v36), .second, .val (.long v2), .second, .val (.long v33), .second, .val (.long v2), .second] [(.int (lcmpW v2 v2))])
    refine Goes.go (fun _ => XS.ifYes S.here B.x rfl (pc0 := 324) (pc' := 329) rfl (B.d at_324) rfl ((if0 _ _).trans (teq ((lw_eq v2 v2).mpr (rfl : v2 = v2))).1) (by decide) (by decide)) ?_
    show Goes _ _ _ _ T (mkF me_ 329 #[.val (.long q0), .second, .val (.int p1), .val (.int p2), .val (.int p3), .val (.int p4), .val (.long v1), .second, .val (.long v2), .second, .val (.long v3), .second, .val (.long v4), .second, .val (.long v5), .second, .val (.long v6), .second, .val (.long v7), .second, .val (.long v8), .second, .val (.ref b9), .val (.long v31), .second, .val (.long v32), .second, .val (.long v33), .second, .val (.long v34), .second, .val (.int (((bi ((0 : Int64) < v34)) + (bi ((0 : Int64) < v33))) + (bi ((0 : Int64) < v32)))), .val (.long v36), .second, .val (.long v2), .second, .val (.long v33), .second, .val (.long v2), .second] [])
    refine Goes.go (fun _ => XS.lload S.here B.x rfl (B.d at_329) rfl) ?_
    show Goes _ _ _ _ T (mkF me_ 331 #[.val (.long q0), .second, .val (.int p1), .val (.int p2), .val (.int p3), .val (.int p4), .val (.long v1), .second, .val (.long v2), .second, .val (.long v3), .second, .val (.long v4), .second, .val (.long v5), .second, .val (.long v6), .second, .val (.long v7), .second, .val (.long v8), .second, .val (.ref b9), .val (.long v31), .second, .val (.long v32), .second, .val (.long v33), .second, .val (.long v34), .second, .val (.int (((bi ((0 : Int64) < v34)) + (bi ((0 : Int64) < v33))) + (bi ((0 : Int64) < v32)))), .val (.long v36), .second, .val (.long v2), .second, .val (.long v33), .second, .val (.long v2), .second] [(.long v36)])
    refine Goes.go (fun _ => XS.aload S.here B.x rfl (B.d at_331) rfl rfl) ?_
    show Goes _ _ _ _ T (mkF me_ 333 #[.val (.long q0), .second, .val (.int p1), .val (.int p2), .val (.int p3), .val (.int p4), .val (.long v1), .second, .val (.long v2), .second, .val (.long v3), .second, .val (.long v4), .second, .val (.long v5), .second, .val (.long v6), .second, .val (.long v7), .second, .val (.long v8), .second, .val (.ref b9), .val (.long v31), .second, .val (.long v32), .second, .val (.long v33), .second, .val (.long v34), .second, .val (.int (((bi ((0 : Int64) < v34)) + (bi ((0 : Int64) < v33))) + (bi ((0 : Int64) < v32)))), .val (.long v36), .second, .val (.long v2), .second, .val (.long v33), .second, .val (.long v2), .second] [(.ref b9), (.long v36)])
    refine Goes.go (fun _ => XS.lload S.here B.x rfl (B.d at_333) rfl) ?_
    show Goes _ _ _ _ T (mkF me_ 335 #[.val (.long q0), .second, .val (.int p1), .val (.int p2), .val (.int p3), .val (.int p4), .val (.long v1), .second, .val (.long v2), .second, .val (.long v3), .second, .val (.long v4), .second, .val (.long v5), .second, .val (.long v6), .second, .val (.long v7), .second, .val (.long v8), .second, .val (.ref b9), .val (.long v31), .second, .val (.long v32), .second, .val (.long v33), .second, .val (.long v34), .second, .val (.int (((bi ((0 : Int64) < v34)) + (bi ((0 : Int64) < v33))) + (bi ((0 : Int64) < v32)))), .val (.long v36), .second, .val (.long v2), .second, .val (.long v33), .second, .val (.long v2), .second] [(.long v2), (.ref b9), (.long v36)])
    refine Goes.ldcL S B (w80 hw) at_335 ?_
    show Goes _ _ _ _ T (mkF me_ 338 #[.val (.long q0), .second, .val (.int p1), .val (.int p2), .val (.int p3), .val (.int p4), .val (.long v1), .second, .val (.long v2), .second, .val (.long v3), .second, .val (.long v4), .second, .val (.long v5), .second, .val (.long v6), .second, .val (.long v7), .second, .val (.long v8), .second, .val (.ref b9), .val (.long v31), .second, .val (.long v32), .second, .val (.long v33), .second, .val (.long v34), .second, .val (.int (((bi ((0 : Int64) < v34)) + (bi ((0 : Int64) < v33))) + (bi ((0 : Int64) < v32)))), .val (.long v36), .second, .val (.long v2), .second, .val (.long v33), .second, .val (.long v2), .second] [(.long (9223372036854775807 : Int64)), (.long v2), (.ref b9), (.long v36)])
    refine Goes.callV (argsL := [(.long v2), (.long (9223372036854775807 : Int64))]) (rest := [(.long v36)]) (W := 2) S B (rm_count l Z aw hw b9 v2 (9223372036854775807 : Int64) b10 b11 u18 u19 u26 u27 u28 u29 _ n0 E_b9 F_b9_instants F_b9_lastNumbers F_b9_first F_b9_size F_b9_dropped A_b10 A_b11 hQ2_126 hs2_126 (own_S2 eT hlt2)) E_b9 (w81 hw) (w82 hw) (w84 hw) (w83 hw) (w2 hw) (w85 hw) (by decide) (by decide) (by decide) (by decide) (by decide) rfl (lenOf pd_8 rfl) rfl (Nat.le_of_eq rfl) at_338 ?_
    intro v T h S hQ
    obtain ⟨rfl, hh⟩ := hQ
    replace hh := hh.symm
    subst hh
    show Goes _ _ _ _ T (mkF me_ 341 #[.val (.long q0), .second, .val (.int p1), .val (.int p2), .val (.int p3), .val (.int p4), .val (.long v1), .second, .val (.long v2), .second, .val (.long v3), .second, .val (.long v4), .second, .val (.long v5), .second, .val (.long v6), .second, .val (.long v7), .second, .val (.long v8), .second, .val (.ref b9), .val (.long v31), .second, .val (.long v32), .second, .val (.long v33), .second, .val (.long v34), .second, .val (.int (((bi ((0 : Int64) < v34)) + (bi ((0 : Int64) < v33))) + (bi ((0 : Int64) < v32)))), .val (.long v36), .second, .val (.long v2), .second, .val (.long v33), .second, .val (.long v2), .second] [(.long (own_cnt (own_fa u27 u29 v2) ((Int32.ofNat (own_pos u29 (9223372036854775807 : Int64))) - (1 : Int32)) u26 u28 u19)), (.long v36)])
    refine Goes.go (fun _ => XS.lsub S.here B.x rfl (B.d at_341) rfl) ?_
    show Goes _ _ _ _ T (mkF me_ 342 #[.val (.long q0), .second, .val (.int p1), .val (.int p2), .val (.int p3), .val (.int p4), .val (.long v1), .second, .val (.long v2), .second, .val (.long v3), .second, .val (.long v4), .second, .val (.long v5), .second, .val (.long v6), .second, .val (.long v7), .second, .val (.long v8), .second, .val (.ref b9), .val (.long v31), .second, .val (.long v32), .second, .val (.long v33), .second, .val (.long v34), .second, .val (.int (((bi ((0 : Int64) < v34)) + (bi ((0 : Int64) < v33))) + (bi ((0 : Int64) < v32)))), .val (.long v36), .second, .val (.long v2), .second, .val (.long v33), .second, .val (.long v2), .second] [(.long (v36 - (own_cnt (own_fa u27 u29 v2) ((Int32.ofNat (own_pos u29 (9223372036854775807 : Int64))) - (1 : Int32)) u26 u28 u19)))])
    refine Goes.go (fun _ => XS.lload S.here B.x rfl (B.d at_342) rfl) ?_
    show Goes _ _ _ _ T (mkF me_ 344 #[.val (.long q0), .second, .val (.int p1), .val (.int p2), .val (.int p3), .val (.int p4), .val (.long v1), .second, .val (.long v2), .second, .val (.long v3), .second, .val (.long v4), .second, .val (.long v5), .second, .val (.long v6), .second, .val (.long v7), .second, .val (.long v8), .second, .val (.ref b9), .val (.long v31), .second, .val (.long v32), .second, .val (.long v33), .second, .val (.long v34), .second, .val (.int (((bi ((0 : Int64) < v34)) + (bi ((0 : Int64) < v33))) + (bi ((0 : Int64) < v32)))), .val (.long v36), .second, .val (.long v2), .second, .val (.long v33), .second, .val (.long v2), .second] [(.long v33), (.long (v36 - (own_cnt (own_fa u27 u29 v2) ((Int32.ofNat (own_pos u29 (9223372036854775807 : Int64))) - (1 : Int32)) u26 u28 u19)))])
    refine Goes.go (fun _ => XS.lcmp S.here B.x rfl (B.d at_344) rfl) ?_
    show Goes _ _ _ _ T (mkF me_ 345 #[.val (.long q0), .second, .val (.int p1), .val (.int p2), .val (.int p3), .val (.int p4), .val (.long v1), .second, .val (.long v2), .second, .val (.long v3), .second, .val (.long v4), .second, .val (.long v5), .second, .val (.long v6), .second, .val (.long v7), .second, .val (.long v8), .second, .val (.ref b9), .val (.long v31), .second, .val (.long v32), .second, .val (.long v33), .second, .val (.long v34), .second, .val (.int (((bi ((0 : Int64) < v34)) + (bi ((0 : Int64) < v33))) + (bi ((0 : Int64) < v32)))), .val (.long v36), .second, .val (.long v2), .second, .val (.long v33), .second, .val (.long v2), .second] [(.int (lcmpW (v36 - (own_cnt (own_fa u27 u29 v2) ((Int32.ofNat (own_pos u29 (9223372036854775807 : Int64))) - (1 : Int32)) u26 u28 u19)) v33))])
    refine Goes.go (fun _ => XS.ifNo S.here B.x rfl (B.d at_345) rfl ((if0 _ _).trans (teq ((lw_eq (v36 - (own_cnt (own_fa u27 u29 v2) ((Int32.ofNat (own_pos u29 (9223372036854775807 : Int64))) - (1 : Int32)) u26 u28 u19)) v33).mpr (show (v36 - (own_cnt (own_fa u27 u29 v2) ((Int32.ofNat (own_pos u29 (9223372036854775807 : Int64))) - (1 : Int32)) u26 u28 u19)) = v33 from own_fA2 eT eN hN2_126 hlt2 hbd hv36 xr))).2)) ?_
    show Goes _ _ _ _ T (mkF me_ 348 #[.val (.long q0), .second, .val (.int p1), .val (.int p2), .val (.int p3), .val (.int p4), .val (.long v1), .second, .val (.long v2), .second, .val (.long v3), .second, .val (.long v4), .second, .val (.long v5), .second, .val (.long v6), .second, .val (.long v7), .second, .val (.long v8), .second, .val (.ref b9), .val (.long v31), .second, .val (.long v32), .second, .val (.long v33), .second, .val (.long v34), .second, .val (.int (((bi ((0 : Int64) < v34)) + (bi ((0 : Int64) < v33))) + (bi ((0 : Int64) < v32)))), .val (.long v36), .second, .val (.long v2), .second, .val (.long v33), .second, .val (.long v2), .second] [])
    refine Goes.go (fun _ => XS.iconst S.here B.x rfl (B.d at_348)) ?_
    show Goes _ _ _ _ T (mkF me_ 349 #[.val (.long q0), .second, .val (.int p1), .val (.int p2), .val (.int p3), .val (.int p4), .val (.long v1), .second, .val (.long v2), .second, .val (.long v3), .second, .val (.long v4), .second, .val (.long v5), .second, .val (.long v6), .second, .val (.long v7), .second, .val (.long v8), .second, .val (.ref b9), .val (.long v31), .second, .val (.long v32), .second, .val (.long v33), .second, .val (.long v34), .second, .val (.int (((bi ((0 : Int64) < v34)) + (bi ((0 : Int64) < v33))) + (bi ((0 : Int64) < v32)))), .val (.long v36), .second, .val (.long v2), .second, .val (.long v33), .second, .val (.long v2), .second] [(.int (1 : Int32))])
    refine Goes.go (fun _ => XS.goto S.here B.x rfl (pc0 := 349) (pc' := 353) rfl (B.d at_349) (by decide) (by decide)) ?_
    show Goes _ _ _ _ T (mkF me_ 353 #[.val (.long q0), .second, .val (.int p1), .val (.int p2), .val (.int p3), .val (.int p4), .val (.long v1), .second, .val (.long v2), .second, .val (.long v3), .second, .val (.long v4), .second, .val (.long v5), .second, .val (.long v6), .second, .val (.long v7), .second, .val (.long v8), .second, .val (.ref b9), .val (.long v31), .second, .val (.long v32), .second, .val (.long v33), .second, .val (.long v34), .second, .val (.int (((bi ((0 : Int64) < v34)) + (bi ((0 : Int64) < v33))) + (bi ((0 : Int64) < v32)))), .val (.long v36), .second, .val (.long v2), .second, .val (.long v33), .second, .val (.long v2), .second] [(.int (1 : Int32))])
    refine Goes.retN S B (by simp) at_353 (by decide) (by decide) ?_
    exact rfl
  · skip
    show Goes _ _ _ _ T (mkF me_ 174 #[.val (.long q0), .second, .val (.int p1), .val (.int p2), .val (.int p3), .val (.int p4), .val (.long v1), .second, .val (.long v2), .second, .val (.long v3), .second, .val (.long v4), .second, .val (.long v5), .second, .val (.long v6), .second, .val (.long v7), .second, .val (.long v8), .second, .val (.ref b9), .val (.long v31), .second, .val (.long v32), .second, .val (.long v33), .second, .val (.long v34), .second, .unset, .unset, .unset, .unset, .unset, .unset, .unset, .unset, .unset] [])
    refine Goes.go (fun _ => XS.lload S.here B.x rfl (B.d at_174) rfl) ?_
    show Goes _ _ _ _ T (mkF me_ 176 #[.val (.long q0), .second, .val (.int p1), .val (.int p2), .val (.int p3), .val (.int p4), .val (.long v1), .second, .val (.long v2), .second, .val (.long v3), .second, .val (.long v4), .second, .val (.long v5), .second, .val (.long v6), .second, .val (.long v7), .second, .val (.long v8), .second, .val (.ref b9), .val (.long v31), .second, .val (.long v32), .second, .val (.long v33), .second, .val (.long v34), .second, .unset, .unset, .unset, .unset, .unset, .unset, .unset, .unset, .unset] [(.long v34)])
    refine Goes.go (fun _ => XS.lconst S.here B.x rfl (B.d at_176)) ?_
    show Goes _ _ _ _ T (mkF me_ 177 #[.val (.long q0), .second, .val (.int p1), .val (.int p2), .val (.int p3), .val (.int p4), .val (.long v1), .second, .val (.long v2), .second, .val (.long v3), .second, .val (.long v4), .second, .val (.long v5), .second, .val (.long v6), .second, .val (.long v7), .second, .val (.long v8), .second, .val (.ref b9), .val (.long v31), .second, .val (.long v32), .second, .val (.long v33), .second, .val (.long v34), .second, .unset, .unset, .unset, .unset, .unset, .unset, .unset, .unset, .unset] [(.long (0 : Int64)), (.long v34)])
    refine Goes.go (fun _ => XS.lcmp S.here B.x rfl (B.d at_177) rfl) ?_
    show Goes _ _ _ _ T (mkF me_ 178 #[.val (.long q0), .second, .val (.int p1), .val (.int p2), .val (.int p3), .val (.int p4), .val (.long v1), .second, .val (.long v2), .second, .val (.long v3), .second, .val (.long v4), .second, .val (.long v5), .second, .val (.long v6), .second, .val (.long v7), .second, .val (.long v8), .second, .val (.ref b9), .val (.long v31), .second, .val (.long v32), .second, .val (.long v33), .second, .val (.long v34), .second, .unset, .unset, .unset, .unset, .unset, .unset, .unset, .unset, .unset] [(.int (lcmpW v34 (0 : Int64)))])
    refine Goes.dia (P := (0 : Int64) < v34) (mk := fun z => (mkF me_ 186 #[.val (.long q0), .second, .val (.int p1), .val (.int p2), .val (.int p3), .val (.int p4), .val (.long v1), .second, .val (.long v2), .second, .val (.long v3), .second, .val (.long v4), .second, .val (.long v5), .second, .val (.long v6), .second, .val (.long v7), .second, .val (.long v8), .second, .val (.ref b9), .val (.long v31), .second, .val (.long v32), .second, .val (.long v33), .second, .val (.long v34), .second, .unset, .unset, .unset, .unset, .unset, .unset, .unset, .unset, .unset] [(.int z)])) (fun hc178 kk => ?_) (fun hc178 kk => ?_) ?_
    · skip
      refine Goes.go (fun _ => XS.ifNo S.here B.x rfl (B.d at_178) rfl ((if0 _ _).trans (tlt ((lw_gt v34 (0 : Int64)).mpr hc178)).2.2.2)) ?_
      show Goes _ _ _ _ T (mkF me_ 181 #[.val (.long q0), .second, .val (.int p1), .val (.int p2), .val (.int p3), .val (.int p4), .val (.long v1), .second, .val (.long v2), .second, .val (.long v3), .second, .val (.long v4), .second, .val (.long v5), .second, .val (.long v6), .second, .val (.long v7), .second, .val (.long v8), .second, .val (.ref b9), .val (.long v31), .second, .val (.long v32), .second, .val (.long v33), .second, .val (.long v34), .second, .unset, .unset, .unset, .unset, .unset, .unset, .unset, .unset, .unset] [])
      refine Goes.go (fun _ => XS.iconst S.here B.x rfl (B.d at_181)) ?_
      show Goes _ _ _ _ T (mkF me_ 182 #[.val (.long q0), .second, .val (.int p1), .val (.int p2), .val (.int p3), .val (.int p4), .val (.long v1), .second, .val (.long v2), .second, .val (.long v3), .second, .val (.long v4), .second, .val (.long v5), .second, .val (.long v6), .second, .val (.long v7), .second, .val (.long v8), .second, .val (.ref b9), .val (.long v31), .second, .val (.long v32), .second, .val (.long v33), .second, .val (.long v34), .second, .unset, .unset, .unset, .unset, .unset, .unset, .unset, .unset, .unset] [(.int (1 : Int32))])
      refine Goes.go (fun _ => XS.goto S.here B.x rfl (pc0 := 182) (pc' := 186) rfl (B.d at_182) (by decide) (by decide)) ?_
      show Goes _ _ _ _ T (mkF me_ 186 #[.val (.long q0), .second, .val (.int p1), .val (.int p2), .val (.int p3), .val (.int p4), .val (.long v1), .second, .val (.long v2), .second, .val (.long v3), .second, .val (.long v4), .second, .val (.long v5), .second, .val (.long v6), .second, .val (.long v7), .second, .val (.long v8), .second, .val (.ref b9), .val (.long v31), .second, .val (.long v32), .second, .val (.long v33), .second, .val (.long v34), .second, .unset, .unset, .unset, .unset, .unset, .unset, .unset, .unset, .unset] [(.int (1 : Int32))])
      exact kk
    · skip
      refine Goes.go (fun _ => XS.ifYes S.here B.x rfl (pc0 := 178) (pc' := 185) rfl (B.d at_178) rfl ((if0 _ _).trans (flt (mt (lw_gt v34 (0 : Int64)).mp hc178)).2.2.2) (by decide) (by decide)) ?_
      show Goes _ _ _ _ T (mkF me_ 185 #[.val (.long q0), .second, .val (.int p1), .val (.int p2), .val (.int p3), .val (.int p4), .val (.long v1), .second, .val (.long v2), .second, .val (.long v3), .second, .val (.long v4), .second, .val (.long v5), .second, .val (.long v6), .second, .val (.long v7), .second, .val (.long v8), .second, .val (.ref b9), .val (.long v31), .second, .val (.long v32), .second, .val (.long v33), .second, .val (.long v34), .second, .unset, .unset, .unset, .unset, .unset, .unset, .unset, .unset, .unset] [])
      refine Goes.go (fun _ => XS.iconst S.here B.x rfl (B.d at_185)) ?_
      show Goes _ _ _ _ T (mkF me_ 186 #[.val (.long q0), .second, .val (.int p1), .val (.int p2), .val (.int p3), .val (.int p4), .val (.long v1), .second, .val (.long v2), .second, .val (.long v3), .second, .val (.long v4), .second, .val (.long v5), .second, .val (.long v6), .second, .val (.long v7), .second, .val (.long v8), .second, .val (.ref b9), .val (.long v31), .second, .val (.long v32), .second, .val (.long v33), .second, .val (.long v34), .second, .unset, .unset, .unset, .unset, .unset, .unset, .unset, .unset, .unset] [(.int (0 : Int32))])
      exact kk
    show Goes _ _ _ _ T (mkF me_ 186 #[.val (.long q0), .second, .val (.int p1), .val (.int p2), .val (.int p3), .val (.int p4), .val (.long v1), .second, .val (.long v2), .second, .val (.long v3), .second, .val (.long v4), .second, .val (.long v5), .second, .val (.long v6), .second, .val (.long v7), .second, .val (.long v8), .second, .val (.ref b9), .val (.long v31), .second, .val (.long v32), .second, .val (.long v33), .second, .val (.long v34), .second, .unset, .unset, .unset, .unset, .unset, .unset, .unset, .unset, .unset] [(.int (bi ((0 : Int64) < v34)))])
    refine Goes.go (fun _ => XS.lload S.here B.x rfl (B.d at_186) rfl) ?_
    show Goes _ _ _ _ T (mkF me_ 188 #[.val (.long q0), .second, .val (.int p1), .val (.int p2), .val (.int p3), .val (.int p4), .val (.long v1), .second, .val (.long v2), .second, .val (.long v3), .second, .val (.long v4), .second, .val (.long v5), .second, .val (.long v6), .second, .val (.long v7), .second, .val (.long v8), .second, .val (.ref b9), .val (.long v31), .second, .val (.long v32), .second, .val (.long v33), .second, .val (.long v34), .second, .unset, .unset, .unset, .unset, .unset, .unset, .unset, .unset, .unset] [(.long v33), (.int (bi ((0 : Int64) < v34)))])
    refine Goes.go (fun _ => XS.lconst S.here B.x rfl (B.d at_188)) ?_
    show Goes _ _ _ _ T (mkF me_ 189 #[.val (.long q0), .second, .val (.int p1), .val (.int p2), .val (.int p3), .val (.int p4), .val (.long v1), .second, .val (.long v2), .second, .val (.long v3), .second, .val (.long v4), .second, .val (.long v5), .second, .val (.long v6), .second, .val (.long v7), .second, .val (.long v8), .second, .val (.ref b9), .val (.long v31), .second, .val (.long v32), .second, .val (.long v33), .second, .val (.long v34), .second, .unset, .unset, .unset, .unset, .unset, .unset, .unset, .unset, .unset] [(.long (0 : Int64)), (.long v33), (.int (bi ((0 : Int64) < v34)))])
    refine Goes.go (fun _ => XS.lcmp S.here B.x rfl (B.d at_189) rfl) ?_
    show Goes _ _ _ _ T (mkF me_ 190 #[.val (.long q0), .second, .val (.int p1), .val (.int p2), .val (.int p3), .val (.int p4), .val (.long v1), .second, .val (.long v2), .second, .val (.long v3), .second, .val (.long v4), .second, .val (.long v5), .second, .val (.long v6), .second, .val (.long v7), .second, .val (.long v8), .second, .val (.ref b9), .val (.long v31), .second, .val (.long v32), .second, .val (.long v33), .second, .val (.long v34), .second, .unset, .unset, .unset, .unset, .unset, .unset, .unset, .unset, .unset] [(.int (lcmpW v33 (0 : Int64))), (.int (bi ((0 : Int64) < v34)))])
    refine Goes.dia (P := (0 : Int64) < v33) (mk := fun z => (mkF me_ 198 #[.val (.long q0), .second, .val (.int p1), .val (.int p2), .val (.int p3), .val (.int p4), .val (.long v1), .second, .val (.long v2), .second, .val (.long v3), .second, .val (.long v4), .second, .val (.long v5), .second, .val (.long v6), .second, .val (.long v7), .second, .val (.long v8), .second, .val (.ref b9), .val (.long v31), .second, .val (.long v32), .second, .val (.long v33), .second, .val (.long v34), .second, .unset, .unset, .unset, .unset, .unset, .unset, .unset, .unset, .unset] [(.int z), (.int (bi ((0 : Int64) < v34)))])) (fun hc190 kk => ?_) (fun hc190 kk => ?_) ?_
    · skip
      refine Goes.go (fun _ => XS.ifNo S.here B.x rfl (B.d at_190) rfl ((if0 _ _).trans (tlt ((lw_gt v33 (0 : Int64)).mpr hc190)).2.2.2)) ?_
      show Goes _ _ _ _ T (mkF me_ 193 #[.val (.long q0), .second, .val (.int p1), .val (.int p2), .val (.int p3), .val (.int p4), .val (.long v1), .second, .val (.long v2), .second, .val (.long v3), .second, .val (.long v4), .second, .val (.long v5), .second, .val (.long v6), .second, .val (.long v7), .second, .val (.long v8), .second, .val (.ref b9), .val (.long v31), .second, .val (.long v32), .second, .val (.long v33), .second, .val (.long v34), .second, .unset, .unset, .unset, .unset, .unset, .unset, .unset, .unset, .unset] [(.int (bi ((0 : Int64) < v34)))])
      refine Goes.go (fun _ => XS.iconst S.here B.x rfl (B.d at_193)) ?_
      show Goes _ _ _ _ T (mkF me_ 194 #[.val (.long q0), .second, .val (.int p1), .val (.int p2), .val (.int p3), .val (.int p4), .val (.long v1), .second, .val (.long v2), .second, .val (.long v3), .second, .val (.long v4), .second, .val (.long v5), .second, .val (.long v6), .second, .val (.long v7), .second, .val (.long v8), .second, .val (.ref b9), .val (.long v31), .second, .val (.long v32), .second, .val (.long v33), .second, .val (.long v34), .second, .unset, .unset, .unset, .unset, .unset, .unset, .unset, .unset, .unset] [(.int (1 : Int32)), (.int (bi ((0 : Int64) < v34)))])
      refine Goes.go (fun _ => XS.goto S.here B.x rfl (pc0 := 194) (pc' := 198) rfl (B.d at_194) (by decide) (by decide)) ?_
      show Goes _ _ _ _ T (mkF me_ 198 #[.val (.long q0), .second, .val (.int p1), .val (.int p2), .val (.int p3), .val (.int p4), .val (.long v1), .second, .val (.long v2), .second, .val (.long v3), .second, .val (.long v4), .second, .val (.long v5), .second, .val (.long v6), .second, .val (.long v7), .second, .val (.long v8), .second, .val (.ref b9), .val (.long v31), .second, .val (.long v32), .second, .val (.long v33), .second, .val (.long v34), .second, .unset, .unset, .unset, .unset, .unset, .unset, .unset, .unset, .unset] [(.int (1 : Int32)), (.int (bi ((0 : Int64) < v34)))])
      exact kk
    · skip
      refine Goes.go (fun _ => XS.ifYes S.here B.x rfl (pc0 := 190) (pc' := 197) rfl (B.d at_190) rfl ((if0 _ _).trans (flt (mt (lw_gt v33 (0 : Int64)).mp hc190)).2.2.2) (by decide) (by decide)) ?_
      show Goes _ _ _ _ T (mkF me_ 197 #[.val (.long q0), .second, .val (.int p1), .val (.int p2), .val (.int p3), .val (.int p4), .val (.long v1), .second, .val (.long v2), .second, .val (.long v3), .second, .val (.long v4), .second, .val (.long v5), .second, .val (.long v6), .second, .val (.long v7), .second, .val (.long v8), .second, .val (.ref b9), .val (.long v31), .second, .val (.long v32), .second, .val (.long v33), .second, .val (.long v34), .second, .unset, .unset, .unset, .unset, .unset, .unset, .unset, .unset, .unset] [(.int (bi ((0 : Int64) < v34)))])
      refine Goes.go (fun _ => XS.iconst S.here B.x rfl (B.d at_197)) ?_
      show Goes _ _ _ _ T (mkF me_ 198 #[.val (.long q0), .second, .val (.int p1), .val (.int p2), .val (.int p3), .val (.int p4), .val (.long v1), .second, .val (.long v2), .second, .val (.long v3), .second, .val (.long v4), .second, .val (.long v5), .second, .val (.long v6), .second, .val (.long v7), .second, .val (.long v8), .second, .val (.ref b9), .val (.long v31), .second, .val (.long v32), .second, .val (.long v33), .second, .val (.long v34), .second, .unset, .unset, .unset, .unset, .unset, .unset, .unset, .unset, .unset] [(.int (0 : Int32)), (.int (bi ((0 : Int64) < v34)))])
      exact kk
    show Goes _ _ _ _ T (mkF me_ 198 #[.val (.long q0), .second, .val (.int p1), .val (.int p2), .val (.int p3), .val (.int p4), .val (.long v1), .second, .val (.long v2), .second, .val (.long v3), .second, .val (.long v4), .second, .val (.long v5), .second, .val (.long v6), .second, .val (.long v7), .second, .val (.long v8), .second, .val (.ref b9), .val (.long v31), .second, .val (.long v32), .second, .val (.long v33), .second, .val (.long v34), .second, .unset, .unset, .unset, .unset, .unset, .unset, .unset, .unset, .unset] [(.int (bi ((0 : Int64) < v33))), (.int (bi ((0 : Int64) < v34)))])
    refine Goes.go (fun _ => XS.iadd S.here B.x rfl (B.d at_198) rfl) ?_
    show Goes _ _ _ _ T (mkF me_ 199 #[.val (.long q0), .second, .val (.int p1), .val (.int p2), .val (.int p3), .val (.int p4), .val (.long v1), .second, .val (.long v2), .second, .val (.long v3), .second, .val (.long v4), .second, .val (.long v5), .second, .val (.long v6), .second, .val (.long v7), .second, .val (.long v8), .second, .val (.ref b9), .val (.long v31), .second, .val (.long v32), .second, .val (.long v33), .second, .val (.long v34), .second, .unset, .unset, .unset, .unset, .unset, .unset, .unset, .unset, .unset] [(.int ((bi ((0 : Int64) < v34)) + (bi ((0 : Int64) < v33))))])
    refine Goes.go (fun _ => XS.lload S.here B.x rfl (B.d at_199) rfl) ?_
    show Goes _ _ _ _ T (mkF me_ 201 #[.val (.long q0), .second, .val (.int p1), .val (.int p2), .val (.int p3), .val (.int p4), .val (.long v1), .second, .val (.long v2), .second, .val (.long v3), .second, .val (.long v4), .second, .val (.long v5), .second, .val (.long v6), .second, .val (.long v7), .second, .val (.long v8), .second, .val (.ref b9), .val (.long v31), .second, .val (.long v32), .second, .val (.long v33), .second, .val (.long v34), .second, .unset, .unset, .unset, .unset, .unset, .unset, .unset, .unset, .unset] [(.long v32), (.int ((bi ((0 : Int64) < v34)) + (bi ((0 : Int64) < v33))))])
    refine Goes.go (fun _ => XS.lconst S.here B.x rfl (B.d at_201)) ?_
    show Goes _ _ _ _ T (mkF me_ 202 #[.val (.long q0), .second, .val (.int p1), .val (.int p2), .val (.int p3), .val (.int p4), .val (.long v1), .second, .val (.long v2), .second, .val (.long v3), .second, .val (.long v4), .second, .val (.long v5), .second, .val (.long v6), .second, .val (.long v7), .second, .val (.long v8), .second, .val (.ref b9), .val (.long v31), .second, .val (.long v32), .second, .val (.long v33), .second, .val (.long v34), .second, .unset, .unset, .unset, .unset, .unset, .unset, .unset, .unset, .unset] [(.long (0 : Int64)), (.long v32), (.int ((bi ((0 : Int64) < v34)) + (bi ((0 : Int64) < v33))))])
    refine Goes.go (fun _ => XS.lcmp S.here B.x rfl (B.d at_202) rfl) ?_
    show Goes _ _ _ _ T (mkF me_ 203 #[.val (.long q0), .second, .val (.int p1), .val (.int p2), .val (.int p3), .val (.int p4), .val (.long v1), .second, .val (.long v2), .second, .val (.long v3), .second, .val (.long v4), .second, .val (.long v5), .second, .val (.long v6), .second, .val (.long v7), .second, .val (.long v8), .second, .val (.ref b9), .val (.long v31), .second, .val (.long v32), .second, .val (.long v33), .second, .val (.long v34), .second, .unset, .unset, .unset, .unset, .unset, .unset, .unset, .unset, .unset] [(.int (lcmpW v32 (0 : Int64))), (.int ((bi ((0 : Int64) < v34)) + (bi ((0 : Int64) < v33))))])
    refine Goes.dia (P := (0 : Int64) < v32) (mk := fun z => (mkF me_ 211 #[.val (.long q0), .second, .val (.int p1), .val (.int p2), .val (.int p3), .val (.int p4), .val (.long v1), .second, .val (.long v2), .second, .val (.long v3), .second, .val (.long v4), .second, .val (.long v5), .second, .val (.long v6), .second, .val (.long v7), .second, .val (.long v8), .second, .val (.ref b9), .val (.long v31), .second, .val (.long v32), .second, .val (.long v33), .second, .val (.long v34), .second, .unset, .unset, .unset, .unset, .unset, .unset, .unset, .unset, .unset] [(.int z), (.int ((bi ((0 : Int64) < v34)) + (bi ((0 : Int64) < v33))))])) (fun hc203 kk => ?_) (fun hc203 kk => ?_) ?_
    · skip
      refine Goes.go (fun _ => XS.ifNo S.here B.x rfl (B.d at_203) rfl ((if0 _ _).trans (tlt ((lw_gt v32 (0 : Int64)).mpr hc203)).2.2.2)) ?_
      show Goes _ _ _ _ T (mkF me_ 206 #[.val (.long q0), .second, .val (.int p1), .val (.int p2), .val (.int p3), .val (.int p4), .val (.long v1), .second, .val (.long v2), .second, .val (.long v3), .second, .val (.long v4), .second, .val (.long v5), .second, .val (.long v6), .second, .val (.long v7), .second, .val (.long v8), .second, .val (.ref b9), .val (.long v31), .second, .val (.long v32), .second, .val (.long v33), .second, .val (.long v34), .second, .unset, .unset, .unset, .unset, .unset, .unset, .unset, .unset, .unset] [(.int ((bi ((0 : Int64) < v34)) + (bi ((0 : Int64) < v33))))])
      refine Goes.go (fun _ => XS.iconst S.here B.x rfl (B.d at_206)) ?_
      show Goes _ _ _ _ T (mkF me_ 207 #[.val (.long q0), .second, .val (.int p1), .val (.int p2), .val (.int p3), .val (.int p4), .val (.long v1), .second, .val (.long v2), .second, .val (.long v3), .second, .val (.long v4), .second, .val (.long v5), .second, .val (.long v6), .second, .val (.long v7), .second, .val (.long v8), .second, .val (.ref b9), .val (.long v31), .second, .val (.long v32), .second, .val (.long v33), .second, .val (.long v34), .second, .unset, .unset, .unset, .unset, .unset, .unset, .unset, .unset, .unset] [(.int (1 : Int32)), (.int ((bi ((0 : Int64) < v34)) + (bi ((0 : Int64) < v33))))])
      refine Goes.go (fun _ => XS.goto S.here B.x rfl (pc0 := 207) (pc' := 211) rfl (B.d at_207) (by decide) (by decide)) ?_
      show Goes _ _ _ _ T (mkF me_ 211 #[.val (.long q0), .second, .val (.int p1), .val (.int p2), .val (.int p3), .val (.int p4), .val (.long v1), .second, .val (.long v2), .second, .val (.long v3), .second, .val (.long v4), .second, .val (.long v5), .second, .val (.long v6), .second, .val (.long v7), .second, .val (.long v8), .second, .val (.ref b9), .val (.long v31), .second, .val (.long v32), .second, .val (.long v33), .second, .val (.long v34), .second, .unset, .unset, .unset, .unset, .unset, .unset, .unset, .unset, .unset] [(.int (1 : Int32)), (.int ((bi ((0 : Int64) < v34)) + (bi ((0 : Int64) < v33))))])
      exact kk
    · skip
      refine Goes.go (fun _ => XS.ifYes S.here B.x rfl (pc0 := 203) (pc' := 210) rfl (B.d at_203) rfl ((if0 _ _).trans (flt (mt (lw_gt v32 (0 : Int64)).mp hc203)).2.2.2) (by decide) (by decide)) ?_
      show Goes _ _ _ _ T (mkF me_ 210 #[.val (.long q0), .second, .val (.int p1), .val (.int p2), .val (.int p3), .val (.int p4), .val (.long v1), .second, .val (.long v2), .second, .val (.long v3), .second, .val (.long v4), .second, .val (.long v5), .second, .val (.long v6), .second, .val (.long v7), .second, .val (.long v8), .second, .val (.ref b9), .val (.long v31), .second, .val (.long v32), .second, .val (.long v33), .second, .val (.long v34), .second, .unset, .unset, .unset, .unset, .unset, .unset, .unset, .unset, .unset] [(.int ((bi ((0 : Int64) < v34)) + (bi ((0 : Int64) < v33))))])
      refine Goes.go (fun _ => XS.iconst S.here B.x rfl (B.d at_210)) ?_
      show Goes _ _ _ _ T (mkF me_ 211 #[.val (.long q0), .second, .val (.int p1), .val (.int p2), .val (.int p3), .val (.int p4), .val (.long v1), .second, .val (.long v2), .second, .val (.long v3), .second, .val (.long v4), .second, .val (.long v5), .second, .val (.long v6), .second, .val (.long v7), .second, .val (.long v8), .second, .val (.ref b9), .val (.long v31), .second, .val (.long v32), .second, .val (.long v33), .second, .val (.long v34), .second, .unset, .unset, .unset, .unset, .unset, .unset, .unset, .unset, .unset] [(.int (0 : Int32)), (.int ((bi ((0 : Int64) < v34)) + (bi ((0 : Int64) < v33))))])
      exact kk
    show Goes _ _ _ _ T (mkF me_ 211 #[.val (.long q0), .second, .val (.int p1), .val (.int p2), .val (.int p3), .val (.int p4), .val (.long v1), .second, .val (.long v2), .second, .val (.long v3), .second, .val (.long v4), .second, .val (.long v5), .second, .val (.long v6), .second, .val (.long v7), .second, .val (.long v8), .second, .val (.ref b9), .val (.long v31), .second, .val (.long v32), .second, .val (.long v33), .second, .val (.long v34), .second, .unset, .unset, .unset, .unset, .unset, .unset, .unset, .unset, .unset] [(.int (bi ((0 : Int64) < v32))), (.int ((bi ((0 : Int64) < v34)) + (bi ((0 : Int64) < v33))))])
    refine Goes.go (fun _ => XS.iadd S.here B.x rfl (B.d at_211) rfl) ?_
    show Goes _ _ _ _ T (mkF me_ 212 #[.val (.long q0), .second, .val (.int p1), .val (.int p2), .val (.int p3), .val (.int p4), .val (.long v1), .second, .val (.long v2), .second, .val (.long v3), .second, .val (.long v4), .second, .val (.long v5), .second, .val (.long v6), .second, .val (.long v7), .second, .val (.long v8), .second, .val (.ref b9), .val (.long v31), .second, .val (.long v32), .second, .val (.long v33), .second, .val (.long v34), .second, .unset, .unset, .unset, .unset, .unset, .unset, .unset, .unset, .unset] [(.int (((bi ((0 : Int64) < v34)) + (bi ((0 : Int64) < v33))) + (bi ((0 : Int64) < v32))))])
    refine Goes.go (fun _ => XS.istore (g := (mkF me_ 212 #[.val (.long q0), .second, .val (.int p1), .val (.int p2), .val (.int p3), .val (.int p4), .val (.long v1), .second, .val (.long v2), .second, .val (.long v3), .second, .val (.long v4), .second, .val (.long v5), .second, .val (.long v6), .second, .val (.long v7), .second, .val (.long v8), .second, .val (.ref b9), .val (.long v31), .second, .val (.long v32), .second, .val (.long v33), .second, .val (.long v34), .second, .unset, .unset, .unset, .unset, .unset, .unset, .unset, .unset, .unset] [(.int (((bi ((0 : Int64) < v34)) + (bi ((0 : Int64) < v33))) + (bi ((0 : Int64) < v32))))])) S.here B.x rfl (B.d at_212) rfl (l' := #[.val (.long q0), .second, .val (.int p1), .val (.int p2), .val (.int p3), .val (.int p4), .val (.long v1), .second, .val (.long v2), .second, .val (.long v3), .second, .val (.long v4), .second, .val (.long v5), .second, .val (.long v6), .second, .val (.long v7), .second, .val (.long v8), .second, .val (.ref b9), .val (.long v31), .second, .val (.long v32), .second, .val (.long v33), .second, .val (.long v34), .second, .val (.int (((bi ((0 : Int64) < v34)) + (bi ((0 : Int64) < v33))) + (bi ((0 : Int64) < v32)))), .unset, .unset, .unset, .unset, .unset, .unset, .unset, .unset]) rfl) ?_
    show Goes _ _ _ _ T (mkF me_ 214 #[.val (.long q0), .second, .val (.int p1), .val (.int p2), .val (.int p3), .val (.int p4), .val (.long v1), .second, .val (.long v2), .second, .val (.long v3), .second, .val (.long v4), .second, .val (.long v5), .second, .val (.long v6), .second, .val (.long v7), .second, .val (.long v8), .second, .val (.ref b9), .val (.long v31), .second, .val (.long v32), .second, .val (.long v33), .second, .val (.long v34), .second, .val (.int (((bi ((0 : Int64) < v34)) + (bi ((0 : Int64) < v33))) + (bi ((0 : Int64) < v32)))), .unset, .unset, .unset, .unset, .unset, .unset, .unset, .unset] [])
    refine Goes.go (fun _ => XS.aload S.here B.x rfl (B.d at_214) rfl rfl) ?_
    show Goes _ _ _ _ T (mkF me_ 216 #[.val (.long q0), .second, .val (.int p1), .val (.int p2), .val (.int p3), .val (.int p4), .val (.long v1), .second, .val (.long v2), .second, .val (.long v3), .second, .val (.long v4), .second, .val (.long v5), .second, .val (.long v6), .second, .val (.long v7), .second, .val (.long v8), .second, .val (.ref b9), .val (.long v31), .second, .val (.long v32), .second, .val (.long v33), .second, .val (.long v34), .second, .val (.int (((bi ((0 : Int64) < v34)) + (bi ((0 : Int64) < v33))) + (bi ((0 : Int64) < v32)))), .unset, .unset, .unset, .unset, .unset, .unset, .unset, .unset] [(.ref b9)])
    refine Goes.callV (argsL := []) (rest := []) (W := 0) S B (rm_permits l Z aw hw b9 b10 b11 (fun i => (.long (u18 i))) u19 u26 u27 u28 _ n0 E_b9 F_b9_instants F_b9_lastNumbers F_b9_first F_b9_size F_b9_dropped A_b10 A_b11) E_b9 (w69 hw) (w57 hw) (w59 hw) (w58 hw) (w2 hw) (w60 hw) (by decide) (by decide) (by decide) (by decide) (by decide) rfl (lenOf pd_4 rfl) rfl (Nat.le_of_eq rfl) at_216 ?_
    intro v T h S hQ
    obtain ⟨rfl, hh⟩ := hQ
    replace hh := hh.symm
    subst hh
    show Goes _ _ _ _ T (mkF me_ 219 #[.val (.long q0), .second, .val (.int p1), .val (.int p2), .val (.int p3), .val (.int p4), .val (.long v1), .second, .val (.long v2), .second, .val (.long v3), .second, .val (.long v4), .second, .val (.long v5), .second, .val (.long v6), .second, .val (.long v7), .second, .val (.long v8), .second, .val (.ref b9), .val (.long v31), .second, .val (.long v32), .second, .val (.long v33), .second, .val (.long v34), .second, .val (.int (((bi ((0 : Int64) < v34)) + (bi ((0 : Int64) < v33))) + (bi ((0 : Int64) < v32)))), .unset, .unset, .unset, .unset, .unset, .unset, .unset, .unset] [(.long (own_perm u27 u28 (u19 ((u26 + (u27 - (1 : Int32))) &&& (3 : Int32)).toNatClampNeg)))])
    rw [own_pt hN2_126 hs2_126 hl2_126]
    show Goes _ _ _ _ T (mkF me_ 219 #[.val (.long q0), .second, .val (.int p1), .val (.int p2), .val (.int p3), .val (.int p4), .val (.long v1), .second, .val (.long v2), .second, .val (.long v3), .second, .val (.long v4), .second, .val (.long v5), .second, .val (.long v6), .second, .val (.long v7), .second, .val (.long v8), .second, .val (.ref b9), .val (.long v31), .second, .val (.long v32), .second, .val (.long v33), .second, .val (.long v34), .second, .val (.int (((bi ((0 : Int64) < v34)) + (bi ((0 : Int64) < v33))) + (bi ((0 : Int64) < v32)))), .unset, .unset, .unset, .unset, .unset, .unset, .unset, .unset] [(.long (own_tt u28 u30))])
    generalize hv37 : (own_tt u28 u30) = v37
    refine Goes.go (fun _ => XS.lstore (g := (mkF me_ 219 #[.val (.long q0), .second, .val (.int p1), .val (.int p2), .val (.int p3), .val (.int p4), .val (.long v1), .second, .val (.long v2), .second, .val (.long v3), .second, .val (.long v4), .second, .val (.long v5), .second, .val (.long v6), .second, .val (.long v7), .second, .val (.long v8), .second, .val (.ref b9), .val (.long v31), .second, .val (.long v32), .second, .val (.long v33), .second, .val (.long v34), .second, .val (.int (((bi ((0 : Int64) < v34)) + (bi ((0 : Int64) < v33))) + (bi ((0 : Int64) < v32)))), .unset, .unset, .unset, .unset, .unset, .unset, .unset, .unset] [(.long v37)])) S.here B.x rfl (B.d at_219) rfl (l' := #[.val (.long q0), .second, .val (.int p1), .val (.int p2), .val (.int p3), .val (.int p4), .val (.long v1), .second, .val (.long v2), .second, .val (.long v3), .second, .val (.long v4), .second, .val (.long v5), .second, .val (.long v6), .second, .val (.long v7), .second, .val (.long v8), .second, .val (.ref b9), .val (.long v31), .second, .val (.long v32), .second, .val (.long v33), .second, .val (.long v34), .second, .val (.int (((bi ((0 : Int64) < v34)) + (bi ((0 : Int64) < v33))) + (bi ((0 : Int64) < v32)))), .val (.long v37), .second, .unset, .unset, .unset, .unset, .unset, .unset]) rfl) ?_
    show Goes _ _ _ _ T (mkF me_ 221 #[.val (.long q0), .second, .val (.int p1), .val (.int p2), .val (.int p3), .val (.int p4), .val (.long v1), .second, .val (.long v2), .second, .val (.long v3), .second, .val (.long v4), .second, .val (.long v5), .second, .val (.long v6), .second, .val (.long v7), .second, .val (.long v8), .second, .val (.ref b9), .val (.long v31), .second, .val (.long v32), .second, .val (.long v33), .second, .val (.long v34), .second, .val (.int (((bi ((0 : Int64) < v34)) + (bi ((0 : Int64) < v33))) + (bi ((0 : Int64) < v32)))), .val (.long v37), .second, .unset, .unset, .unset, .unset, .unset, .unset] [])
    refine Goes.go (fun _ => XS.lload S.here B.x rfl (B.d at_221) rfl) ?_
    show Goes _ _ _ _ T (mkF me_ 223 #[.val (.long q0), .second, .val (.int p1), .val (.int p2), .val (.int p3), .val (.int p4), .val (.long v1), .second, .val (.long v2), .second, .val (.long v3), .second, .val (.long v4), .second, .val (.long v5), .second, .val (.long v6), .second, .val (.long v7), .second, .val (.long v8), .second, .val (.ref b9), .val (.long v31), .second, .val (.long v32), .second, .val (.long v33), .second, .val (.long v34), .second, .val (.int (((bi ((0 : Int64) < v34)) + (bi ((0 : Int64) < v33))) + (bi ((0 : Int64) < v32)))), .val (.long v37), .second, .unset, .unset, .unset, .unset, .unset, .unset] [(.long v37)])
    refine Goes.go (fun _ => XS.lload S.here B.x rfl (B.d at_223) rfl) ?_
    show Goes _ _ _ _ T (mkF me_ 225 #[.val (.long q0), .second, .val (.int p1), .val (.int p2), .val (.int p3), .val (.int p4), .val (.long v1), .second, .val (.long v2), .second, .val (.long v3), .second, .val (.long v4), .second, .val (.long v5), .second, .val (.long v6), .second, .val (.long v7), .second, .val (.long v8), .second, .val (.ref b9), .val (.long v31), .second, .val (.long v32), .second, .val (.long v33), .second, .val (.long v34), .second, .val (.int (((bi ((0 : Int64) < v34)) + (bi ((0 : Int64) < v33))) + (bi ((0 : Int64) < v32)))), .val (.long v37), .second, .unset, .unset, .unset, .unset, .unset, .unset] [(.long v34), (.long v37)])
    refine Goes.go (fun _ => XS.lload S.here B.x rfl (B.d at_225) rfl) ?_
    show Goes _ _ _ _ T (mkF me_ 227 #[.val (.long q0), .second, .val (.int p1), .val (.int p2), .val (.int p3), .val (.int p4), .val (.long v1), .second, .val (.long v2), .second, .val (.long v3), .second, .val (.long v4), .second, .val (.long v5), .second, .val (.long v6), .second, .val (.long v7), .second, .val (.long v8), .second, .val (.ref b9), .val (.long v31), .second, .val (.long v32), .second, .val (.long v33), .second, .val (.long v34), .second, .val (.int (((bi ((0 : Int64) < v34)) + (bi ((0 : Int64) < v33))) + (bi ((0 : Int64) < v32)))), .val (.long v37), .second, .unset, .unset, .unset, .unset, .unset, .unset] [(.long v33), (.long v34), (.long v37)])
    refine Goes.go (fun _ => XS.ladd S.here B.x rfl (B.d at_227) rfl) ?_
    show Goes _ _ _ _ T (mkF me_ 228 #[.val (.long q0), .second, .val (.int p1), .val (.int p2), .val (.int p3), .val (.int p4), .val (.long v1), .second, .val (.long v2), .second, .val (.long v3), .second, .val (.long v4), .second, .val (.long v5), .second, .val (.long v6), .second, .val (.long v7), .second, .val (.long v8), .second, .val (.ref b9), .val (.long v31), .second, .val (.long v32), .second, .val (.long v33), .second, .val (.long v34), .second, .val (.int (((bi ((0 : Int64) < v34)) + (bi ((0 : Int64) < v33))) + (bi ((0 : Int64) < v32)))), .val (.long v37), .second, .unset, .unset, .unset, .unset, .unset, .unset] [(.long (v34 + v33)), (.long v37)])
    refine Goes.go (fun _ => XS.lload S.here B.x rfl (B.d at_228) rfl) ?_
    show Goes _ _ _ _ T (mkF me_ 230 #[.val (.long q0), .second, .val (.int p1), .val (.int p2), .val (.int p3), .val (.int p4), .val (.long v1), .second, .val (.long v2), .second, .val (.long v3), .second, .val (.long v4), .second, .val (.long v5), .second, .val (.long v6), .second, .val (.long v7), .second, .val (.long v8), .second, .val (.ref b9), .val (.long v31), .second, .val (.long v32), .second, .val (.long v33), .second, .val (.long v34), .second, .val (.int (((bi ((0 : Int64) < v34)) + (bi ((0 : Int64) < v33))) + (bi ((0 : Int64) < v32)))), .val (.long v37), .second, .unset, .unset, .unset, .unset, .unset, .unset] [(.long v32), (.long (v34 + v33)), (.long v37)])
    refine Goes.go (fun _ => XS.ladd S.here B.x rfl (B.d at_230) rfl) ?_
    show Goes _ _ _ _ T (mkF me_ 231 #[.val (.long q0), .second, .val (.int p1), .val (.int p2), .val (.int p3), .val (.int p4), .val (.long v1), .second, .val (.long v2), .second, .val (.long v3), .second, .val (.long v4), .second, .val (.long v5), .second, .val (.long v6), .second, .val (.long v7), .second, .val (.long v8), .second, .val (.ref b9), .val (.long v31), .second, .val (.long v32), .second, .val (.long v33), .second, .val (.long v34), .second, .val (.int (((bi ((0 : Int64) < v34)) + (bi ((0 : Int64) < v33))) + (bi ((0 : Int64) < v32)))), .val (.long v37), .second, .unset, .unset, .unset, .unset, .unset, .unset] [(.long ((v34 + v33) + v32)), (.long v37)])
    refine Goes.go (fun _ => XS.lcmp S.here B.x rfl (B.d at_231) rfl) ?_
    show Goes _ _ _ _ T (mkF me_ 232 #[.val (.long q0), .second, .val (.int p1), .val (.int p2), .val (.int p3), .val (.int p4), .val (.long v1), .second, .val (.long v2), .second, .val (.long v3), .second, .val (.long v4), .second, .val (.long v5), .second, .val (.long v6), .second, .val (.long v7), .second, .val (.long v8), .second, .val (.ref b9), .val (.long v31), .second, .val (.long v32), .second, .val (.long v33), .second, .val (.long v34), .second, .val (.int (((bi ((0 : Int64) < v34)) + (bi ((0 : Int64) < v33))) + (bi ((0 : Int64) < v32)))), .val (.long v37), .second, .unset, .unset, .unset, .unset, .unset, .unset] [(.int (lcmpW v37 ((v34 + v33) + v32)))])
    refine Goes.go (fun _ => XS.ifYes S.here B.x rfl (pc0 := 232) (pc' := 237) rfl (B.d at_232) rfl ((if0 _ _).trans (teq ((lw_eq v37 ((v34 + v33) + v32)).mpr (show v37 = ((v34 + v33) + v32) from hv37.symm.trans tot))).1) (by decide) (by decide)) ?_
    show Goes _ _ _ _ T (mkF me_ 237 #[.val (.long q0), .second, .val (.int p1), .val (.int p2), .val (.int p3), .val (.int p4), .val (.long v1), .second, .val (.long v2), .second, .val (.long v3), .second, .val (.long v4), .second, .val (.long v5), .second, .val (.long v6), .second, .val (.long v7), .second, .val (.long v8), .second, .val (.ref b9), .val (.long v31), .second, .val (.long v32), .second, .val (.long v33), .second, .val (.long v34), .second, .val (.int (((bi ((0 : Int64) < v34)) + (bi ((0 : Int64) < v33))) + (bi ((0 : Int64) < v32)))), .val (.long v37), .second, .unset, .unset, .unset, .unset, .unset, .unset] [])
    refine Goes.go (fun _ => XS.aload S.here B.x rfl (B.d at_237) rfl rfl) ?_
    show Goes _ _ _ _ T (mkF me_ 239 #[.val (.long q0), .second, .val (.int p1), .val (.int p2), .val (.int p3), .val (.int p4), .val (.long v1), .second, .val (.long v2), .second, .val (.long v3), .second, .val (.long v4), .second, .val (.long v5), .second, .val (.long v6), .second, .val (.long v7), .second, .val (.long v8), .second, .val (.ref b9), .val (.long v31), .second, .val (.long v32), .second, .val (.long v33), .second, .val (.long v34), .second, .val (.int (((bi ((0 : Int64) < v34)) + (bi ((0 : Int64) < v33))) + (bi ((0 : Int64) < v32)))), .val (.long v37), .second, .unset, .unset, .unset, .unset, .unset, .unset] [(.ref b9)])
    refine Goes.callV (argsL := []) (rest := []) (W := 0) S B (rm_insts l Z aw hw b9 u27 _ n0 F_b9_size) E_b9 (w70 hw) (w71 hw) (w73 hw) (w72 hw) (w2 hw) (w74 hw) (by decide) (by decide) (by decide) (by decide) (by decide) rfl (lenOf pd_9 rfl) rfl (Nat.le_of_eq rfl) at_239 ?_
    intro v T h S hQ
    obtain ⟨rfl, hh⟩ := hQ
    replace hh := hh.symm
    subst hh
    show Goes _ _ _ _ T (mkF me_ 242 #[.val (.long q0), .second, .val (.int p1), .val (.int p2), .val (.int p3), .val (.int p4), .val (.long v1), .second, .val (.long v2), .second, .val (.long v3), .second, .val (.long v4), .second, .val (.long v5), .second, .val (.long v6), .second, .val (.long v7), .second, .val (.long v8), .second, .val (.ref b9), .val (.long v31), .second, .val (.long v32), .second, .val (.long v33), .second, .val (.long v34), .second, .val (.int (((bi ((0 : Int64) < v34)) + (bi ((0 : Int64) < v33))) + (bi ((0 : Int64) < v32)))), .val (.long v37), .second, .unset, .unset, .unset, .unset, .unset, .unset] [(.int u27)])
    refine Goes.go (fun _ => XS.iload S.here B.x rfl (B.d at_242) rfl) ?_
    show Goes _ _ _ _ T (mkF me_ 244 #[.val (.long q0), .second, .val (.int p1), .val (.int p2), .val (.int p3), .val (.int p4), .val (.long v1), .second, .val (.long v2), .second, .val (.long v3), .second, .val (.long v4), .second, .val (.long v5), .second, .val (.long v6), .second, .val (.long v7), .second, .val (.long v8), .second, .val (.ref b9), .val (.long v31), .second, .val (.long v32), .second, .val (.long v33), .second, .val (.long v34), .second, .val (.int (((bi ((0 : Int64) < v34)) + (bi ((0 : Int64) < v33))) + (bi ((0 : Int64) < v32)))), .val (.long v37), .second, .unset, .unset, .unset, .unset, .unset, .unset] [(.int (((bi ((0 : Int64) < v34)) + (bi ((0 : Int64) < v33))) + (bi ((0 : Int64) < v32)))), (.int u27)])
    refine Goes.go (fun _ => XS.icmpYes S.here B.x rfl (pc0 := 244) (pc' := 249) rfl (B.d at_244) rfl (teq (show u27 = (((bi ((0 : Int64) < v34)) + (bi ((0 : Int64) < v33))) + (bi ((0 : Int64) < v32))) from own_n1 hs2_126 eT x0 x1 x2)).1 (by decide) (by decide)) ?_
    show Goes _ _ _ _ T (mkF me_ 249 #[.val (.long q0), .second, .val (.int p1), .val (.int p2), .val (.int p3), .val (.int p4), .val (.long v1), .second, .val (.long v2), .second, .val (.long v3), .second, .val (.long v4), .second, .val (.long v5), .second, .val (.long v6), .second, .val (.long v7), .second, .val (.long v8), .second, .val (.ref b9), .val (.long v31), .second, .val (.long v32), .second, .val (.long v33), .second, .val (.long v34), .second, .val (.int (((bi ((0 : Int64) < v34)) + (bi ((0 : Int64) < v33))) + (bi ((0 : Int64) < v32)))), .val (.long v37), .second, .unset, .unset, .unset, .unset, .unset, .unset] [])
    refine Goes.go (fun _ => XS.iload S.here B.x rfl (B.d at_249) rfl) ?_
    show Goes _ _ _ _ T (mkF me_ 251 #[.val (.long q0), .second, .val (.int p1), .val (.int p2), .val (.int p3), .val (.int p4), .val (.long v1), .second, .val (.long v2), .second, .val (.long v3), .second, .val (.long v4), .second, .val (.long v5), .second, .val (.long v6), .second, .val (.long v7), .second, .val (.long v8), .second, .val (.ref b9), .val (.long v31), .second, .val (.long v32), .second, .val (.long v33), .second, .val (.long v34), .second, .val (.int (((bi ((0 : Int64) < v34)) + (bi ((0 : Int64) < v33))) + (bi ((0 : Int64) < v32)))), .val (.long v37), .second, .unset, .unset, .unset, .unset, .unset, .unset] [(.int (((bi ((0 : Int64) < v34)) + (bi ((0 : Int64) < v33))) + (bi ((0 : Int64) < v32))))])
    refine Goes.go (fun _ => XS.ifYes S.here B.x rfl (pc0 := 251) (pc' := 256) rfl (B.d at_251) rfl ((if0 _ _).trans (feq (show ¬ ((((bi ((0 : Int64) < v34)) + (bi ((0 : Int64) < v33))) + (bi ((0 : Int64) < v32))) = (0 : Int32)) from own_z1 x0 x1 x2)).2) (by decide) (by decide)) ?_
    show Goes _ _ _ _ T (mkF me_ 256 #[.val (.long q0), .second, .val (.int p1), .val (.int p2), .val (.int p3), .val (.int p4), .val (.long v1), .second, .val (.long v2), .second, .val (.long v3), .second, .val (.long v4), .second, .val (.long v5), .second, .val (.long v6), .second, .val (.long v7), .second, .val (.long v8), .second, .val (.ref b9), .val (.long v31), .second, .val (.long v32), .second, .val (.long v33), .second, .val (.long v34), .second, .val (.int (((bi ((0 : Int64) < v34)) + (bi ((0 : Int64) < v33))) + (bi ((0 : Int64) < v32)))), .val (.long v37), .second, .unset, .unset, .unset, .unset, .unset, .unset] [])
    refine Goes.go (fun _ => XS.lload S.here B.x rfl (B.d at_256) rfl) ?_
    show Goes _ _ _ _ T (mkF me_ 258 #[.val (.long q0), .second, .val (.int p1), .val (.int p2), .val (.int p3), .val (.int p4), .val (.long v1), .second, .val (.long v2), .second, .val (.long v3), .second, .val (.long v4), .second, .val (.long v5), .second, .val (.long v6), .second, .val (.long v7), .second, .val (.long v8), .second, .val (.ref b9), .val (.long v31), .second, .val (.long v32), .second, .val (.long v33), .second, .val (.long v34), .second, .val (.int (((bi ((0 : Int64) < v34)) + (bi ((0 : Int64) < v33))) + (bi ((0 : Int64) < v32)))), .val (.long v37), .second, .unset, .unset, .unset, .unset, .unset, .unset] [(.long v34)])
    refine Goes.go (fun _ => XS.lconst S.here B.x rfl (B.d at_258)) ?_
    show Goes _ _ _ _ T (mkF me_ 259 #[.val (.long q0), .second, .val (.int p1), .val (.int p2), .val (.int p3), .val (.int p4), .val (.long v1), .second, .val (.long v2), .second, .val (.long v3), .second, .val (.long v4), .second, .val (.long v5), .second, .val (.long v6), .second, .val (.long v7), .second, .val (.long v8), .second, .val (.ref b9), .val (.long v31), .second, .val (.long v32), .second, .val (.long v33), .second, .val (.long v34), .second, .val (.int (((bi ((0 : Int64) < v34)) + (bi ((0 : Int64) < v33))) + (bi ((0 : Int64) < v32)))), .val (.long v37), .second, .unset, .unset, .unset, .unset, .unset, .unset] [(.long (0 : Int64)), (.long v34)])
    refine Goes.go (fun _ => XS.lcmp S.here B.x rfl (B.d at_259) rfl) ?_
    show Goes _ _ _ _ T (mkF me_ 260 #[.val (.long q0), .second, .val (.int p1), .val (.int p2), .val (.int p3), .val (.int p4), .val (.long v1), .second, .val (.long v2), .second, .val (.long v3), .second, .val (.long v4), .second, .val (.long v5), .second, .val (.long v6), .second, .val (.long v7), .second, .val (.long v8), .second, .val (.ref b9), .val (.long v31), .second, .val (.long v32), .second, .val (.long v33), .second, .val (.long v34), .second, .val (.int (((bi ((0 : Int64) < v34)) + (bi ((0 : Int64) < v33))) + (bi ((0 : Int64) < v32)))), .val (.long v37), .second, .unset, .unset, .unset, .unset, .unset, .unset] [(.int (lcmpW v34 (0 : Int64)))])
    refine Goes.go (fun _ => XS.ifYes S.here B.x rfl (pc0 := 260) (pc' := 268) rfl (B.d at_260) rfl ((if0 _ _).trans (flt (mt (lw_gt v34 (0 : Int64)).mp (show ¬ ((0 : Int64) < v34) from x0))).2.2.2) (by decide) (by decide)) ?_
    show Goes _ _ _ _ T (mkF me_ 268 #[.val (.long q0), .second, .val (.int p1), .val (.int p2), .val (.int p3), .val (.int p4), .val (.long v1), .second, .val (.long v2), .second, .val (.long v3), .second, .val (.long v4), .second, .val (.long v5), .second, .val (.long v6), .second, .val (.long v7), .second, .val (.long v8), .second, .val (.ref b9), .val (.long v31), .second, .val (.long v32), .second, .val (.long v33), .second, .val (.long v34), .second, .val (.int (((bi ((0 : Int64) < v34)) + (bi ((0 : Int64) < v33))) + (bi ((0 : Int64) < v32)))), .val (.long v37), .second, .unset, .unset, .unset, .unset, .unset, .unset] [])
    refine Goes.go (fun _ => XS.lload S.here B.x rfl (B.d at_268) rfl) ?_
    show Goes _ _ _ _ T (mkF me_ 270 #[.val (.long q0), .second, .val (.int p1), .val (.int p2), .val (.int p3), .val (.int p4), .val (.long v1), .second, .val (.long v2), .second, .val (.long v3), .second, .val (.long v4), .second, .val (.long v5), .second, .val (.long v6), .second, .val (.long v7), .second, .val (.long v8), .second, .val (.ref b9), .val (.long v31), .second, .val (.long v32), .second, .val (.long v33), .second, .val (.long v34), .second, .val (.int (((bi ((0 : Int64) < v34)) + (bi ((0 : Int64) < v33))) + (bi ((0 : Int64) < v32)))), .val (.long v37), .second, .unset, .unset, .unset, .unset, .unset, .unset] [(.long v33)])
    refine Goes.go (fun _ => XS.lconst S.here B.x rfl (B.d at_270)) ?_
    show Goes _ _ _ _ T (mkF me_ 271 #[.val (.long q0), .second, .val (.int p1), .val (.int p2), .val (.int p3), .val (.int p4), .val (.long v1), .second, .val (.long v2), .second, .val (.long v3), .second, .val (.long v4), .second, .val (.long v5), .second, .val (.long v6), .second, .val (.long v7), .second, .val (.long v8), .second, .val (.ref b9), .val (.long v31), .second, .val (.long v32), .second, .val (.long v33), .second, .val (.long v34), .second, .val (.int (((bi ((0 : Int64) < v34)) + (bi ((0 : Int64) < v33))) + (bi ((0 : Int64) < v32)))), .val (.long v37), .second, .unset, .unset, .unset, .unset, .unset, .unset] [(.long (0 : Int64)), (.long v33)])
    refine Goes.go (fun _ => XS.lcmp S.here B.x rfl (B.d at_271) rfl) ?_
    show Goes _ _ _ _ T (mkF me_ 272 #[.val (.long q0), .second, .val (.int p1), .val (.int p2), .val (.int p3), .val (.int p4), .val (.long v1), .second, .val (.long v2), .second, .val (.long v3), .second, .val (.long v4), .second, .val (.long v5), .second, .val (.long v6), .second, .val (.long v7), .second, .val (.long v8), .second, .val (.ref b9), .val (.long v31), .second, .val (.long v32), .second, .val (.long v33), .second, .val (.long v34), .second, .val (.int (((bi ((0 : Int64) < v34)) + (bi ((0 : Int64) < v33))) + (bi ((0 : Int64) < v32)))), .val (.long v37), .second, .unset, .unset, .unset, .unset, .unset, .unset] [(.int (lcmpW v33 (0 : Int64)))])
    refine Goes.go (fun _ => XS.ifYes S.here B.x rfl (pc0 := 272) (pc' := 280) rfl (B.d at_272) rfl ((if0 _ _).trans (flt (mt (lw_gt v33 (0 : Int64)).mp (show ¬ ((0 : Int64) < v33) from x1))).2.2.2) (by decide) (by decide)) ?_
    show Goes _ _ _ _ T (mkF me_ 280 #[.val (.long q0), .second, .val (.int p1), .val (.int p2), .val (.int p3), .val (.int p4), .val (.long v1), .second, .val (.long v2), .second, .val (.long v3), .second, .val (.long v4), .second, .val (.long v5), .second, .val (.long v6), .second, .val (.long v7), .second, .val (.long v8), .second, .val (.ref b9), .val (.long v31), .second, .val (.long v32), .second, .val (.long v33), .second, .val (.long v34), .second, .val (.int (((bi ((0 : Int64) < v34)) + (bi ((0 : Int64) < v33))) + (bi ((0 : Int64) < v32)))), .val (.long v37), .second, .unset, .unset, .unset, .unset, .unset, .unset] [])
    refine Goes.go (fun _ => XS.lload S.here B.x rfl (B.d at_280) rfl) ?_
    show Goes _ _ _ _ T (mkF me_ 282 #[.val (.long q0), .second, .val (.int p1), .val (.int p2), .val (.int p3), .val (.int p4), .val (.long v1), .second, .val (.long v2), .second, .val (.long v3), .second, .val (.long v4), .second, .val (.long v5), .second, .val (.long v6), .second, .val (.long v7), .second, .val (.long v8), .second, .val (.ref b9), .val (.long v31), .second, .val (.long v32), .second, .val (.long v33), .second, .val (.long v34), .second, .val (.int (((bi ((0 : Int64) < v34)) + (bi ((0 : Int64) < v33))) + (bi ((0 : Int64) < v32)))), .val (.long v37), .second, .unset, .unset, .unset, .unset, .unset, .unset] [(.long v3)])
    refine Goes.go (fun _ => XS.lstore (g := (mkF me_ 282 #[.val (.long q0), .second, .val (.int p1), .val (.int p2), .val (.int p3), .val (.int p4), .val (.long v1), .second, .val (.long v2), .second, .val (.long v3), .second, .val (.long v4), .second, .val (.long v5), .second, .val (.long v6), .second, .val (.long v7), .second, .val (.long v8), .second, .val (.ref b9), .val (.long v31), .second, .val (.long v32), .second, .val (.long v33), .second, .val (.long v34), .second, .val (.int (((bi ((0 : Int64) < v34)) + (bi ((0 : Int64) < v33))) + (bi ((0 : Int64) < v32)))), .val (.long v37), .second, .unset, .unset, .unset, .unset, .unset, .unset] [(.long v3)])) S.here B.x rfl (B.d at_282) rfl (l' := #[.val (.long q0), .second, .val (.int p1), .val (.int p2), .val (.int p3), .val (.int p4), .val (.long v1), .second, .val (.long v2), .second, .val (.long v3), .second, .val (.long v4), .second, .val (.long v5), .second, .val (.long v6), .second, .val (.long v7), .second, .val (.long v8), .second, .val (.ref b9), .val (.long v31), .second, .val (.long v32), .second, .val (.long v33), .second, .val (.long v34), .second, .val (.int (((bi ((0 : Int64) < v34)) + (bi ((0 : Int64) < v33))) + (bi ((0 : Int64) < v32)))), .val (.long v37), .second, .val (.long v3), .second, .unset, .unset, .unset, .unset]) rfl) ?_
    show Goes _ _ _ _ T (mkF me_ 284 #[.val (.long q0), .second, .val (.int p1), .val (.int p2), .val (.int p3), .val (.int p4), .val (.long v1), .second, .val (.long v2), .second, .val (.long v3), .second, .val (.long v4), .second, .val (.long v5), .second, .val (.long v6), .second, .val (.long v7), .second, .val (.long v8), .second, .val (.ref b9), .val (.long v31), .second, .val (.long v32), .second, .val (.long v33), .second, .val (.long v34), .second, .val (.int (((bi ((0 : Int64) < v34)) + (bi ((0 : Int64) < v33))) + (bi ((0 : Int64) < v32)))), .val (.long v37), .second, .val (.long v3), .second, .unset, .unset, .unset, .unset] [])
    refine Goes.go (fun _ => XS.lload S.here B.x rfl (B.d at_284) rfl) ?_
    show Goes _ _ _ _ T (mkF me_ 286 #[.val (.long q0), .second, .val (.int p1), .val (.int p2), .val (.int p3), .val (.int p4), .val (.long v1), .second, .val (.long v2), .second, .val (.long v3), .second, .val (.long v4), .second, .val (.long v5), .second, .val (.long v6), .second, .val (.long v7), .second, .val (.long v8), .second, .val (.ref b9), .val (.long v31), .second, .val (.long v32), .second, .val (.long v33), .second, .val (.long v34), .second, .val (.int (((bi ((0 : Int64) < v34)) + (bi ((0 : Int64) < v33))) + (bi ((0 : Int64) < v32)))), .val (.long v37), .second, .val (.long v3), .second, .unset, .unset, .unset, .unset] [(.long v34)])
    refine Goes.go (fun _ => XS.lconst S.here B.x rfl (B.d at_286)) ?_
    show Goes _ _ _ _ T (mkF me_ 287 #[.val (.long q0), .second, .val (.int p1), .val (.int p2), .val (.int p3), .val (.int p4), .val (.long v1), .second, .val (.long v2), .second, .val (.long v3), .second, .val (.long v4), .second, .val (.long v5), .second, .val (.long v6), .second, .val (.long v7), .second, .val (.long v8), .second, .val (.ref b9), .val (.long v31), .second, .val (.long v32), .second, .val (.long v33), .second, .val (.long v34), .second, .val (.int (((bi ((0 : Int64) < v34)) + (bi ((0 : Int64) < v33))) + (bi ((0 : Int64) < v32)))), .val (.long v37), .second, .val (.long v3), .second, .unset, .unset, .unset, .unset] [(.long (0 : Int64)), (.long v34)])
    refine Goes.go (fun _ => XS.lcmp S.here B.x rfl (B.d at_287) rfl) ?_
    show Goes _ _ _ _ T (mkF me_ 288 #[.val (.long q0), .second, .val (.int p1), .val (.int p2), .val (.int p3), .val (.int p4), .val (.long v1), .second, .val (.long v2), .second, .val (.long v3), .second, .val (.long v4), .second, .val (.long v5), .second, .val (.long v6), .second, .val (.long v7), .second, .val (.long v8), .second, .val (.ref b9), .val (.long v31), .second, .val (.long v32), .second, .val (.long v33), .second, .val (.long v34), .second, .val (.int (((bi ((0 : Int64) < v34)) + (bi ((0 : Int64) < v33))) + (bi ((0 : Int64) < v32)))), .val (.long v37), .second, .val (.long v3), .second, .unset, .unset, .unset, .unset] [(.int (lcmpW v34 (0 : Int64)))])
    refine Goes.go (fun _ => XS.ifYes S.here B.x rfl (pc0 := 288) (pc' := 296) rfl (B.d at_288) rfl ((if0 _ _).trans (flt (mt (lw_gt v34 (0 : Int64)).mp (show ¬ ((0 : Int64) < v34) from x0))).2.2.2) (by decide) (by decide)) ?_
    show Goes _ _ _ _ T (mkF me_ 296 #[.val (.long q0), .second, .val (.int p1), .val (.int p2), .val (.int p3), .val (.int p4), .val (.long v1), .second, .val (.long v2), .second, .val (.long v3), .second, .val (.long v4), .second, .val (.long v5), .second, .val (.long v6), .second, .val (.long v7), .second, .val (.long v8), .second, .val (.ref b9), .val (.long v31), .second, .val (.long v32), .second, .val (.long v33), .second, .val (.long v34), .second, .val (.int (((bi ((0 : Int64) < v34)) + (bi ((0 : Int64) < v33))) + (bi ((0 : Int64) < v32)))), .val (.long v37), .second, .val (.long v3), .second, .unset, .unset, .unset, .unset] [])
    refine Goes.go (fun _ => XS.lload S.here B.x rfl (B.d at_296) rfl) ?_
    show Goes _ _ _ _ T (mkF me_ 298 #[.val (.long q0), .second, .val (.int p1), .val (.int p2), .val (.int p3), .val (.int p4), .val (.long v1), .second, .val (.long v2), .second, .val (.long v3), .second, .val (.long v4), .second, .val (.long v5), .second, .val (.long v6), .second, .val (.long v7), .second, .val (.long v8), .second, .val (.ref b9), .val (.long v31), .second, .val (.long v32), .second, .val (.long v33), .second, .val (.long v34), .second, .val (.int (((bi ((0 : Int64) < v34)) + (bi ((0 : Int64) < v33))) + (bi ((0 : Int64) < v32)))), .val (.long v37), .second, .val (.long v3), .second, .unset, .unset, .unset, .unset] [(.long v33)])
    refine Goes.go (fun _ => XS.lconst S.here B.x rfl (B.d at_298)) ?_
    show Goes _ _ _ _ T (mkF me_ 299 #[.val (.long q0), .second, .val (.int p1), .val (.int p2), .val (.int p3), .val (.int p4), .val (.long v1), .second, .val (.long v2), .second, .val (.long v3), .second, .val (.long v4), .second, .val (.long v5), .second, .val (.long v6), .second, .val (.long v7), .second, .val (.long v8), .second, .val (.ref b9), .val (.long v31), .second, .val (.long v32), .second, .val (.long v33), .second, .val (.long v34), .second, .val (.int (((bi ((0 : Int64) < v34)) + (bi ((0 : Int64) < v33))) + (bi ((0 : Int64) < v32)))), .val (.long v37), .second, .val (.long v3), .second, .unset, .unset, .unset, .unset] [(.long (0 : Int64)), (.long v33)])
    refine Goes.go (fun _ => XS.lcmp S.here B.x rfl (B.d at_299) rfl) ?_
    show Goes _ _ _ _ T (mkF me_ 300 #[.val (.long q0), .second, .val (.int p1), .val (.int p2), .val (.int p3), .val (.int p4), .val (.long v1), .second, .val (.long v2), .second, .val (.long v3), .second, .val (.long v4), .second, .val (.long v5), .second, .val (.long v6), .second, .val (.long v7), .second, .val (.long v8), .second, .val (.ref b9), .val (.long v31), .second, .val (.long v32), .second, .val (.long v33), .second, .val (.long v34), .second, .val (.int (((bi ((0 : Int64) < v34)) + (bi ((0 : Int64) < v33))) + (bi ((0 : Int64) < v32)))), .val (.long v37), .second, .val (.long v3), .second, .unset, .unset, .unset, .unset] [(.int (lcmpW v33 (0 : Int64)))])
    refine Goes.go (fun _ => XS.ifYes S.here B.x rfl (pc0 := 300) (pc' := 308) rfl (B.d at_300) rfl ((if0 _ _).trans (flt (mt (lw_gt v33 (0 : Int64)).mp (show ¬ ((0 : Int64) < v33) from x1))).2.2.2) (by decide) (by decide)) ?_
    show Goes _ _ _ _ T (mkF me_ 308 #[.val (.long q0), .second, .val (.int p1), .val (.int p2), .val (.int p3), .val (.int p4), .val (.long v1), .second, .val (.long v2), .second, .val (.long v3), .second, .val (.long v4), .second, .val (.long v5), .second, .val (.long v6), .second, .val (.long v7), .second, .val (.long v8), .second, .val (.ref b9), .val (.long v31), .second, .val (.long v32), .second, .val (.long v33), .second, .val (.long v34), .second, .val (.int (((bi ((0 : Int64) < v34)) + (bi ((0 : Int64) < v33))) + (bi ((0 : Int64) < v32)))), .val (.long v37), .second, .val (.long v3), .second, .unset, .unset, .unset, .unset] [])
    refine Goes.go (fun _ => XS.lload S.here B.x rfl (B.d at_308) rfl) ?_
    show Goes _ _ _ _ T (mkF me_ 310 #[.val (.long q0), .second, .val (.int p1), .val (.int p2), .val (.int p3), .val (.int p4), .val (.long v1), .second, .val (.long v2), .second, .val (.long v3), .second, .val (.long v4), .second, .val (.long v5), .second, .val (.long v6), .second, .val (.long v7), .second, .val (.long v8), .second, .val (.ref b9), .val (.long v31), .second, .val (.long v32), .second, .val (.long v33), .second, .val (.long v34), .second, .val (.int (((bi ((0 : Int64) < v34)) + (bi ((0 : Int64) < v33))) + (bi ((0 : Int64) < v32)))), .val (.long v37), .second, .val (.long v3), .second, .unset, .unset, .unset, .unset] [(.long v32)])
    refine Goes.go (fun _ => XS.lstore (g := (mkF me_ 310 #[.val (.long q0), .second, .val (.int p1), .val (.int p2), .val (.int p3), .val (.int p4), .val (.long v1), .second, .val (.long v2), .second, .val (.long v3), .second, .val (.long v4), .second, .val (.long v5), .second, .val (.long v6), .second, .val (.long v7), .second, .val (.long v8), .second, .val (.ref b9), .val (.long v31), .second, .val (.long v32), .second, .val (.long v33), .second, .val (.long v34), .second, .val (.int (((bi ((0 : Int64) < v34)) + (bi ((0 : Int64) < v33))) + (bi ((0 : Int64) < v32)))), .val (.long v37), .second, .val (.long v3), .second, .unset, .unset, .unset, .unset] [(.long v32)])) S.here B.x rfl (B.d at_310) rfl (l' := #[.val (.long q0), .second, .val (.int p1), .val (.int p2), .val (.int p3), .val (.int p4), .val (.long v1), .second, .val (.long v2), .second, .val (.long v3), .second, .val (.long v4), .second, .val (.long v5), .second, .val (.long v6), .second, .val (.long v7), .second, .val (.long v8), .second, .val (.ref b9), .val (.long v31), .second, .val (.long v32), .second, .val (.long v33), .second, .val (.long v34), .second, .val (.int (((bi ((0 : Int64) < v34)) + (bi ((0 : Int64) < v33))) + (bi ((0 : Int64) < v32)))), .val (.long v37), .second, .val (.long v3), .second, .val (.long v32), .second, .unset, .unset]) rfl) ?_
    show Goes _ _ _ _ T (mkF me_ 312 #[.val (.long q0), .second, .val (.int p1), .val (.int p2), .val (.int p3), .val (.int p4), .val (.long v1), .second, .val (.long v2), .second, .val (.long v3), .second, .val (.long v4), .second, .val (.long v5), .second, .val (.long v6), .second, .val (.long v7), .second, .val (.long v8), .second, .val (.ref b9), .val (.long v31), .second, .val (.long v32), .second, .val (.long v33), .second, .val (.long v34), .second, .val (.int (((bi ((0 : Int64) < v34)) + (bi ((0 : Int64) < v33))) + (bi ((0 : Int64) < v32)))), .val (.long v37), .second, .val (.long v3), .second, .val (.long v32), .second, .unset, .unset] [])
    refine Goes.go (fun _ => XS.aload S.here B.x rfl (B.d at_312) rfl rfl) ?_
    show Goes _ _ _ _ T (mkF me_ 314 #[.val (.long q0), .second, .val (.int p1), .val (.int p2), .val (.int p3), .val (.int p4), .val (.long v1), .second, .val (.long v2), .second, .val (.long v3), .second, .val (.long v4), .second, .val (.long v5), .second, .val (.long v6), .second, .val (.long v7), .second, .val (.long v8), .second, .val (.ref b9), .val (.long v31), .second, .val (.long v32), .second, .val (.long v33), .second, .val (.long v34), .second, .val (.int (((bi ((0 : Int64) < v34)) + (bi ((0 : Int64) < v33))) + (bi ((0 : Int64) < v32)))), .val (.long v37), .second, .val (.long v3), .second, .val (.long v32), .second, .unset, .unset] [(.ref b9)])
    refine Goes.callV (argsL := []) (rest := []) (W := 0) S B (rm_oldest l Z aw hw b9 b10 u18 u26 _ n0 E_b9 F_b9_first F_b9_instants A_b10) E_b9 (w75 hw) (w76 hw) (w78 hw) (w77 hw) (w2 hw) (w79 hw) (by decide) (by decide) (by decide) (by decide) (by decide) rfl (lenOf pd_4 rfl) rfl (Nat.le_of_eq rfl) at_314 ?_
    intro v T h S hQ
    obtain ⟨rfl, hh⟩ := hQ
    replace hh := hh.symm
    subst hh
    show Goes _ _ _ _ T (mkF me_ 317 #[.val (.long q0), .second, .val (.int p1), .val (.int p2), .val (.int p3), .val (.int p4), .val (.long v1), .second, .val (.long v2), .second, .val (.long v3), .second, .val (.long v4), .second, .val (.long v5), .second, .val (.long v6), .second, .val (.long v7), .second, .val (.long v8), .second, .val (.ref b9), .val (.long v31), .second, .val (.long v32), .second, .val (.long v33), .second, .val (.long v34), .second, .val (.int (((bi ((0 : Int64) < v34)) + (bi ((0 : Int64) < v33))) + (bi ((0 : Int64) < v32)))), .val (.long v37), .second, .val (.long v3), .second, .val (.long v32), .second, .unset, .unset] [(.long (u18 ((u26 + (0 : Int32)) &&& (3 : Int32)).toNatClampNeg))])
    rw [show (u18 ((u26 + (0 : Int32)) &&& (3 : Int32)).toNatClampNeg) = v3 from own_get (p := 0) (i := 0) hQ2_126 own_e0 (by rw [eT]; rfl)]
    show Goes _ _ _ _ T (mkF me_ 317 #[.val (.long q0), .second, .val (.int p1), .val (.int p2), .val (.int p3), .val (.int p4), .val (.long v1), .second, .val (.long v2), .second, .val (.long v3), .second, .val (.long v4), .second, .val (.long v5), .second, .val (.long v6), .second, .val (.long v7), .second, .val (.long v8), .second, .val (.ref b9), .val (.long v31), .second, .val (.long v32), .second, .val (.long v33), .second, .val (.long v34), .second, .val (.int (((bi ((0 : Int64) < v34)) + (bi ((0 : Int64) < v33))) + (bi ((0 : Int64) < v32)))), .val (.long v37), .second, .val (.long v3), .second, .val (.long v32), .second, .unset, .unset] [(.long v3)])
    refine Goes.go (fun _ => XS.lstore (g := (mkF me_ 317 #[.val (.long q0), .second, .val (.int p1), .val (.int p2), .val (.int p3), .val (.int p4), .val (.long v1), .second, .val (.long v2), .second, .val (.long v3), .second, .val (.long v4), .second, .val (.long v5), .second, .val (.long v6), .second, .val (.long v7), .second, .val (.long v8), .second, .val (.ref b9), .val (.long v31), .second, .val (.long v32), .second, .val (.long v33), .second, .val (.long v34), .second, .val (.int (((bi ((0 : Int64) < v34)) + (bi ((0 : Int64) < v33))) + (bi ((0 : Int64) < v32)))), .val (.long v37), .second, .val (.long v3), .second, .val (.long v32), .second, .unset, .unset] [(.long v3)])) S.here B.x rfl (B.d at_317) rfl (l' := #[.val (.long q0), .second, .val (.int p1), .val (.int p2), .val (.int p3), .val (.int p4), .val (.long v1), .second, .val (.long v2), .second, .val (.long v3), .second, .val (.long v4), .second, .val (.long v5), .second, .val (.long v6), .second, .val (.long v7), .second, .val (.long v8), .second, .val (.ref b9), .val (.long v31), .second, .val (.long v32), .second, .val (.long v33), .second, .val (.long v34), .second, .val (.int (((bi ((0 : Int64) < v34)) + (bi ((0 : Int64) < v33))) + (bi ((0 : Int64) < v32)))), .val (.long v37), .second, .val (.long v3), .second, .val (.long v32), .second, .val (.long v3), .second]) rfl) ?_
    show Goes _ _ _ _ T (mkF me_ 319 #[.val (.long q0), .second, .val (.int p1), .val (.int p2), .val (.int p3), .val (.int p4), .val (.long v1), .second, .val (.long v2), .second, .val (.long v3), .second, .val (.long v4), .second, .val (.long v5), .second, .val (.long v6), .second, .val (.long v7), .second, .val (.long v8), .second, .val (.ref b9), .val (.long v31), .second, .val (.long v32), .second, .val (.long v33), .second, .val (.long v34), .second, .val (.int (((bi ((0 : Int64) < v34)) + (bi ((0 : Int64) < v33))) + (bi ((0 : Int64) < v32)))), .val (.long v37), .second, .val (.long v3), .second, .val (.long v32), .second, .val (.long v3), .second] [])
    refine Goes.go (fun _ => XS.lload S.here B.x rfl (B.d at_319) rfl) ?_
    show Goes _ _ _ _ T (mkF me_ 321 #[.val (.long q0), .second, .val (.int p1), .val (.int p2), .val (.int p3), .val (.int p4), .val (.long v1), .second, .val (.long v2), .second, .val (.long v3), .second, .val (.long v4), .second, .val (.long v5), .second, .val (.long v6), .second, .val (.long v7), .second, .val (.long v8), .second, .val (.ref b9), .val (.long v31), .second, .val (.long v32), .second, .val (.long v33), .second, .val (.long v34), .second, .val (.int (((bi ((0 : Int64) < v34)) + (bi ((0 : Int64) < v33))) + (bi ((0 : Int64) < v32)))), .val (.long v37), .second, .val (.long v3), .second, .val (.long v32), .second, .val (.long v3), .second] [(.long v3)])
    refine Goes.go (fun _ => XS.lload S.here B.x rfl (B.d at_321) rfl) ?_
    show Goes _ _ _ _ T (mkF me_ 323 #[.val (.long q0), .second, .val (.int p1), .val (.int p2), .val (.int p3), .val (.int p4), .val (.long v1), .second, .val (.long v2), .second, .val (.long v3), .second, .val (.long v4), .second, .val (.long v5), .second, .val (.long v6), .second, .val (.long v7), .second, .val (.long v8), .second, .val (.ref b9), .val (.long v31), .second, .val (.long v32), .second, .val (.long v33), .second, .val (.long v34), .second, .val (.int (((bi ((0 : Int64) < v34)) + (bi ((0 : Int64) < v33))) + (bi ((0 : Int64) < v32)))), .val (.long v37), .second, .val (.long v3), .second, .val (.long v32), .second, .val (.long v3), .second] [(.long v3), (.long v3)])
    refine Goes.go (fun _ => XS.lcmp S.here B.x rfl (B.d at_323) rfl) ?_
    show Goes _ _ _ _ T (mkF me_ 324 #[.val (.long q0), .second, .val (.int p1), .val (.int p2), .val (.int p3), .val (.int p4), .val (.long v1), .second, .val (.long v2), .second, .val (.long v3), .second, .val (.long v4), .second, .val (.long v5), .second, .val (.long v6), .second, .val (.long v7), .second, .val (.long v8), .second, .val (.ref b9), .val (.long v31), .second, .val (.long v32), .second, .val (.long v33), .second, .val (.long v34), .second, .val (.int (((bi ((0 : Int64) < v34)) + (bi ((0 : Int64) < v33))) + (bi ((0 : Int64) < v32)))), .val (.long v37), .second, .val (.long v3), .second, .val (.long v32), .second, .val (.long v3), .second] [(.int (lcmpW v3 v3))])
    refine Goes.go (fun _ => XS.ifYes S.here B.x rfl (pc0 := 324) (pc' := 329) rfl (B.d at_324) rfl ((if0 _ _).trans (teq ((lw_eq v3 v3).mpr (rfl : v3 = v3))).1) (by decide) (by decide)) ?_
    show Goes _ _ _ _ T (mkF me_ 329 #[.val (.long q0), .second, .val (.int p1), .val (.int p2), .val (.int p3), .val (.int p4), .val (.long v1), .second, .val (.long v2), .second, .val (.long v3), .second, .val (.long v4), .second, .val (.long v5), .second, .val (.long v6), .second, .val (.long v7), .second, .val (.long v8), .second, .val (.ref b9), .val (.long v31), .second, .val (.long v32), .second, .val (.long v33), .second, .val (.long v34), .second, .val (.int (((bi ((0 : Int64) < v34)) + (bi ((0 : Int64) < v33))) + (bi ((0 : Int64) < v32)))), .val (.long v37), .second, .val (.long v3), .second, .val (.long v32), .second, .val (.long v3), .second] [])
    refine Goes.go (fun _ => XS.lload S.here B.x rfl (B.d at_329) rfl) ?_
    show Goes _ _ _ _ T (mkF me_ 331 #[.val (.long q0), .second, .val (.int p1), .val (.int p2), .val (.int p3), .val (.int p4), .val (.long v1), .second, .val (.long v2), .second, .val (.long v3), .second, .val (.long v4), .second, .val (.long v5), .second, .val (.long v6), .second, .val (.long v7), .second, .val (.long v8), .second, .val (.ref b9), .val (.long v31), .second, .val (.long v32), .second, .val (.long v33), .second, .val (.long v34), .second, .val (.int (((bi ((0 : Int64) < v34)) + (bi ((0 : Int64) < v33))) + (bi ((0 : Int64) < v32)))), .val (.long v37), .second, .val (.long v3), .second, .val (.long v32), .second, .val (.long v3), .second] [(.long v37)])
    refine Goes.go (fun _ => XS.aload S.here B.x rfl (B.d at_331) rfl rfl) ?_
    show Goes _ _ _ _ T (mkF me_ 333 #[.val (.long q0), .second, .val (.int p1), .val (.int p2), .val (.int p3), .val (.int p4), .val (.long v1), .second, .val (.long v2), .second, .val (.long v3), .second, .val (.long v4), .second, .val (.long v5), .second, .val (.long v6), .second, .val (.long v7), .second, .val (.long v8), .second, .val (.ref b9), .val (.long v31), .second, .val (.long v32), .second, .val (.long v33), .second, .val (.long v34), .second, .val (.int (((bi ((0 : Int64) < v34)) + (bi ((0 : Int64) < v33))) + (bi ((0 : Int64) < v32)))), .val (.long v37), .second, .val (.long v3), .second, .val (.long v32), .second, .val (.long v3), .second] [(.ref b9), (.long v37)])
    refine Goes.go (fun _ => XS.lload S.here B.x rfl (B.d at_333) rfl) ?_
    show Goes _ _ _ _ T (mkF me_ 335 #[.val (.long q0), .second, .val (.int p1), .val (.int p2), .val (.int p3), .val (.int p4), .val (.long v1), .second, .val (.long v2), .second, .val (.long v3), .second, .val (.long v4), .second, .val (.long v5), .second, .val (.long v6), .second, .val (.long v7), .second, .val (.long v8), .second, .val (.ref b9), .val (.long v31), .second, .val (.long v32), .second, .val (.long v33), .second, .val (.long v34), .second, .val (.int (((bi ((0 : Int64) < v34)) + (bi ((0 : Int64) < v33))) + (bi ((0 : Int64) < v32)))), .val (.long v37), .second, .val (.long v3), .second, .val (.long v32), .second, .val (.long v3), .second] [(.long v3), (.ref b9), (.long v37)])
    refine Goes.ldcL S B (w80 hw) at_335 ?_
    show Goes _ _ _ _ T (mkF me_ 338 #[.val (.long q0), .second, .val (.int p1), .val (.int p2), .val (.int p3), .val (.int p4), .val (.long v1), .second, .val (.long v2), .second, .val (.long v3), .second, .val (.long v4), .second, .val (.long v5), .second, .val (.long v6), .second, .val (.long v7), .second, .val (.long v8), .second, .val (.ref b9), .val (.long v31), .second, .val (.long v32), .second, .val (.long v33), .second, .val (.long v34), .second, .val (.int (((bi ((0 : Int64) < v34)) + (bi ((0 : Int64) < v33))) + (bi ((0 : Int64) < v32)))), .val (.long v37), .second, .val (.long v3), .second, .val (.long v32), .second, .val (.long v3), .second] [(.long (9223372036854775807 : Int64)), (.long v3), (.ref b9), (.long v37)])
    refine Goes.callV (argsL := [(.long v3), (.long (9223372036854775807 : Int64))]) (rest := [(.long v37)]) (W := 2) S B (rm_count l Z aw hw b9 v3 (9223372036854775807 : Int64) b10 b11 u18 u19 u26 u27 u28 u29 _ n0 E_b9 F_b9_instants F_b9_lastNumbers F_b9_first F_b9_size F_b9_dropped A_b10 A_b11 hQ2_126 hs2_126 (own_S1 eT)) E_b9 (w81 hw) (w82 hw) (w84 hw) (w83 hw) (w2 hw) (w85 hw) (by decide) (by decide) (by decide) (by decide) (by decide) rfl (lenOf pd_8 rfl) rfl (Nat.le_of_eq rfl) at_338 ?_
    intro v T h S hQ
    obtain ⟨rfl, hh⟩ := hQ
    replace hh := hh.symm
    subst hh
    show Goes _ _ _ _ T (mkF me_ 341 #[.val (.long q0), .second, .val (.int p1), .val (.int p2), .val (.int p3), .val (.int p4), .val (.long v1), .second, .val (.long v2), .second, .val (.long v3), .second, .val (.long v4), .second, .val (.long v5), .second, .val (.long v6), .second, .val (.long v7), .second, .val (.long v8), .second, .val (.ref b9), .val (.long v31), .second, .val (.long v32), .second, .val (.long v33), .second, .val (.long v34), .second, .val (.int (((bi ((0 : Int64) < v34)) + (bi ((0 : Int64) < v33))) + (bi ((0 : Int64) < v32)))), .val (.long v37), .second, .val (.long v3), .second, .val (.long v32), .second, .val (.long v3), .second] [(.long (own_cnt (own_fa u27 u29 v3) ((Int32.ofNat (own_pos u29 (9223372036854775807 : Int64))) - (1 : Int32)) u26 u28 u19)), (.long v37)])
    refine Goes.go (fun _ => XS.lsub S.here B.x rfl (B.d at_341) rfl) ?_
    show Goes _ _ _ _ T (mkF me_ 342 #[.val (.long q0), .second, .val (.int p1), .val (.int p2), .val (.int p3), .val (.int p4), .val (.long v1), .second, .val (.long v2), .second, .val (.long v3), .second, .val (.long v4), .second, .val (.long v5), .second, .val (.long v6), .second, .val (.long v7), .second, .val (.long v8), .second, .val (.ref b9), .val (.long v31), .second, .val (.long v32), .second, .val (.long v33), .second, .val (.long v34), .second, .val (.int (((bi ((0 : Int64) < v34)) + (bi ((0 : Int64) < v33))) + (bi ((0 : Int64) < v32)))), .val (.long v37), .second, .val (.long v3), .second, .val (.long v32), .second, .val (.long v3), .second] [(.long (v37 - (own_cnt (own_fa u27 u29 v3) ((Int32.ofNat (own_pos u29 (9223372036854775807 : Int64))) - (1 : Int32)) u26 u28 u19)))])
    refine Goes.go (fun _ => XS.lload S.here B.x rfl (B.d at_342) rfl) ?_
    show Goes _ _ _ _ T (mkF me_ 344 #[.val (.long q0), .second, .val (.int p1), .val (.int p2), .val (.int p3), .val (.int p4), .val (.long v1), .second, .val (.long v2), .second, .val (.long v3), .second, .val (.long v4), .second, .val (.long v5), .second, .val (.long v6), .second, .val (.long v7), .second, .val (.long v8), .second, .val (.ref b9), .val (.long v31), .second, .val (.long v32), .second, .val (.long v33), .second, .val (.long v34), .second, .val (.int (((bi ((0 : Int64) < v34)) + (bi ((0 : Int64) < v33))) + (bi ((0 : Int64) < v32)))), .val (.long v37), .second, .val (.long v3), .second, .val (.long v32), .second, .val (.long v3), .second] [(.long v32), (.long (v37 - (own_cnt (own_fa u27 u29 v3) ((Int32.ofNat (own_pos u29 (9223372036854775807 : Int64))) - (1 : Int32)) u26 u28 u19)))])
    refine Goes.go (fun _ => XS.lcmp S.here B.x rfl (B.d at_344) rfl) ?_
    show Goes _ _ _ _ T (mkF me_ 345 #[.val (.long q0), .second, .val (.int p1), .val (.int p2), .val (.int p3), .val (.int p4), .val (.long v1), .second, .val (.long v2), .second, .val (.long v3), .second, .val (.long v4), .second, .val (.long v5), .second, .val (.long v6), .second, .val (.long v7), .second, .val (.long v8), .second, .val (.ref b9), .val (.long v31), .second, .val (.long v32), .second, .val (.long v33), .second, .val (.long v34), .second, .val (.int (((bi ((0 : Int64) < v34)) + (bi ((0 : Int64) < v33))) + (bi ((0 : Int64) < v32)))), .val (.long v37), .second, .val (.long v3), .second, .val (.long v32), .second, .val (.long v3), .second] [(.int (lcmpW (v37 - (own_cnt (own_fa u27 u29 v3) ((Int32.ofNat (own_pos u29 (9223372036854775807 : Int64))) - (1 : Int32)) u26 u28 u19)) v32))])
    refine Goes.go (fun _ => XS.ifNo S.here B.x rfl (B.d at_345) rfl ((if0 _ _).trans (teq ((lw_eq (v37 - (own_cnt (own_fa u27 u29 v3) ((Int32.ofNat (own_pos u29 (9223372036854775807 : Int64))) - (1 : Int32)) u26 u28 u19)) v32).mpr (show (v37 - (own_cnt (own_fa u27 u29 v3) ((Int32.ofNat (own_pos u29 (9223372036854775807 : Int64))) - (1 : Int32)) u26 u28 u19)) = v32 from own_fA1 eT eN hbd hv37 xr))).2)) ?_
    show Goes _ _ _ _ T (mkF me_ 348 #[.val (.long q0), .second, .val (.int p1), .val (.int p2), .val (.int p3), .val (.int p4), .val (.long v1), .second, .val (.long v2), .second, .val (.long v3), .second, .val (.long v4), .second, .val (.long v5), .second, .val (.long v6), .second, .val (.long v7), .second, .val (.long v8), .second, .val (.ref b9), .val (.long v31), .second, .val (.long v32), .second, .val (.long v33), .second, .val (.long v34), .second, .val (.int (((bi ((0 : Int64) < v34)) + (bi ((0 : Int64) < v33))) + (bi ((0 : Int64) < v32)))), .val (.long v37), .second, .val (.long v3), .second, .val (.long v32), .second, .val (.long v3), .second] [])
    refine Goes.go (fun _ => XS.iconst S.here B.x rfl (B.d at_348)) ?_
    show Goes _ _ _ _ T (mkF me_ 349 #[.val (.long q0), .second, .val (.int p1), .val (.int p2), .val (.int p3), .val (.int p4), .val (.long v1), .second, .val (.long v2), .second, .val (.long v3), .second, .val (.long v4), .second, .val (.long v5), .second, .val (.long v6), .second, .val (.long v7), .second, .val (.long v8), .second, .val (.ref b9), .val (.long v31), .second, .val (.long v32), .second, .val (.long v33), .second, .val (.long v34), .second, .val (.int (((bi ((0 : Int64) < v34)) + (bi ((0 : Int64) < v33))) + (bi ((0 : Int64) < v32)))), .val (.long v37), .second, .val (.long v3), .second, .val (.long v32), .second, .val (.long v3), .second] [(.int (1 : Int32))])
    refine Goes.go (fun _ => XS.goto S.here B.x rfl (pc0 := 349) (pc' := 353) rfl (B.d at_349) (by decide) (by decide)) ?_
    show Goes _ _ _ _ T (mkF me_ 353 #[.val (.long q0), .second, .val (.int p1), .val (.int p2), .val (.int p3), .val (.int p4), .val (.long v1), .second, .val (.long v2), .second, .val (.long v3), .second, .val (.long v4), .second, .val (.long v5), .second, .val (.long v6), .second, .val (.long v7), .second, .val (.long v8), .second, .val (.ref b9), .val (.long v31), .second, .val (.long v32), .second, .val (.long v33), .second, .val (.long v34), .second, .val (.int (((bi ((0 : Int64) < v34)) + (bi ((0 : Int64) < v33))) + (bi ((0 : Int64) < v32)))), .val (.long v37), .second, .val (.long v3), .second, .val (.long v32), .second, .val (.long v3), .second] [(.int (1 : Int32))])
    refine Goes.retN S B (by simp) at_353 (by decide) (by decide) ?_
    exact rfl
  · skip
    show Goes _ _ _ _ T (mkF me_ 174 #[.val (.long q0), .second, .val (.int p1), .val (.int p2), .val (.int p3), .val (.int p4), .val (.long v1), .second, .val (.long v2), .second, .val (.long v3), .second, .val (.long v4), .second, .val (.long v5), .second, .val (.long v6), .second, .val (.long v7), .second, .val (.long v8), .second, .val (.ref b9), .val (.long v31), .second, .val (.long v32), .second, .val (.long v33), .second, .val (.long v34), .second, .unset, .unset, .unset, .unset, .unset, .unset, .unset, .unset, .unset] [])
    refine Goes.go (fun _ => XS.lload S.here B.x rfl (B.d at_174) rfl) ?_
    show Goes _ _ _ _ T (mkF me_ 176 #[.val (.long q0), .second, .val (.int p1), .val (.int p2), .val (.int p3), .val (.int p4), .val (.long v1), .second, .val (.long v2), .second, .val (.long v3), .second, .val (.long v4), .second, .val (.long v5), .second, .val (.long v6), .second, .val (.long v7), .second, .val (.long v8), .second, .val (.ref b9), .val (.long v31), .second, .val (.long v32), .second, .val (.long v33), .second, .val (.long v34), .second, .unset, .unset, .unset, .unset, .unset, .unset, .unset, .unset, .unset] [(.long v34)])
    refine Goes.go (fun _ => XS.lconst S.here B.x rfl (B.d at_176)) ?_
    show Goes _ _ _ _ T (mkF me_ 177 #[.val (.long q0), .second, .val (.int p1), .val (.int p2), .val (.int p3), .val (.int p4), .val (.long v1), .second, .val (.long v2), .second, .val (.long v3), .second, .val (.long v4), .second, .val (.long v5), .second, .val (.long v6), .second, .val (.long v7), .second, .val (.long v8), .second, .val (.ref b9), .val (.long v31), .second, .val (.long v32), .second, .val (.long v33), .second, .val (.long v34), .second, .unset, .unset, .unset, .unset, .unset, .unset, .unset, .unset, .unset] [(.long (0 : Int64)), (.long v34)])
    refine Goes.go (fun _ => XS.lcmp S.here B.x rfl (B.d at_177) rfl) ?_
    show Goes _ _ _ _ T (mkF me_ 178 #[.val (.long q0), .second, .val (.int p1), .val (.int p2), .val (.int p3), .val (.int p4), .val (.long v1), .second, .val (.long v2), .second, .val (.long v3), .second, .val (.long v4), .second, .val (.long v5), .second, .val (.long v6), .second, .val (.long v7), .second, .val (.long v8), .second, .val (.ref b9), .val (.long v31), .second, .val (.long v32), .second, .val (.long v33), .second, .val (.long v34), .second, .unset, .unset, .unset, .unset, .unset, .unset, .unset, .unset, .unset] [(.int (lcmpW v34 (0 : Int64)))])
    refine Goes.dia (P := (0 : Int64) < v34) (mk := fun z => (mkF me_ 186 #[.val (.long q0), .second, .val (.int p1), .val (.int p2), .val (.int p3), .val (.int p4), .val (.long v1), .second, .val (.long v2), .second, .val (.long v3), .second, .val (.long v4), .second, .val (.long v5), .second, .val (.long v6), .second, .val (.long v7), .second, .val (.long v8), .second, .val (.ref b9), .val (.long v31), .second, .val (.long v32), .second, .val (.long v33), .second, .val (.long v34), .second, .unset, .unset, .unset, .unset, .unset, .unset, .unset, .unset, .unset] [(.int z)])) (fun hc178 kk => ?_) (fun hc178 kk => ?_) ?_
    · skip
      refine Goes.go (fun _ => XS.ifNo S.here B.x rfl (B.d at_178) rfl ((if0 _ _).trans (tlt ((lw_gt v34 (0 : Int64)).mpr hc178)).2.2.2)) ?_
      show Goes _ _ _ _ T (mkF me_ 181 #[.val (.long q0), .second, .val (.int p1), .val (.int p2), .val (.int p3), .val (.int p4), .val (.long v1), .second, .val (.long v2), .second, .val (.long v3), .second, .val (.long v4), .second, .val (.long v5), .second, .val (.long v6), .second, .val (.long v7), .second, .val (.long v8), .second, .val (.ref b9), .val (.long v31), .second, .val (.long v32), .second, .val (.long v33), .second, .val (.long v34), .second, .unset, .unset, .unset, .unset, .unset, .unset, .unset, .unset, .unset] [])
      refine Goes.go (fun _ => XS.iconst S.here B.x rfl (B.d at_181)) ?_
      show Goes _ _ _ _ T (mkF me_ 182 #[.val (.long q0), .second, .val (.int p1), .val (.int p2), .val (.int p3), .val (.int p4), .val (.long v1), .second, .val (.long v2), .second, .val (.long v3), .second, .val (.long v4), .second, .val (.long v5), .second, .val (.long v6), .second, .val (.long v7), .second, .val (.long v8), .second, .val (.ref b9), .val (.long v31), .second, .val (.long v32), .second, .val (.long v33), .second, .val (.long v34), .second, .unset, .unset, .unset, .unset, .unset, .unset, .unset, .unset, .unset] [(.int (1 : Int32))])
      refine Goes.go (fun _ => XS.goto S.here B.x rfl (pc0 := 182) (pc' := 186) rfl (B.d at_182) (by decide) (by decide)) ?_
      show Goes _ _ _ _ T (mkF me_ 186 #[.val (.long q0), .second, .val (.int p1), .val (.int p2), .val (.int p3), .val (.int p4), .val (.long v1), .second, .val (.long v2), .second, .val (.long v3), .second, .val (.long v4), .second, .val (.long v5), .second, .val (.long v6), .second, .val (.long v7), .second, .val (.long v8), .second, .val (.ref b9), .val (.long v31), .second, .val (.long v32), .second, .val (.long v33), .second, .val (.long v34), .second, .unset, .unset, .unset, .unset, .unset, .unset, .unset, .unset, .unset] [(.int (1 : Int32))])
      exact kk
    · skip
      refine Goes.go (fun _ => XS.ifYes S.here B.x rfl (pc0 := 178) (pc' := 185) rfl (B.d at_178) rfl ((if0 _ _).trans (flt (mt (lw_gt v34 (0 : Int64)).mp hc178)).2.2.2) (by decide) (by decide)) ?_
      show Goes _ _ _ _ T (mkF me_ 185 #[.val (.long q0), .second, .val (.int p1), .val (.int p2), .val (.int p3), .val (.int p4), .val (.long v1), .second, .val (.long v2), .second, .val (.long v3), .second, .val (.long v4), .second, .val (.long v5), .second, .val (.long v6), .second, .val (.long v7), .second, .val (.long v8), .second, .val (.ref b9), .val (.long v31), .second, .val (.long v32), .second, .val (.long v33), .second, .val (.long v34), .second, .unset, .unset, .unset, .unset, .unset, .unset, .unset, .unset, .unset] [])
      refine Goes.go (fun _ => XS.iconst S.here B.x rfl (B.d at_185)) ?_
      show Goes _ _ _ _ T (mkF me_ 186 #[.val (.long q0), .second, .val (.int p1), .val (.int p2), .val (.int p3), .val (.int p4), .val (.long v1), .second, .val (.long v2), .second, .val (.long v3), .second, .val (.long v4), .second, .val (.long v5), .second, .val (.long v6), .second, .val (.long v7), .second, .val (.long v8), .second, .val (.ref b9), .val (.long v31), .second, .val (.long v32), .second, .val (.long v33), .second, .val (.long v34), .second, .unset, .unset, .unset, .unset, .unset, .unset, .unset, .unset, .unset] [(.int (0 : Int32))])
      exact kk
    show Goes _ _ _ _ T (mkF me_ 186 #[.val (.long q0), .second, .val (.int p1), .val (.int p2), .val (.int p3), .val (.int p4), .val (.long v1), .second, .val (.long v2), .second, .val (.long v3), .second, .val (.long v4), .second, .val (.long v5), .second, .val (.long v6), .second, .val (.long v7), .second, .val (.long v8), .second, .val (.ref b9), .val (.long v31), .second, .val (.long v32), .second, .val (.long v33), .second, .val (.long v34), .second, .unset, .unset, .unset, .unset, .unset, .unset, .unset, .unset, .unset] [(.int (bi ((0 : Int64) < v34)))])
    refine Goes.go (fun _ => XS.lload S.here B.x rfl (B.d at_186) rfl) ?_
    show Goes _ _ _ _ T (mkF me_ 188 #[.val (.long q0), .second, .val (.int p1), .val (.int p2), .val (.int p3), .val (.int p4), .val (.long v1), .second, .val (.long v2), .second, .val (.long v3), .second, .val (.long v4), .second, .val (.long v5), .second, .val (.long v6), .second, .val (.long v7), .second, .val (.long v8), .second, .val (.ref b9), .val (.long v31), .second, .val (.long v32), .second, .val (.long v33), .second, .val (.long v34), .second, .unset, .unset, .unset, .unset, .unset, .unset, .unset, .unset, .unset] [(.long v33), (.int (bi ((0 : Int64) < v34)))])
    refine Goes.go (fun _ => XS.lconst S.here B.x rfl (B.d at_188)) ?_
    show Goes _ _ _ _ T (mkF me_ 189 #[.val (.long q0), .second, .val (.int p1), .val (.int p2), .val (.int p3), .val (.int p4), .val (.long v1), .second, .val (.long v2), .second, .val (.long v3), .second, .val (.long v4), .second, .val (.long v5), .second, .val (.long v6), .second, .val (.long v7), .second, .val (.long v8), .second, .val (.ref b9), .val (.long v31), .second, .val (.long v32), .second, .val (.long v33), .second, .val (.long v34), .second, .unset, .unset, .unset, .unset, .unset, .unset, .unset, .unset, .unset] [(.long (0 : Int64)), (.long v33), (.int (bi ((0 : Int64) < v34)))])
    refine Goes.go (fun _ => XS.lcmp S.here B.x rfl (B.d at_189) rfl) ?_
    show Goes _ _ _ _ T (mkF me_ 190 #[.val (.long q0), .second, .val (.int p1), .val (.int p2), .val (.int p3), .val (.int p4), .val (.long v1), .second, .val (.long v2), .second, .val (.long v3), .second, .val (.long v4), .second, .val (.long v5), .second, .val (.long v6), .second, .val (.long v7), .second, .val (.long v8), .second, .val (.ref b9), .val (.long v31), .second, .val (.long v32), .second, .val (.long v33), .second, .val (.long v34), .second, .unset, .unset, .unset, .unset, .unset, .unset, .unset, .unset, .unset] [(.int (lcmpW v33 (0 : Int64))), (.int (bi ((0 : Int64) < v34)))])
    refine Goes.dia (P := (0 : Int64) < v33) (mk := fun z => (mkF me_ 198 #[.val (.long q0), .second, .val (.int p1), .val (.int p2), .val (.int p3), .val (.int p4), .val (.long v1), .second, .val (.long v2), .second, .val (.long v3), .second, .val (.long v4), .second, .val (.long v5), .second, .val (.long v6), .second, .val (.long v7), .second, .val (.long v8), .second, .val (.ref b9), .val (.long v31), .second, .val (.long v32), .second, .val (.long v33), .second, .val (.long v34), .second, .unset, .unset, .unset, .unset, .unset, .unset, .unset, .unset, .unset] [(.int z), (.int (bi ((0 : Int64) < v34)))])) (fun hc190 kk => ?_) (fun hc190 kk => ?_) ?_
    · skip
      refine Goes.go (fun _ => XS.ifNo S.here B.x rfl (B.d at_190) rfl ((if0 _ _).trans (tlt ((lw_gt v33 (0 : Int64)).mpr hc190)).2.2.2)) ?_
      show Goes _ _ _ _ T (mkF me_ 193 #[.val (.long q0), .second, .val (.int p1), .val (.int p2), .val (.int p3), .val (.int p4), .val (.long v1), .second, .val (.long v2), .second, .val (.long v3), .second, .val (.long v4), .second, .val (.long v5), .second, .val (.long v6), .second, .val (.long v7), .second, .val (.long v8), .second, .val (.ref b9), .val (.long v31), .second, .val (.long v32), .second, .val (.long v33), .second, .val (.long v34), .second, .unset, .unset, .unset, .unset, .unset, .unset, .unset, .unset, .unset] [(.int (bi ((0 : Int64) < v34)))])
      refine Goes.go (fun _ => XS.iconst S.here B.x rfl (B.d at_193)) ?_
      show Goes _ _ _ _ T (mkF me_ 194 #[.val (.long q0), .second, .val (.int p1), .val (.int p2), .val (.int p3), .val (.int p4), .val (.long v1), .second, .val (.long v2), .second, .val (.long v3), .second, .val (.long v4), .second, .val (.long v5), .second, .val (.long v6), .second, .val (.long v7), .second, .val (.long v8), .second, .val (.ref b9), .val (.long v31), .second, .val (.long v32), .second, .val (.long v33), .second, .val (.long v34), .second, .unset, .unset, .unset, .unset, .unset, .unset, .unset, .unset, .unset] [(.int (1 : Int32)), (.int (bi ((0 : Int64) < v34)))])
      refine Goes.go (fun _ => XS.goto S.here B.x rfl (pc0 := 194) (pc' := 198) rfl (B.d at_194) (by decide) (by decide)) ?_
      show Goes _ _ _ _ T (mkF me_ 198 #[.val (.long q0), .second, .val (.int p1), .val (.int p2), .val (.int p3), .val (.int p4), .val (.long v1), .second, .val (.long v2), .second, .val (.long v3), .second, .val (.long v4), .second, .val (.long v5), .second, .val (.long v6), .second, .val (.long v7), .second, .val (.long v8), .second, .val (.ref b9), .val (.long v31), .second, .val (.long v32), .second, .val (.long v33), .second, .val (.long v34), .second, .unset, .unset, .unset, .unset, .unset, .unset, .unset, .unset, .unset] [(.int (1 : Int32)), (.int (bi ((0 : Int64) < v34)))])
      exact kk
    · skip
      refine Goes.go (fun _ => XS.ifYes S.here B.x rfl (pc0 := 190) (pc' := 197) rfl (B.d at_190) rfl ((if0 _ _).trans (flt (mt (lw_gt v33 (0 : Int64)).mp hc190)).2.2.2) (by decide) (by decide)) ?_
      show Goes _ _ _ _ T (mkF me_ 197 #[.val (.long q0), .second, .val (.int p1), .val (.int p2), .val (.int p3), .val (.int p4), .val (.long v1), .second, .val (.long v2), .second, .val (.long v3), .second, .val (.long v4), .second, .val (.long v5), .second, .val (.long v6), .second, .val (.long v7), .second, .val (.long v8), .second, .val (.ref b9), .val (.long v31), .second, .val (.long v32), .second, .val (.long v33), .second, .val (.long v34), .second, .unset, .unset, .unset, .unset, .unset, .unset, .unset, .unset, .unset] [(.int (bi ((0 : Int64) < v34)))])
      refine Goes.go (fun _ => XS.iconst S.here B.x rfl (B.d at_197)) ?_
      show Goes _ _ _ _ T (mkF me_ 198 #[.val (.long q0), .second, .val (.int p1), .val (.int p2), .val (.int p3), .val (.int p4), .val (.long v1), .second, .val (.long v2), .second, .val (.long v3), .second, .val (.long v4), .second, .val (.long v5), .second, .val (.long v6), .second, .val (.long v7), .second, .val (.long v8), .second, .val (.ref b9), .val (.long v31), .second, .val (.long v32), .second, .val (.long v33), .second, .val (.long v34), .second, .unset, .unset, .unset, .unset, .unset, .unset, .unset, .unset, .unset] [(.int (0 : Int32)), (.int (bi ((0 : Int64) < v34)))])
      exact kk
    show Goes _ _ _ _ T (mkF me_ 198 #[.val (.long q0), .second, .val (.int p1), .val (.int p2), .val (.int p3), .val (.int p4), .val (.long v1), .second, .val (.long v2), .second, .val (.long v3), .second, .val (.long v4), .second, .val (.long v5), .second, .val (.long v6), .second, .val (.long v7), .second, .val (.long v8), .second, .val (.ref b9), .val (.long v31), .second, .val (.long v32), .second, .val (.long v33), .second, .val (.long v34), .second, .unset, .unset, .unset, .unset, .unset, .unset, .unset, .unset, .unset] [(.int (bi ((0 : Int64) < v33))), (.int (bi ((0 : Int64) < v34)))])
    refine Goes.go (fun _ => XS.iadd S.here B.x rfl (B.d at_198) rfl) ?_
    show Goes _ _ _ _ T (mkF me_ 199 #[.val (.long q0), .second, .val (.int p1), .val (.int p2), .val (.int p3), .val (.int p4), .val (.long v1), .second, .val (.long v2), .second, .val (.long v3), .second, .val (.long v4), .second, .val (.long v5), .second, .val (.long v6), .second, .val (.long v7), .second, .val (.long v8), .second, .val (.ref b9), .val (.long v31), .second, .val (.long v32), .second, .val (.long v33), .second, .val (.long v34), .second, .unset, .unset, .unset, .unset, .unset, .unset, .unset, .unset, .unset] [(.int ((bi ((0 : Int64) < v34)) + (bi ((0 : Int64) < v33))))])
    refine Goes.go (fun _ => XS.lload S.here B.x rfl (B.d at_199) rfl) ?_
    show Goes _ _ _ _ T (mkF me_ 201 #[.val (.long q0), .second, .val (.int p1), .val (.int p2), .val (.int p3), .val (.int p4), .val (.long v1), .second, .val (.long v2), .second, .val (.long v3), .second, .val (.long v4), .second, .val (.long v5), .second, .val (.long v6), .second, .val (.long v7), .second, .val (.long v8), .second, .val (.ref b9), .val (.long v31), .second, .val (.long v32), .second, .val (.long v33), .second, .val (.long v34), .second, .unset, .unset, .unset, .unset, .unset, .unset, .unset, .unset, .unset] [(.long v32), (.int ((bi ((0 : Int64) < v34)) + (bi ((0 : Int64) < v33))))])
    refine Goes.go (fun _ => XS.lconst S.here B.x rfl (B.d at_201)) ?_
    show Goes _ _ _ _ T (mkF me_ 202 #[.val (.long q0), .second, .val (.int p1), .val (.int p2), .val (.int p3), .val (.int p4), .val (.long v1), .second, .val (.long v2), .second, .val (.long v3), .second, .val (.long v4), .second, .val (.long v5), .second, .val (.long v6), .second, .val (.long v7), .second, .val (.long v8), .second, .val (.ref b9), .val (.long v31), .second, .val (.long v32), .second, .val (.long v33), .second, .val (.long v34), .second, .unset, .unset, .unset, .unset, .unset, .unset, .unset, .unset, .unset] [(.long (0 : Int64)), (.long v32), (.int ((bi ((0 : Int64) < v34)) + (bi ((0 : Int64) < v33))))])
    refine Goes.go (fun _ => XS.lcmp S.here B.x rfl (B.d at_202) rfl) ?_
    show Goes _ _ _ _ T (mkF me_ 203 #[.val (.long q0), .second, .val (.int p1), .val (.int p2), .val (.int p3), .val (.int p4), .val (.long v1), .second, .val (.long v2), .second, .val (.long v3), .second, .val (.long v4), .second, .val (.long v5), .second, .val (.long v6), .second, .val (.long v7), .second, .val (.long v8), .second, .val (.ref b9), .val (.long v31), .second, .val (.long v32), .second, .val (.long v33), .second, .val (.long v34), .second, .unset, .unset, .unset, .unset, .unset, .unset, .unset, .unset, .unset] [(.int (lcmpW v32 (0 : Int64))), (.int ((bi ((0 : Int64) < v34)) + (bi ((0 : Int64) < v33))))])
    refine Goes.dia (P := (0 : Int64) < v32) (mk := fun z => (mkF me_ 211 #[.val (.long q0), .second, .val (.int p1), .val (.int p2), .val (.int p3), .val (.int p4), .val (.long v1), .second, .val (.long v2), .second, .val (.long v3), .second, .val (.long v4), .second, .val (.long v5), .second, .val (.long v6), .second, .val (.long v7), .second, .val (.long v8), .second, .val (.ref b9), .val (.long v31), .second, .val (.long v32), .second, .val (.long v33), .second, .val (.long v34), .second, .unset, .unset, .unset, .unset, .unset, .unset, .unset, .unset, .unset] [(.int z), (.int ((bi ((0 : Int64) < v34)) + (bi ((0 : Int64) < v33))))])) (fun hc203 kk => ?_) (fun hc203 kk => ?_) ?_
    · skip
      refine Goes.go (fun _ => XS.ifNo S.here B.x rfl (B.d at_203) rfl ((if0 _ _).trans (tlt ((lw_gt v32 (0 : Int64)).mpr hc203)).2.2.2)) ?_
      show Goes _ _ _ _ T (mkF me_ 206 #[.val (.long q0), .second, .val (.int p1), .val (.int p2), .val (.int p3), .val (.int p4), .val (.long v1), .second, .val (.long v2), .second, .val (.long v3), .second, .val (.long v4), .second, .val (.long v5), .second, .val (.long v6), .second, .val (.long v7), .second, .val (.long v8), .second, .val (.ref b9), .val (.long v31), .second, .val (.long v32), .second, .val (.long v33), .second, .val (.long v34), .second, .unset, .unset, .unset, .unset, .unset, .unset, .unset, .unset, .unset] [(.int ((bi ((0 : Int64) < v34)) + (bi ((0 : Int64) < v33))))])
      refine Goes.go (fun _ => XS.iconst S.here B.x rfl (B.d at_206)) ?_
      show Goes _ _ _ _ T (mkF me_ 207 #[.val (.long q0), .second, .val (.int p1), .val (.int p2), .val (.int p3), .val (.int p4), .val (.long v1), .second, .val (.long v2), .second, .val (.long v3), .second, .val (.long v4), .second, .val (.long v5), .second, .val (.long v6), .second, .val (.long v7), .second, .val (.long v8), .second, .val (.ref b9), .val (.long v31), .second, .val (.long v32), .second, .val (.long v33), .second, .val (.long v34), .second, .unset, .unset, .unset, .unset, .unset, .unset, .unset, .unset, .unset] [(.int (1 : Int32)), (.int ((bi ((0 : Int64) < v34)) + (bi ((0 : Int64) < v33))))])
      refine Goes.go (fun _ => XS.goto S.here B.x rfl (pc0 := 207) (pc' := 211) rfl (B.d at_207) (by decide) (by decide)) ?_
      show Goes _ _ _ _ T (mkF me_ 211 #[.val (.long q0), .second, .val (.int p1), .val (.int p2), .val (.int p3), .val (.int p4), .val (.long v1), .second, .val (.long v2), .second, .val (.long v3), .second, .val (.long v4), .second, .val (.long v5), .second, .val (.long v6), .second, .val (.long v7), .second, .val (.long v8), .second, .val (.ref b9), .val (.long v31), .second, .val (.long v32), .second, .val (.long v33), .second, .val (.long v34), .second, .unset, .unset, .unset, .unset, .unset, .unset, .unset, .unset, .unset] [(.int (1 : Int32)), (.int ((bi ((0 : Int64) < v34)) + (bi ((0 : Int64) < v33))))])
      exact kk
    · skip
      refine Goes.go (fun _ => XS.ifYes S.here B.x rfl (pc0 := 203) (pc' := 210) rfl (B.d at_203) rfl ((if0 _ _).trans (flt (mt (lw_gt v32 (0 : Int64)).mp hc203)).2.2.2) (by decide) (by decide)) ?_
      show Goes _ _ _ _ T (mkF me_ 210 #[.val (.long q0), .second, .val (.int p1), .val (.int p2), .val (.int p3), .val (.int p4), .val (.long v1), .second, .val (.long v2), .second, .val (.long v3), .second, .val (.long v4), .second, .val (.long v5), .second, .val (.long v6), .second, .val (.long v7), .second, .val (.long v8), .second, .val (.ref b9), .val (.long v31), .second, .val (.long v32), .second, .val (.long v33), .second, .val (.long v34), .second, .unset, .unset, .unset, .unset, .unset, .unset, .unset, .unset, .unset] [(.int ((bi ((0 : Int64) < v34)) + (bi ((0 : Int64) < v33))))])
      refine Goes.go (fun _ => XS.iconst S.here B.x rfl (B.d at_210)) ?_
      show Goes _ _ _ _ T (mkF me_ 211 #[.val (.long q0), .second, .val (.int p1), .val (.int p2), .val (.int p3), .val (.int p4), .val (.long v1), .second, .val (.long v2), .second, .val (.long v3), .second, .val (.long v4), .second, .val (.long v5), .second, .val (.long v6), .second, .val (.long v7), .second, .val (.long v8), .second, .val (.ref b9), .val (.long v31), .second, .val (.long v32), .second, .val (.long v33), .second, .val (.long v34), .second, .unset, .unset, .unset, .unset, .unset, .unset, .unset, .unset, .unset] [(.int (0 : Int32)), (.int ((bi ((0 : Int64) < v34)) + (bi ((0 : Int64) < v33))))])
      exact kk
    show Goes _ _ _ _ T (mkF me_ 211 #[.val (.long q0), .second, .val (.int p1), .val (.int p2), .val (.int p3), .val (.int p4), .val (.long v1), .second, .val (.long v2), .second, .val (.long v3), .second, .val (.long v4), .second, .val (.long v5), .second, .val (.long v6), .second, .val (.long v7), .second, .val (.long v8), .second, .val (.ref b9), .val (.long v31), .second, .val (.long v32), .second, .val (.long v33), .second, .val (.long v34), .second, .unset, .unset, .unset, .unset, .unset, .unset, .unset, .unset, .unset] [(.int (bi ((0 : Int64) < v32))), (.int ((bi ((0 : Int64) < v34)) + (bi ((0 : Int64) < v33))))])
    refine Goes.go (fun _ => XS.iadd S.here B.x rfl (B.d at_211) rfl) ?_
    show Goes _ _ _ _ T (mkF me_ 212 #[.val (.long q0), .second, .val (.int p1), .val (.int p2), .val (.int p3), .val (.int p4), .val (.long v1), .second, .val (.long v2), .second, .val (.long v3), .second, .val (.long v4), .second, .val (.long v5), .second, .val (.long v6), .second, .val (.long v7), .second, .val (.long v8), .second, .val (.ref b9), .val (.long v31), .second, .val (.long v32), .second, .val (.long v33), .second, .val (.long v34), .second, .unset, .unset, .unset, .unset, .unset, .unset, .unset, .unset, .unset] [(.int (((bi ((0 : Int64) < v34)) + (bi ((0 : Int64) < v33))) + (bi ((0 : Int64) < v32))))])
    refine Goes.go (fun _ => XS.istore (g := (mkF me_ 212 #[.val (.long q0), .second, .val (.int p1), .val (.int p2), .val (.int p3), .val (.int p4), .val (.long v1), .second, .val (.long v2), .second, .val (.long v3), .second, .val (.long v4), .second, .val (.long v5), .second, .val (.long v6), .second, .val (.long v7), .second, .val (.long v8), .second, .val (.ref b9), .val (.long v31), .second, .val (.long v32), .second, .val (.long v33), .second, .val (.long v34), .second, .unset, .unset, .unset, .unset, .unset, .unset, .unset, .unset, .unset] [(.int (((bi ((0 : Int64) < v34)) + (bi ((0 : Int64) < v33))) + (bi ((0 : Int64) < v32))))])) S.here B.x rfl (B.d at_212) rfl (l' := #[.val (.long q0), .second, .val (.int p1), .val (.int p2), .val (.int p3), .val (.int p4), .val (.long v1), .second, .val (.long v2), .second, .val (.long v3), .second, .val (.long v4), .second, .val (.long v5), .second, .val (.long v6), .second, .val (.long v7), .second, .val (.long v8), .second, .val (.ref b9), .val (.long v31), .second, .val (.long v32), .second, .val (.long v33), .second, .val (.long v34), .second, .val (.int (((bi ((0 : Int64) < v34)) + (bi ((0 : Int64) < v33))) + (bi ((0 : Int64) < v32)))), .unset, .unset, .unset, .unset, .unset, .unset, .unset, .unset]) rfl) ?_
    show Goes _ _ _ _ T (mkF me_ 214 #[.val (.long q0), .second, .val (.int p1), .val (.int p2), .val (.int p3), .val (.int p4), .val (.long v1), .second, .val (.long v2), .second, .val (.long v3), .second, .val (.long v4), .second, .val (.long v5), .second, .val (.long v6), .second, .val (.long v7), .second, .val (.long v8), .second, .val (.ref b9), .val (.long v31), .second, .val (.long v32), .second, .val (.long v33), .second, .val (.long v34), .second, .val (.int (((bi ((0 : Int64) < v34)) + (bi ((0 : Int64) < v33))) + (bi ((0 : Int64) < v32)))), .unset, .unset, .unset, .unset, .unset, .unset, .unset, .unset] [])
    refine Goes.go (fun _ => XS.aload S.here B.x rfl (B.d at_214) rfl rfl) ?_
    show Goes _ _ _ _ T (mkF me_ 216 #[.val (.long q0), .second, .val (.int p1), .val (.int p2), .val (.int p3), .val (.int p4), .val (.long v1), .second, .val (.long v2), .second, .val (.long v3), .second, .val (.long v4), .second, .val (.long v5), .second, .val (.long v6), .second, .val (.long v7), .second, .val (.long v8), .second, .val (.ref b9), .val (.long v31), .second, .val (.long v32), .second, .val (.long v33), .second, .val (.long v34), .second, .val (.int (((bi ((0 : Int64) < v34)) + (bi ((0 : Int64) < v33))) + (bi ((0 : Int64) < v32)))), .unset, .unset, .unset, .unset, .unset, .unset, .unset, .unset] [(.ref b9)])
    refine Goes.callV (argsL := []) (rest := []) (W := 0) S B (rm_permits l Z aw hw b9 b10 b11 (fun i => (.long (u18 i))) u19 u26 u27 u28 _ n0 E_b9 F_b9_instants F_b9_lastNumbers F_b9_first F_b9_size F_b9_dropped A_b10 A_b11) E_b9 (w69 hw) (w57 hw) (w59 hw) (w58 hw) (w2 hw) (w60 hw) (by decide) (by decide) (by decide) (by decide) (by decide) rfl (lenOf pd_4 rfl) rfl (Nat.le_of_eq rfl) at_216 ?_
    intro v T h S hQ
    obtain ⟨rfl, hh⟩ := hQ
    replace hh := hh.symm
    subst hh
    show Goes _ _ _ _ T (mkF me_ 219 #[.val (.long q0), .second, .val (.int p1), .val (.int p2), .val (.int p3), .val (.int p4), .val (.long v1), .second, .val (.long v2), .second, .val (.long v3), .second, .val (.long v4), .second, .val (.long v5), .second, .val (.long v6), .second, .val (.long v7), .second, .val (.long v8), .second, .val (.ref b9), .val (.long v31), .second, .val (.long v32), .second, .val (.long v33), .second, .val (.long v34), .second, .val (.int (((bi ((0 : Int64) < v34)) + (bi ((0 : Int64) < v33))) + (bi ((0 : Int64) < v32)))), .unset, .unset, .unset, .unset, .unset, .unset, .unset, .unset] [(.long (own_perm u27 u28 (u19 ((u26 + (u27 - (1 : Int32))) &&& (3 : Int32)).toNatClampNeg)))])
    rw [own_pt hN2_126 hs2_126 hl2_126]
    show Goes _ _ _ _ T (mkF me_ 219 #[.val (.long q0), .second, .val (.int p1), .val (.int p2), .val (.int p3), .val (.int p4), .val (.long v1), .second, .val (.long v2), .second, .val (.long v3), .second, .val (.long v4), .second, .val (.long v5), .second, .val (.long v6), .second, .val (.long v7), .second, .val (.long v8), .second, .val (.ref b9), .val (.long v31), .second, .val (.long v32), .second, .val (.long v33), .second, .val (.long v34), .second, .val (.int (((bi ((0 : Int64) < v34)) + (bi ((0 : Int64) < v33))) + (bi ((0 : Int64) < v32)))), .unset, .unset, .unset, .unset, .unset, .unset, .unset, .unset] [(.long (own_tt u28 u30))])
    generalize hv38 : (own_tt u28 u30) = v38
    refine Goes.go (fun _ => XS.lstore (g := (mkF me_ 219 #[.val (.long q0), .second, .val (.int p1), .val (.int p2), .val (.int p3), .val (.int p4), .val (.long v1), .second, .val (.long v2), .second, .val (.long v3), .second, .val (.long v4), .second, .val (.long v5), .second, .val (.long v6), .second, .val (.long v7), .second, .val (.long v8), .second, .val (.ref b9), .val (.long v31), .second, .val (.long v32), .second, .val (.long v33), .second, .val (.long v34), .second, .val (.int (((bi ((0 : Int64) < v34)) + (bi ((0 : Int64) < v33))) + (bi ((0 : Int64) < v32)))), .unset, .unset, .unset, .unset, .unset, .unset, .unset, .unset] [(.long v38)])) S.here B.x rfl (B.d at_219) rfl (l' := #[.val (.long q0), .second, .val (.int p1), .val (.int p2), .val (.int p3), .val (.int p4), .val (.long v1), .second, .val (.long v2), .second, .val (.long v3), .second, .val (.long v4), .second, .val (.long v5), .second, .val (.long v6), .second, .val (.long v7), .second, .val (.long v8), .second, .val (.ref b9), .val (.long v31), .second, .val (.long v32), .second, .val (.long v33), .second, .val (.long v34), .second, .val (.int (((bi ((0 : Int64) < v34)) + (bi ((0 : Int64) < v33))) + (bi ((0 : Int64) < v32)))), .val (.long v38), .second, .unset, .unset, .unset, .unset, .unset, .unset]) rfl) ?_
    show Goes _ _ _ _ T (mkF me_ 221 #[.val (.long q0), .second, .val (.int p1), .val (.int p2), .val (.int p3), .val (.int p4), .val (.long v1), .second, .val (.long v2), .second, .val (.long v3), .second, .val (.long v4), .second, .val (.long v5), .second, .val (.long v6), .second, .val (.long v7), .second, .val (.long v8), .second, .val (.ref b9), .val (.long v31), .second, .val (.long v32), .second, .val (.long v33), .second, .val (.long v34), .second, .val (.int (((bi ((0 : Int64) < v34)) + (bi ((0 : Int64) < v33))) + (bi ((0 : Int64) < v32)))), .val (.long v38), .second, .unset, .unset, .unset, .unset, .unset, .unset] [])
    refine Goes.go (fun _ => XS.lload S.here B.x rfl (B.d at_221) rfl) ?_
    show Goes _ _ _ _ T (mkF me_ 223 #[.val (.long q0), .second, .val (.int p1), .val (.int p2), .val (.int p3), .val (.int p4), .val (.long v1), .second, .val (.long v2), .second, .val (.long v3), .second, .val (.long v4), .second, .val (.long v5), .second, .val (.long v6), .second, .val (.long v7), .second, .val (.long v8), .second, .val (.ref b9), .val (.long v31), .second, .val (.long v32), .second, .val (.long v33), .second, .val (.long v34), .second, .val (.int (((bi ((0 : Int64) < v34)) + (bi ((0 : Int64) < v33))) + (bi ((0 : Int64) < v32)))), .val (.long v38), .second, .unset, .unset, .unset, .unset, .unset, .unset] [(.long v38)])
    refine Goes.go (fun _ => XS.lload S.here B.x rfl (B.d at_223) rfl) ?_
    show Goes _ _ _ _ T (mkF me_ 225 #[.val (.long q0), .second, .val (.int p1), .val (.int p2), .val (.int p3), .val (.int p4), .val (.long v1), .second, .val (.long v2), .second, .val (.long v3), .second, .val (.long v4), .second, .val (.long v5), .second, .val (.long v6), .second, .val (.long v7), .second, .val (.long v8), .second, .val (.ref b9), .val (.long v31), .second, .val (.long v32), .second, .val (.long v33), .second, .val (.long v34), .second, .val (.int (((bi ((0 : Int64) < v34)) + (bi ((0 : Int64) < v33))) + (bi ((0 : Int64) < v32)))), .val (.long v38), .second, .unset, .unset, .unset, .unset, .unset, .unset] [(.long v34), (.long v38)])
    refine Goes.go (fun _ => XS.lload S.here B.x rfl (B.d at_225) rfl) ?_
    show Goes _ _ _ _ T (mkF me_ 227 #[.val (.long q0), .second, .val (.int p1), .val (.int p2), .val (.int p3), .val (.int p4), .val (.long v1), .second, .val (.long v2), .second, .val (.long v3), .second, .val (.long v4), .second, .val (.long v5), .second, .val (.long v6), .second, .val (.long v7), .second, .val (.long v8), .second, .val (.ref b9), .val (.long v31), .second, .val (.long v32), .second, .val (.long v33), .second, .val (.long v34), .second, .val (.int (((bi ((0 : Int64) < v34)) + (bi ((0 : Int64) < v33))) + (bi ((0 : Int64) < v32)))), .val (.long v38), .second, .unset, .unset, .unset, .unset, .unset, .unset] [(.long v33), (.long v34), (.long v38)])
    refine Goes.go (fun _ => XS.ladd S.here B.x rfl (B.d at_227) rfl) ?_
    show Goes _ _ _ _ T (mkF me_ 228 #[.val (.long q0), .second, .val (.int p1), .val (.int p2), .val (.int p3), .val (.int p4), .val (.long v1), .second, .val (.long v2), .second, .val (.long v3), .second, .val (.long v4), .second, .val (.long v5), .second, .val (.long v6), .second, .val (.long v7), .second, .val (.long v8), .second, .val (.ref b9), .val (.long v31), .second, .val (.long v32), .second, .val (.long v33), .second, .val (.long v34), .second, .val (.int (((bi ((0 : Int64) < v34)) + (bi ((0 : Int64) < v33))) + (bi ((0 : Int64) < v32)))), .val (.long v38), .second, .unset, .unset, .unset, .unset, .unset, .unset] [(.long (v34 + v33)), (.long v38)])
    refine Goes.go (fun _ => XS.lload S.here B.x rfl (B.d at_228) rfl) ?_
    show Goes _ _ _ _ T (mkF me_ 230 #[.val (.long q0), .second, .val (.int p1), .val (.int p2), .val (.int p3), .val (.int p4), .val (.long v1), .second, .val (.long v2), .second, .val (.long v3), .second, .val (.long v4), .second, .val (.long v5), .second, .val (.long v6), .second, .val (.long v7), .second, .val (.long v8), .second, .val (.ref b9), .val (.long v31), .second, .val (.long v32), .second, .val (.long v33), .second, .val (.long v34), .second, .val (.int (((bi ((0 : Int64) < v34)) + (bi ((0 : Int64) < v33))) + (bi ((0 : Int64) < v32)))), .val (.long v38), .second, .unset, .unset, .unset, .unset, .unset, .unset] [(.long v32), (.long (v34 + v33)), (.long v38)])
    refine Goes.go (fun _ => XS.ladd S.here B.x rfl (B.d at_230) rfl) ?_
    show Goes _ _ _ _ T (mkF me_ 231 #[.val (.long q0), .second, .val (.int p1), .val (.int p2), .val (.int p3), .val (.int p4), .val (.long v1), .second, .val (.long v2), .second, .val (.long v3), .second, .val (.long v4), .second, .val (.long v5), .second, .val (.long v6), .second, .val (.long v7), .second, .val (.long v8), .second, .val (.ref b9), .val (.long v31), .second, .val (.long v32), .second, .val (.long v33), .second, .val (.long v34), .second, .val (.int (((bi ((0 : Int64) < v34)) + (bi ((0 : Int64) < v33))) + (bi ((0 : Int64) < v32)))), .val (.long v38), .second, .unset, .unset, .unset, .unset, .unset, .unset] [(.long ((v34 + v33) + v32)), (.long v38)])
    refine Goes.go (fun _ => XS.lcmp S.here B.x rfl (B.d at_231) rfl) ?_
    show Goes _ _ _ _ T (mkF me_ 232 #[.val (.long q0), .second, .val (.int p1), .val (.int p2), .val (.int p3), .val (.int p4), .val (.long v1), .second, .val (.long v2), .second, .val (.long v3), .second, .val (.long v4), .second, .val (.long v5), .second, .val (.long v6), .second, .val (.long v7), .second, .val (.long v8), .second, .val (.ref b9), .val (.long v31), .second, .val (.long v32), .second, .val (.long v33), .second, .val (.long v34), .second, .val (.int (((bi ((0 : Int64) < v34)) + (bi ((0 : Int64) < v33))) + (bi ((0 : Int64) < v32)))), .val (.long v38), .second, .unset, .unset, .unset, .unset, .unset, .unset] [(.int (lcmpW v38 ((v34 + v33) + v32)))])
    refine Goes.go (fun _ => XS.ifYes S.here B.x rfl (pc0 := 232) (pc' := 237) rfl (B.d at_232) rfl ((if0 _ _).trans (teq ((lw_eq v38 ((v34 + v33) + v32)).mpr (show v38 = ((v34 + v33) + v32) from hv38.symm.trans tot))).1) (by decide) (by decide)) ?_
    show Goes _ _ _ _ T (mkF me_ 237 #[.val (.long q0), .second, .val (.int p1), .val (.int p2), .val (.int p3), .val (.int p4), .val (.long v1), .second, .val (.long v2), .second, .val (.long v3), .second, .val (.long v4), .second, .val (.long v5), .second, .val (.long v6), .second, .val (.long v7), .second, .val (.long v8), .second, .val (.ref b9), .val (.long v31), .second, .val (.long v32), .second, .val (.long v33), .second, .val (.long v34), .second, .val (.int (((bi ((0 : Int64) < v34)) + (bi ((0 : Int64) < v33))) + (bi ((0 : Int64) < v32)))), .val (.long v38), .second, .unset, .unset, .unset, .unset, .unset, .unset] [])
    refine Goes.go (fun _ => XS.aload S.here B.x rfl (B.d at_237) rfl rfl) ?_
    show Goes _ _ _ _ T (mkF me_ 239 #[.val (.long q0), .second, .val (.int p1), .val (.int p2), .val (.int p3), .val (.int p4), .val (.long v1), .second, .val (.long v2), .second, .val (.long v3), .second, .val (.long v4), .second, .val (.long v5), .second, .val (.long v6), .second, .val (.long v7), .second, .val (.long v8), .second, .val (.ref b9), .val (.long v31), .second, .val (.long v32), .second, .val (.long v33), .second, .val (.long v34), .second, .val (.int (((bi ((0 : Int64) < v34)) + (bi ((0 : Int64) < v33))) + (bi ((0 : Int64) < v32)))), .val (.long v38), .second, .unset, .unset, .unset, .unset, .unset, .unset] [(.ref b9)])
    refine Goes.callV (argsL := []) (rest := []) (W := 0) S B (rm_insts l Z aw hw b9 u27 _ n0 F_b9_size) E_b9 (w70 hw) (w71 hw) (w73 hw) (w72 hw) (w2 hw) (w74 hw) (by decide) (by decide) (by decide) (by decide) (by decide) rfl (lenOf pd_9 rfl) rfl (Nat.le_of_eq rfl) at_239 ?_
    intro v T h S hQ
    obtain ⟨rfl, hh⟩ := hQ
    replace hh := hh.symm
    subst hh
    show Goes _ _ _ _ T (mkF me_ 242 #[.val (.long q0), .second, .val (.int p1), .val (.int p2), .val (.int p3), .val (.int p4), .val (.long v1), .second, .val (.long v2), .second, .val (.long v3), .second, .val (.long v4), .second, .val (.long v5), .second, .val (.long v6), .second, .val (.long v7), .second, .val (.long v8), .second, .val (.ref b9), .val (.long v31), .second, .val (.long v32), .second, .val (.long v33), .second, .val (.long v34), .second, .val (.int (((bi ((0 : Int64) < v34)) + (bi ((0 : Int64) < v33))) + (bi ((0 : Int64) < v32)))), .val (.long v38), .second, .unset, .unset, .unset, .unset, .unset, .unset] [(.int u27)])
    refine Goes.go (fun _ => XS.iload S.here B.x rfl (B.d at_242) rfl) ?_
    show Goes _ _ _ _ T (mkF me_ 244 #[.val (.long q0), .second, .val (.int p1), .val (.int p2), .val (.int p3), .val (.int p4), .val (.long v1), .second, .val (.long v2), .second, .val (.long v3), .second, .val (.long v4), .second, .val (.long v5), .second, .val (.long v6), .second, .val (.long v7), .second, .val (.long v8), .second, .val (.ref b9), .val (.long v31), .second, .val (.long v32), .second, .val (.long v33), .second, .val (.long v34), .second, .val (.int (((bi ((0 : Int64) < v34)) + (bi ((0 : Int64) < v33))) + (bi ((0 : Int64) < v32)))), .val (.long v38), .second, .unset, .unset, .unset, .unset, .unset, .unset] [(.int (((bi ((0 : Int64) < v34)) + (bi ((0 : Int64) < v33))) + (bi ((0 : Int64) < v32)))), (.int u27)])
    refine Goes.go (fun _ => XS.icmpYes S.here B.x rfl (pc0 := 244) (pc' := 249) rfl (B.d at_244) rfl (teq (show u27 = (((bi ((0 : Int64) < v34)) + (bi ((0 : Int64) < v33))) + (bi ((0 : Int64) < v32))) from own_n0 hs2_126 eT x0 x1 x2)).1 (by decide) (by decide)) ?_
    show Goes _ _ _ _ T (mkF me_ 249 #[.val (.long q0), .second, .val (.int p1), .val (.int p2), .val (.int p3), .val (.int p4), .val (.long v1), .second, .val (.long v2), .second, .val (.long v3), .second, .val (.long v4), .second, .val (.long v5), .second, .val (.long v6), .second, .val (.long v7), .second, .val (.long v8), .second, .val (.ref b9), .val (.long v31), .second, .val (.long v32), .second, .val (.long v33), .second, .val (.long v34), .second, .val (.int (((bi ((0 : Int64) < v34)) + (bi ((0 : Int64) < v33))) + (bi ((0 : Int64) < v32)))), .val (.long v38), .second, .unset, .unset, .unset, .unset, .unset, .unset] [])
    refine Goes.go (fun _ => XS.iload S.here B.x rfl (B.d at_249) rfl) ?_
    show Goes _ _ _ _ T (mkF me_ 251 #[.val (.long q0), .second, .val (.int p1), .val (.int p2), .val (.int p3), .val (.int p4), .val (.long v1), .second, .val (.long v2), .second, .val (.long v3), .second, .val (.long v4), .second, .val (.long v5), .second, .val (.long v6), .second, .val (.long v7), .second, .val (.long v8), .second, .val (.ref b9), .val (.long v31), .second, .val (.long v32), .second, .val (.long v33), .second, .val (.long v34), .second, .val (.int (((bi ((0 : Int64) < v34)) + (bi ((0 : Int64) < v33))) + (bi ((0 : Int64) < v32)))), .val (.long v38), .second, .unset, .unset, .unset, .unset, .unset, .unset] [(.int (((bi ((0 : Int64) < v34)) + (bi ((0 : Int64) < v33))) + (bi ((0 : Int64) < v32))))])
    refine Goes.go (fun _ => XS.ifNo S.here B.x rfl (B.d at_251) rfl ((if0 _ _).trans (teq (show (((bi ((0 : Int64) < v34)) + (bi ((0 : Int64) < v33))) + (bi ((0 : Int64) < v32))) = (0 : Int32) from own_zz x0 x1 x2)).2)) ?_
    show Goes _ _ _ _ T (mkF me_ 254 #[.val (.long q0), .second, .val (.int p1), .val (.int p2), .val (.int p3), .val (.int p4), .val (.long v1), .second, .val (.long v2), .second, .val (.long v3), .second, .val (.long v4), .second, .val (.long v5), .second, .val (.long v6), .second, .val (.long v7), .second, .val (.long v8), .second, .val (.ref b9), .val (.long v31), .second, .val (.long v32), .second, .val (.long v33), .second, .val (.long v34), .second, .val (.int (((bi ((0 : Int64) < v34)) + (bi ((0 : Int64) < v33))) + (bi ((0 : Int64) < v32)))), .val (.long v38), .second, .unset, .unset, .unset, .unset, .unset, .unset] [])
    refine Goes.go (fun _ => XS.iconst S.here B.x rfl (B.d at_254)) ?_
    show Goes _ _ _ _ T (mkF me_ 255 #[.val (.long q0), .second, .val (.int p1), .val (.int p2), .val (.int p3), .val (.int p4), .val (.long v1), .second, .val (.long v2), .second, .val (.long v3), .second, .val (.long v4), .second, .val (.long v5), .second, .val (.long v6), .second, .val (.long v7), .second, .val (.long v8), .second, .val (.ref b9), .val (.long v31), .second, .val (.long v32), .second, .val (.long v33), .second, .val (.long v34), .second, .val (.int (((bi ((0 : Int64) < v34)) + (bi ((0 : Int64) < v33))) + (bi ((0 : Int64) < v32)))), .val (.long v38), .second, .unset, .unset, .unset, .unset, .unset, .unset] [(.int (1 : Int32))])
    refine Goes.retN S B (by simp) at_255 (by decide) (by decide) ?_
    exact rfl
set_option maxRecDepth 65536 in
set_option maxHeartbeats 40000000 in
theorem comes_1 {Post : Tables → Env → Array Value → State → Outcome → State → Prop} (hpost : ∀ tb e args s v u, (limb_1_1.after args s (.returned v) u = true ∧ limb_1_2.after args s (.returned v) u = true ∧ True) → FrameEnd s (.returned v) u (Jvm.fieldLocs frame_1_writes args s ++ Jvm.arrayLocs frame_1_arrays args s ++ Jvm.staticLocs frame_1_statics s) 16 128 → Post tb e args s (.returned v) u) :
    ArmFor flags0 classFile x code maxLocals ret World_1 tables_1 room_1 Calls_1 rest_1 Pre_1 Post := by
  intro l hfl _ _ p e ha hc hk s m args below hf hA hF happ hP
  obtain ⟨hcalls, hrest, hpre⟩ := hP
  obtain ⟨-, -, -, hnamed, -, -, -, hat⟩ := (Spec.applies_iff hf).mp happ
  obtain ⟨hg, hn⟩ := and_e (Cond.before_iff.mp (show (Jvm.Cond.and given_1 narrow_1).before args s = true from hpre))
  obtain ⟨g0, k0⟩ := and_e hg
  obtain ⟨g1, k1⟩ := and_e k0
  obtain ⟨g2, k2⟩ := and_e k1
  obtain ⟨g3, k3⟩ := and_e k2
  obtain ⟨g4, k4⟩ := and_e k3
  have g5 := k4
  obtain ⟨w0, w1, w2, w3, w4, rfl⟩ : ∃ w0 w1 w2 w3 w4 : Value, args = #[w0, w1, w2, w3, w4] := by
    have hs : args.size = 5 := by simpa [Cond.value, given_1] using g0
    obtain ⟨L⟩ := args
    match L, hs with
    | [w0, w1, w2, w3, w4], _ => exact ⟨w0, w1, w2, w3, w4, rfl⟩
  have hw := fun d (hd : d ∈ tables_1) => atoms_spec (ws := Jvm.Cond.code x code maxLocals ret :: tables_1) hat d (List.mem_cons_of_mem _ hd)
  obtain ⟨i0, ei0⟩ := isL_v g1
  obtain rfl : w0 = (.long i0) := Option.some.inj ei0
  obtain ⟨i1, ei1⟩ := is_v g2
  obtain rfl : w1 = (.int i1) := Option.some.inj ei1
  obtain ⟨i2, ei2⟩ := is_v g3
  obtain rfl : w2 = (.int i2) := Option.some.inj ei2
  obtain ⟨i3, ei3⟩ := is_v g4
  obtain rfl : w3 = (.int i3) := Option.some.inj ei3
  obtain ⟨i4, ei4⟩ := is_v g5
  obtain rfl : w4 = (.int i4) := Option.some.inj ei4
  obtain ⟨n, o, h1, h2, h3, _, L, rfl, ⟨N, rfl⟩, hq⟩ := rm0 l s _ hw i0 i1 i2 i3 i4 s.heap s.heap.size (Nat.le_refl _) tables_1 p e ha hc hk s m _ below hf ((Spec.applies_iff_loose hf).mp happ).1 ⟨rfl, State.Warmed39.refl s, rfl⟩ trivial
  refine ⟨n, _, h1, h2, h3, hpost _ _ _ _ _ _ ⟨Cond.after_iff.mpr rfl, Cond.after_iff.mpr (eq_i res_at (Term.int_eval (1)) rfl), trivial⟩ ⟨hq.1, hq.2.1, (hq.2.2.sift fun y hy => Or.inr (N y hy)).mono (by decide) (by decide)⟩⟩
theorem main_1_1 : Claimed_1_1 := comes_1 fun _ _ _ _ _ _ h hF => ⟨h.1, hF⟩
theorem main_1_2 : Claimed_1_2 := comes_1 fun _ _ _ _ _ _ h hF => ⟨h.2.1, hF⟩
end Jvm.Pilot.@@N@@
namespace Jvm.Pilot.@@N@@
open Jvm Jvm.ClassFile Sem Op Lib Jvm.Free Jvm.Stand Jvm.Pilot.@@N@@.Jvm.D
/-! MADE BY PROGRAM (witnessworld.py) out of the Statement's table words and the real class files: 12 classes; the members and pool entries that the words name. The judged class is class 1, her method 1. -/
namespace start1
open Jvm.ClassFile
def u (s : String) : CpInfo := .utf8 (stringToUtf16 s)
/-- a pool by its gaps: so many unusable entries, then the entry; so many at the end -/
def gap : Nat → List CpInfo → List CpInfo
  | 0, r => r
  | n + 1, r => .unusable :: gap n r
def poolList (es : List (Nat × CpInfo)) (last : Nat) : List CpInfo := es.foldr (fun e r => gap e.1 (e.2 :: r)) (gap last [])
def pool (es : List (Nat × CpInfo)) (last : Nat) : Array CpInfo := ⟨poolList es last⟩
def fileOf (pool : Array CpInfo) (this : Nat) (attrs : Array Attribute := #[]) (ms : Array MethodInfo := #[]) (fl : Nat := 33) (sup : Nat := 0) (ifs : Array Nat := #[]) (fds : Array FieldInfo := #[]) : ClassFile where
  minorVersion := 0
  majorVersion := 65
  constantPool := pool
  accessFlags := fl
  thisClass := this
  superClass := sup
  interfaces := ifs
  fields := fds
  methods := ms
  attributes := attrs
def plain (name : String) (sup : Option ClassId) : Class where
  name := name
  kind := .ordinary
  loader := none
  accessFlags := 33
  super := sup
  interfaces := #[]
  cf := none
  fields := #[]
  methods := #[]
  instanceTypes := #[]
  staticTypes := #[]
  resolved := #[]
  callSites := []
  init := .initialized
  statics := none
  mirror := none

def pool0 : Array CpInfo := pool [(5, u "<init>"), (0, u "()V"), (1, .class_ 10), (1, u "java/lang/Object")] 113

def k0c0 : Code := { maxStack := 0, maxLocals := 1, code := object_method_1_code, exceptionTable := #[], attributes := #[] }
def k0m0 : Method := { name := "<init>", desc := "()V", sig := { parameters := [], returnType := none }, accessFlags := 1, code := some k0c0 }
/-- java/lang/Object -/
def k0 : Class := { plain "java/lang/Object" none with
  accessFlags := 33
  interfaces := #[]
  cf := some (fileOf pool0 8 #[] #[{ accessFlags := 1, nameIndex := 5, descriptorIndex := 6, attributes := #[] }] 33 0 #[] #[])
  fields := #[]
  methods := #[k0m0]
  instanceTypes := #[]
  staticTypes := #[]
  resolved := Array.replicate 124 none
  statics := none }

def pool1 : Array CpInfo := pool [(2, .class_ 4), (1, u "java/lang/Object"), (0, u "<init>"), (0, u "()V"), (0, .class_ 8), (0, u "com/example/bucket_brigade/bucketbrigade/PermitLog"), (0, .methodref 7 10), (0, .nameAndType 5 11), (0, u "(J)V"), (0, .methodref 7 13), (0, .nameAndType 14 15), (0, u "add"), (0, u "(JJ)V"), (0, .methodref 7 17), (0, .nameAndType 18 11), (0, u "keepNewest"), (0, .methodref 20 21), (0, .class_ 22), (0, .nameAndType 23 24), (0, u "java/lang/Math"), (0, u "min"), (0, u "(JJ)J"), (0, .methodref 7 26), (0, .nameAndType 27 28), (0, u "permits"), (0, u "()J"), (0, .methodref 7 30), (0, .nameAndType 31 32), (0, u "instants"), (0, u "()I"), (0, .methodref 7 34), (0, .nameAndType 35 28), (0, u "oldest"), (2, .long 9223372036854775807), (1, .methodref 7 41), (0, .nameAndType 42 24), (0, u "count"), (0, .class_ 44), (0, u "com/example/bucket_brigade/bucketbrigade/PermitLogKeepNewestPinLaw"), (2, u "law"), (0, u "(JIIII)Z")] 3

def k1m0 : Method := { name := "<init>", desc := "()V", sig := { parameters := [], returnType := none }, accessFlags := 1, code := none }
def k1c1 : Code := { maxStack := 7, maxLocals := 40, code := code, exceptionTable := #[], attributes := #[] }
def k1m1 : Method := { name := "law", desc := "(JIIII)Z", sig := { parameters := [.long, .int, .int, .int, .int], returnType := some .boolean }, accessFlags := 9, code := some k1c1 }
/-- com/example/bucket_brigade/bucketbrigade/PermitLogKeepNewestPinLaw -/
def k1 : Class := { plain "com/example/bucket_brigade/bucketbrigade/PermitLogKeepNewestPinLaw" (some 0) with
  accessFlags := 49
  interfaces := #[]
  cf := some (fileOf pool1 43 #[] #[{ accessFlags := 1, nameIndex := 5, descriptorIndex := 6, attributes := #[] }, { accessFlags := 9, nameIndex := 47, descriptorIndex := 48, attributes := #[] }] 49 2 #[] #[])
  fields := #[]
  methods := #[k1m0, k1m1]
  instanceTypes := #[]
  staticTypes := #[]
  resolved := Array.replicate 52 none
  statics := none }

def pool2 : Array CpInfo := pool [(1, .methodref 2 3), (0, .class_ 4), (0, .nameAndType 5 6), (0, u "java/lang/Object"), (0, u "<init>"), (0, u "()V"), (0, .class_ 8), (0, u "com/example/bucket_brigade/bucketbrigade/PermitLog"), (0, .fieldref 7 10), (0, .nameAndType 11 12), (0, u "instants"), (0, u "[J"), (0, .fieldref 7 14), (0, .nameAndType 15 12), (0, u "lastNumbers"), (0, .fieldref 7 17), (0, .nameAndType 18 19), (0, u "completeFrom"), (0, u "J"), (0, .fieldref 7 21), (0, .nameAndType 22 23), (0, u "size"), (0, u "I"), (0, .methodref 7 25), (0, .nameAndType 26 27), (0, u "lastNumber"), (0, u "(I)J"), (0, .fieldref 7 29), (0, .nameAndType 30 19), (0, u "dropped"), (0, .methodref 7 32), (0, .nameAndType 33 27), (0, u "instant"), (0, .methodref 7 35), (0, .nameAndType 36 37), (0, u "firstAfter"), (0, u "(J)I"), (0, .methodref 7 39), (0, .nameAndType 40 37), (0, u "firstAtOrAfter"), (0, .methodref 7 42), (0, .nameAndType 43 27), (0, u "numberBefore"), (0, .methodref 7 45), (0, .nameAndType 46 47), (0, u "insert"), (0, u "(IJJ)V"), (0, .methodref 7 49), (0, .nameAndType 50 51), (0, u "slot"), (0, u "(I)I"), (0, .methodref 7 53), (0, .nameAndType 54 55), (0, u "permits"), (0, u "()J"), (0, .methodref 7 57), (0, .nameAndType 58 6), (0, u "dropOldest"), (0, .fieldref 7 60), (0, .nameAndType 61 23), (0, u "first"), (5, .long 9223372036854775807), (1, u "FIRST_CAPACITY"), (2, u "(J)V"), (2, u "()I"), (1, u "oldest"), (2, u "count"), (0, u "(JJ)J"), (0, u "add"), (0, u "(JJ)V"), (0, u "keepNewest")] 4

def k2c0 : Code := { maxStack := 3, maxLocals := 3, code := prog_25_method_1_code, exceptionTable := #[], attributes := #[] }
def k2m0 : Method := { name := "<init>", desc := "(J)V", sig := { parameters := [.long], returnType := none }, accessFlags := 0, code := some k2c0 }
def k2c1 : Code := { maxStack := 1, maxLocals := 1, code := prog_25_method_3_code, exceptionTable := #[], attributes := #[] }
def k2m1 : Method := { name := "instants", desc := "()I", sig := { parameters := [], returnType := some .int }, accessFlags := 0, code := some k2c1 }
def k2c2 : Code := { maxStack := 4, maxLocals := 1, code := prog_25_method_4_code, exceptionTable := #[], attributes := #[] }
def k2m2 : Method := { name := "permits", desc := "()J", sig := { parameters := [], returnType := some .long }, accessFlags := 0, code := some k2c2 }
def k2c3 : Code := { maxStack := 2, maxLocals := 1, code := prog_25_method_5_code, exceptionTable := #[], attributes := #[] }
def k2m3 : Method := { name := "oldest", desc := "()J", sig := { parameters := [], returnType := some .long }, accessFlags := 0, code := some k2c3 }
def k2c4 : Code := { maxStack := 4, maxLocals := 7, code := prog_25_method_8_code, exceptionTable := #[], attributes := #[] }
def k2m4 : Method := { name := "count", desc := "(JJ)J", sig := { parameters := [.long, .long], returnType := some .long }, accessFlags := 0, code := some k2c4 }
def k2c5 : Code := { maxStack := 6, maxLocals := 7, code := prog_25_method_9_code, exceptionTable := #[], attributes := #[] }
def k2m5 : Method := { name := "add", desc := "(JJ)V", sig := { parameters := [.long, .long], returnType := none }, accessFlags := 0, code := some k2c5 }
def k2c6 : Code := { maxStack := 5, maxLocals := 7, code := prog_25_method_10_code, exceptionTable := #[], attributes := #[] }
def k2m6 : Method := { name := "keepNewest", desc := "(J)V", sig := { parameters := [.long], returnType := none }, accessFlags := 0, code := some k2c6 }
def k2c7 : Code := { maxStack := 3, maxLocals := 1, code := prog_25_method_12_code, exceptionTable := #[], attributes := #[] }
def k2m7 : Method := { name := "dropOldest", desc := "()V", sig := { parameters := [], returnType := none }, accessFlags := 2, code := some k2c7 }
def k2c8 : Code := { maxStack := 6, maxLocals := 7, code := prog_25_method_13_code, exceptionTable := #[], attributes := #[] }
def k2m8 : Method := { name := "insert", desc := "(IJJ)V", sig := { parameters := [.int, .long, .long], returnType := none }, accessFlags := 2, code := some k2c8 }
def k2c9 : Code := { maxStack := 5, maxLocals := 3, code := prog_25_method_15_code, exceptionTable := #[], attributes := #[] }
def k2m9 : Method := { name := "firstAfter", desc := "(J)I", sig := { parameters := [.long], returnType := some .int }, accessFlags := 2, code := some k2c9 }
def k2c10 : Code := { maxStack := 4, maxLocals := 6, code := prog_25_method_16_code, exceptionTable := #[], attributes := #[] }
def k2m10 : Method := { name := "firstAtOrAfter", desc := "(J)I", sig := { parameters := [.long], returnType := some .int }, accessFlags := 2, code := some k2c10 }
def k2c11 : Code := { maxStack := 3, maxLocals := 2, code := prog_25_method_17_code, exceptionTable := #[], attributes := #[] }
def k2m11 : Method := { name := "numberBefore", desc := "(I)J", sig := { parameters := [.int], returnType := some .long }, accessFlags := 2, code := some k2c11 }
def k2c12 : Code := { maxStack := 3, maxLocals := 2, code := prog_25_method_18_code, exceptionTable := #[], attributes := #[] }
def k2m12 : Method := { name := "instant", desc := "(I)J", sig := { parameters := [.int], returnType := some .long }, accessFlags := 2, code := some k2c12 }
def k2c13 : Code := { maxStack := 3, maxLocals := 2, code := prog_25_method_19_code, exceptionTable := #[], attributes := #[] }
def k2m13 : Method := { name := "lastNumber", desc := "(I)J", sig := { parameters := [.int], returnType := some .long }, accessFlags := 2, code := some k2c13 }
def k2c14 : Code := { maxStack := 3, maxLocals := 2, code := prog_25_method_20_code, exceptionTable := #[], attributes := #[] }
def k2m14 : Method := { name := "slot", desc := "(I)I", sig := { parameters := [.int], returnType := some .int }, accessFlags := 2, code := some k2c14 }
/-- com/example/bucket_brigade/bucketbrigade/PermitLog -/
def k2 : Class := { plain "com/example/bucket_brigade/bucketbrigade/PermitLog" (some 0) with
  accessFlags := 48
  interfaces := #[]
  cf := some (fileOf pool2 7 #[] #[{ accessFlags := 0, nameIndex := 5, descriptorIndex := 72, attributes := #[] }, { accessFlags := 0, nameIndex := 11, descriptorIndex := 75, attributes := #[] }, { accessFlags := 0, nameIndex := 54, descriptorIndex := 55, attributes := #[] }, { accessFlags := 0, nameIndex := 77, descriptorIndex := 55, attributes := #[] }, { accessFlags := 0, nameIndex := 80, descriptorIndex := 81, attributes := #[] }, { accessFlags := 0, nameIndex := 82, descriptorIndex := 83, attributes := #[] }, { accessFlags := 0, nameIndex := 84, descriptorIndex := 72, attributes := #[] }, { accessFlags := 2, nameIndex := 58, descriptorIndex := 6, attributes := #[] }, { accessFlags := 2, nameIndex := 46, descriptorIndex := 47, attributes := #[] }, { accessFlags := 2, nameIndex := 36, descriptorIndex := 37, attributes := #[] }, { accessFlags := 2, nameIndex := 40, descriptorIndex := 37, attributes := #[] }, { accessFlags := 2, nameIndex := 43, descriptorIndex := 27, attributes := #[] }, { accessFlags := 2, nameIndex := 33, descriptorIndex := 27, attributes := #[] }, { accessFlags := 2, nameIndex := 26, descriptorIndex := 27, attributes := #[] }, { accessFlags := 2, nameIndex := 50, descriptorIndex := 51, attributes := #[] }] 48 2 #[] #[{ accessFlags := 26, nameIndex := 69, descriptorIndex := 23, attributes := #[] }, { accessFlags := 18, nameIndex := 18, descriptorIndex := 19, attributes := #[] }, { accessFlags := 2, nameIndex := 11, descriptorIndex := 12, attributes := #[] }, { accessFlags := 2, nameIndex := 15, descriptorIndex := 12, attributes := #[] }, { accessFlags := 2, nameIndex := 61, descriptorIndex := 23, attributes := #[] }, { accessFlags := 2, nameIndex := 22, descriptorIndex := 23, attributes := #[] }, { accessFlags := 2, nameIndex := 30, descriptorIndex := 19, attributes := #[] }])
  fields := #[{ name := "FIRST_CAPACITY", type := .int, accessFlags := 26, slot := 0, constantValue := 0 }, { name := "completeFrom", type := .long, accessFlags := 18, slot := 0, constantValue := 0 }, { name := "instants", type := (.array .long), accessFlags := 2, slot := 1, constantValue := 0 }, { name := "lastNumbers", type := (.array .long), accessFlags := 2, slot := 2, constantValue := 0 }, { name := "first", type := .int, accessFlags := 2, slot := 3, constantValue := 0 }, { name := "size", type := .int, accessFlags := 2, slot := 4, constantValue := 0 }, { name := "dropped", type := .long, accessFlags := 2, slot := 5, constantValue := 0 }]
  methods := #[k2m0, k2m1, k2m2, k2m3, k2m4, k2m5, k2m6, k2m7, k2m8, k2m9, k2m10, k2m11, k2m12, k2m13, k2m14]
  instanceTypes := #[.long, (.array .long), (.array .long), .int, .int, .long]
  staticTypes := #[.int]
  resolved := Array.replicate 89 none
  statics := none }

def pool3 : Array CpInfo := pool [(1, .class_ 2), (0, u "java/lang/Math"), (1, .class_ 6), (1, u "java/lang/Object"), (0, u "<init>"), (0, u "()V"), (89, .class_ 100), (1, u "java/lang/Math$RandomNumberGeneratorHolder"), (20, u "(JJ)J"), (50, u "negativeZeroFloatBits"), (0, u "J"), (2, u "negativeZeroDoubleBits"), (24, u "min"), (43, u "$assertionsDisabled"), (0, u "Z"), (91, u "twoToTheDoubleScaleDown"), (0, u "D"), (4, u "twoToTheDoubleScaleUp"), (9, u "E"), (3, u "PI"), (2, u "TAU"), (2, u "DEGREES_TO_RADIANS"), (0, u "RADIANS_TO_DEGREES")] 94

def k3m0 : Method := { name := "<init>", desc := "()V", sig := { parameters := [], returnType := none }, accessFlags := 2, code := none }
def k3c1 : Code := { maxStack := 4, maxLocals := 4, code := jdk_29_method_70_code, exceptionTable := #[], attributes := #[] }
def k3m1 : Method := { name := "min", desc := "(JJ)J", sig := { parameters := [.long, .long], returnType := some .long }, accessFlags := 9, code := some k3c1 }
/-- java/lang/Math -/
def k3 : Class := { plain "java/lang/Math" (some 0) with
  accessFlags := 49
  interfaces := #[]
  cf := some (fileOf pool3 1 #[.nestMembers #[98]] #[{ accessFlags := 2, nameIndex := 7, descriptorIndex := 8, attributes := #[] }, { accessFlags := 9, nameIndex := 201, descriptorIndex := 121, attributes := #[] }] 49 4 #[] #[{ accessFlags := 25, nameIndex := 354, descriptorIndex := 339, attributes := #[] }, { accessFlags := 25, nameIndex := 358, descriptorIndex := 339, attributes := #[] }, { accessFlags := 25, nameIndex := 361, descriptorIndex := 339, attributes := #[] }, { accessFlags := 26, nameIndex := 364, descriptorIndex := 339, attributes := #[] }, { accessFlags := 26, nameIndex := 365, descriptorIndex := 339, attributes := #[] }, { accessFlags := 26, nameIndex := 172, descriptorIndex := 173, attributes := #[] }, { accessFlags := 26, nameIndex := 176, descriptorIndex := 173, attributes := #[] }, { accessFlags := 8, nameIndex := 344, descriptorIndex := 339, attributes := #[] }, { accessFlags := 8, nameIndex := 338, descriptorIndex := 339, attributes := #[] }, { accessFlags := 4120, nameIndex := 245, descriptorIndex := 246, attributes := #[] }])
  fields := #[{ name := "E", type := .double, accessFlags := 25, slot := 0, constantValue := 0 }, { name := "PI", type := .double, accessFlags := 25, slot := 1, constantValue := 0 }, { name := "TAU", type := .double, accessFlags := 25, slot := 2, constantValue := 0 }, { name := "DEGREES_TO_RADIANS", type := .double, accessFlags := 26, slot := 3, constantValue := 0 }, { name := "RADIANS_TO_DEGREES", type := .double, accessFlags := 26, slot := 4, constantValue := 0 }, { name := "negativeZeroFloatBits", type := .long, accessFlags := 26, slot := 5, constantValue := 0 }, { name := "negativeZeroDoubleBits", type := .long, accessFlags := 26, slot := 6, constantValue := 0 }, { name := "twoToTheDoubleScaleUp", type := .double, accessFlags := 8, slot := 7, constantValue := 0 }, { name := "twoToTheDoubleScaleDown", type := .double, accessFlags := 8, slot := 8, constantValue := 0 }, { name := "$assertionsDisabled", type := .boolean, accessFlags := 4120, slot := 9, constantValue := 0 }]
  methods := #[k3m0, k3m1]
  instanceTypes := #[]
  staticTypes := #[.double, .double, .double, .double, .double, .long, .long, .double, .double, .boolean]
  resolved := Array.replicate 460 none
  statics := none }

def pool4 : Array CpInfo := pool [(1, u "java/lang/Cloneable"), (0, .class_ 1), (0, u "java/lang/Object"), (0, .class_ 3)] 3

/-- java/lang/Cloneable -/
def k4 : Class := { plain "java/lang/Cloneable" (some 0) with
  accessFlags := 1537
  interfaces := #[]
  cf := some (fileOf pool4 2 #[] #[] 1537 4 #[] #[])
  fields := #[]
  methods := #[]
  instanceTypes := #[]
  staticTypes := #[]
  resolved := Array.replicate 8 none
  statics := none }

def pool5 : Array CpInfo := pool [(1, u "java/io/Serializable"), (0, .class_ 1), (0, u "java/lang/Object"), (0, .class_ 3)] 3

/-- java/io/Serializable -/
def k5 : Class := { plain "java/io/Serializable" (some 0) with
  accessFlags := 1537
  interfaces := #[]
  cf := some (fileOf pool5 2 #[] #[] 1537 4 #[] #[])
  fields := #[]
  methods := #[]
  instanceTypes := #[]
  staticTypes := #[]
  resolved := Array.replicate 8 none
  statics := none }

/-- the primitive byte -/
def k6 : Class := { plain "byte" none with kind := .primitive 'B', accessFlags := 0x411 }
/-- [B -/
def k7 : Class := { plain "[B" (some 0) with kind := .array 6 .byte, interfaces := #[4, 5], accessFlags := 1041 }

/-- the primitive int -/
def k8 : Class := { plain "int" none with kind := .primitive 'I', accessFlags := 0x411 }
/-- [I -/
def k9 : Class := { plain "[I" (some 0) with kind := .array 8 .int, interfaces := #[4, 5], accessFlags := 1041 }

/-- the primitive long -/
def k10 : Class := { plain "long" none with kind := .primitive 'J', accessFlags := 0x411 }
/-- [J -/
def k11 : Class := { plain "[J" (some 0) with kind := .array 10 .long, interfaces := #[4, 5], accessFlags := 1041 }

def heap : Heap := #[]
def classes : Array Class := #[k0, k1, k2, k3, k4, k5, k6, k7, k8, k9, k10, k11]
def interned : List (Array UInt16 × Addr) := []
def slotsUsed : Nat := 0
def theMethod : MethodId := ⟨1, 1⟩
def args0 : Array Value := #[.long 5, .int 6, .int 300, .int 9, .int 7]
def aboutOver (below : List Frame) : State where
  vm := { classes := classes, interned := interned.toArray }
  heap := heap
  slotsUsed := slotsUsed
  threads := #[{ frames := .invoking theMethod args0 :: below }]
def below0 : List Frame := [.native { method := ⟨0, 0⟩, args := #[] }]
def about1 : State := aboutOver below0
def p0 : Program := .bare "" "" ""
def e0 : Env := launch0.env 0 0 0
theorem w_frames : about1.frames = Frame.invoking theMethod args0 :: below0 := rfl
set_option maxRecDepth 65536 in
theorem w_args : argsFit about1.vm theMethod args0 = true := by decide +kernel
set_option maxRecDepth 65536 in
theorem w_heap : heapFits about1 = true := by decide +kernel
set_option maxRecDepth 65536 in
theorem w_runnable : about1.curStatus? = some .runnable := by decide +kernel
set_option maxRecDepth 65536 in
theorem w_alone : about1.alone = true := by decide +kernel
set_option maxRecDepth 65536 in
theorem w_named : about1.methodNamed? x = some theMethod := by decide +kernel
set_option maxRecDepth 65536 in
theorem w_hears : about1.hears theMethod below0 = true := by decide +kernel
set_option maxRecDepth 65536 in
theorem w_ripe : about1.ripe theMethod args0 below0 = true := by decide +kernel
theorem w_running : about1.status = .running := rfl
set_option maxRecDepth 65536 in
theorem w_room : about1.hasRoom e0.platform room_1 = true :=
  launch0.hasRoom_least _ room_1 (by decide +kernel) (by decide +kernel) (by decide +kernel) (by decide +kernel) (by decide +kernel) (by decide +kernel)
theorem allAtoms_all (ts : List Jvm.Cond) (a : Array Jvm.Value) (st : Jvm.State) : (allAtoms ts).before a st = ts.all (fun c => c.before a st) := by
  induction ts with
  | nil => rfl
  | cons c t ih =>
    show (Jvm.Cond.and c (allAtoms t)).before a st = _
    rw [Jvm.Cond.before_and, ih, List.all_cons]
def words1 : List Jvm.Cond := Jvm.Cond.code x code maxLocals ret :: tables_1
/-- a 'code' word, met by the world's own term for the bytes: nothing is compared byte by byte -/
theorem code_word {y : MethodName} {bytes : ByteArray} {mx : Nat} {rt : Option FieldType} {a : Array Value} {s : State} {m : MethodId} {meth : Method} {c : Code} (h1 : s.methodNamed? y = some m) (h2 : s.vm.method? m = some meth) (h3 : meth.code = some c) (h4 : c.code = bytes)
    (h5 : (c.maxLocals == mx && c.exceptionTable.isEmpty && decide (c.maxStack ≤ mostOperands) && decide (meth.sig.returnType = rt) && !meth.locks && decide (parseMethodDescriptor y.desc = some meth.sig)) = true) : (Jvm.Cond.code y bytes mx rt).before a s = true := by
  simp only [Bool.and_eq_true, beq_iff_eq, Bool.not_eq_true', decide_eq_true_eq] at h5
  obtain ⟨⟨⟨⟨⟨g1, g2⟩, g3⟩, g4⟩, g5⟩, g6⟩ := h5
  simp [Cond.before, Cond.holds, Cond.value, h1, h2, h3, h4, g1, g2, g3, g4, g5, g6]
def isCode : Jvm.Cond → Bool
  | .code _ _ _ _ => true
  | _ => false
theorem all_split {L : List Jvm.Cond} {P : Jvm.Cond → Bool} (h1 : L.all (fun c => isCode c || P c) = true) (h2 : ∀ c ∈ L.filter isCode, P c = true) : L.all P = true := by
  refine List.all_eq_true.mpr fun c hc => ?_
  have h := List.all_eq_true.mp h1 c hc
  rcases Bool.eq_false_or_eq_true (isCode c) with hi | hi
  · exact h2 c (List.mem_filter.mpr ⟨hc, hi⟩)
  · simpa [hi] using h
set_option maxRecDepth 65536 in
theorem w_c0 : (Jvm.Cond.code x code maxLocals ret).before args0 about1 = true := code_word (m := ⟨1, 1⟩) (meth := k1m1) (c := k1c1) (by decide +kernel) rfl rfl rfl (by decide +kernel)
set_option maxRecDepth 65536 in
theorem w_c1 : (Jvm.Cond.code ({ cls := "com/example/bucket_brigade/bucketbrigade/PermitLog", name := "<init>", desc := "(J)V" } : Jvm.MethodName) prog_25_method_1_code (3 : Nat) (Option.none : Option Jvm.ClassFile.FieldType)).before args0 about1 = true := code_word (m := ⟨2, 0⟩) (meth := k2m0) (c := k2c0) (by decide +kernel) rfl rfl rfl (by decide +kernel)
set_option maxRecDepth 65536 in
theorem w_c2 : (Jvm.Cond.code ({ cls := "java/lang/Object", name := "<init>", desc := "()V" } : Jvm.MethodName) object_method_1_code (1 : Nat) (Option.none : Option Jvm.ClassFile.FieldType)).before args0 about1 = true := code_word (m := ⟨0, 0⟩) (meth := k0m0) (c := k0c0) (by decide +kernel) rfl rfl rfl (by decide +kernel)
set_option maxRecDepth 65536 in
theorem w_c3 : (Jvm.Cond.code ({ cls := "com/example/bucket_brigade/bucketbrigade/PermitLog", name := "add", desc := "(JJ)V" } : Jvm.MethodName) prog_25_method_9_code (7 : Nat) (Option.none : Option Jvm.ClassFile.FieldType)).before args0 about1 = true := code_word (m := ⟨2, 5⟩) (meth := k2m5) (c := k2c5) (by decide +kernel) rfl rfl rfl (by decide +kernel)
set_option maxRecDepth 65536 in
theorem w_c4 : (Jvm.Cond.code ({ cls := "com/example/bucket_brigade/bucketbrigade/PermitLog", name := "firstAtOrAfter", desc := "(J)I" } : Jvm.MethodName) prog_25_method_16_code (6 : Nat) (Option.some Jvm.ClassFile.FieldType.int)).before args0 about1 = true := code_word (m := ⟨2, 10⟩) (meth := k2m10) (c := k2c10) (by decide +kernel) rfl rfl rfl (by decide +kernel)
set_option maxRecDepth 65536 in
theorem w_c5 : (Jvm.Cond.code ({ cls := "com/example/bucket_brigade/bucketbrigade/PermitLog", name := "numberBefore", desc := "(I)J" } : Jvm.MethodName) prog_25_method_17_code (2 : Nat) (Option.some Jvm.ClassFile.FieldType.long)).before args0 about1 = true := code_word (m := ⟨2, 11⟩) (meth := k2m11) (c := k2c11) (by decide +kernel) rfl rfl rfl (by decide +kernel)
set_option maxRecDepth 65536 in
theorem w_c6 : (Jvm.Cond.code ({ cls := "com/example/bucket_brigade/bucketbrigade/PermitLog", name := "insert", desc := "(IJJ)V" } : Jvm.MethodName) prog_25_method_13_code (7 : Nat) (Option.none : Option Jvm.ClassFile.FieldType)).before args0 about1 = true := code_word (m := ⟨2, 8⟩) (meth := k2m8) (c := k2c8) (by decide +kernel) rfl rfl rfl (by decide +kernel)
set_option maxRecDepth 65536 in
theorem w_c7 : (Jvm.Cond.code ({ cls := "com/example/bucket_brigade/bucketbrigade/PermitLog", name := "slot", desc := "(I)I" } : Jvm.MethodName) prog_25_method_20_code (2 : Nat) (Option.some Jvm.ClassFile.FieldType.int)).before args0 about1 = true := code_word (m := ⟨2, 14⟩) (meth := k2m14) (c := k2c14) (by decide +kernel) rfl rfl rfl (by decide +kernel)
set_option maxRecDepth 65536 in
theorem w_c8 : (Jvm.Cond.code ({ cls := "com/example/bucket_brigade/bucketbrigade/PermitLog", name := "instant", desc := "(I)J" } : Jvm.MethodName) prog_25_method_18_code (2 : Nat) (Option.some Jvm.ClassFile.FieldType.long)).before args0 about1 = true := code_word (m := ⟨2, 12⟩) (meth := k2m12) (c := k2c12) (by decide +kernel) rfl rfl rfl (by decide +kernel)
set_option maxRecDepth 65536 in
theorem w_c9 : (Jvm.Cond.code ({ cls := "com/example/bucket_brigade/bucketbrigade/PermitLog", name := "lastNumber", desc := "(I)J" } : Jvm.MethodName) prog_25_method_19_code (2 : Nat) (Option.some Jvm.ClassFile.FieldType.long)).before args0 about1 = true := code_word (m := ⟨2, 13⟩) (meth := k2m13) (c := k2c13) (by decide +kernel) rfl rfl rfl (by decide +kernel)
set_option maxRecDepth 65536 in
theorem w_c10 : (Jvm.Cond.code ({ cls := "com/example/bucket_brigade/bucketbrigade/PermitLog", name := "keepNewest", desc := "(J)V" } : Jvm.MethodName) prog_25_method_10_code (7 : Nat) (Option.none : Option Jvm.ClassFile.FieldType)).before args0 about1 = true := code_word (m := ⟨2, 6⟩) (meth := k2m6) (c := k2c6) (by decide +kernel) rfl rfl rfl (by decide +kernel)
set_option maxRecDepth 65536 in
theorem w_c11 : (Jvm.Cond.code ({ cls := "com/example/bucket_brigade/bucketbrigade/PermitLog", name := "permits", desc := "()J" } : Jvm.MethodName) prog_25_method_4_code (1 : Nat) (Option.some Jvm.ClassFile.FieldType.long)).before args0 about1 = true := code_word (m := ⟨2, 2⟩) (meth := k2m2) (c := k2c2) (by decide +kernel) rfl rfl rfl (by decide +kernel)
set_option maxRecDepth 65536 in
theorem w_c12 : (Jvm.Cond.code ({ cls := "com/example/bucket_brigade/bucketbrigade/PermitLog", name := "dropOldest", desc := "()V" } : Jvm.MethodName) prog_25_method_12_code (1 : Nat) (Option.none : Option Jvm.ClassFile.FieldType)).before args0 about1 = true := code_word (m := ⟨2, 7⟩) (meth := k2m7) (c := k2c7) (by decide +kernel) rfl rfl rfl (by decide +kernel)
set_option maxRecDepth 65536 in
theorem w_c13 : (Jvm.Cond.code ({ cls := "java/lang/Math", name := "min", desc := "(JJ)J" } : Jvm.MethodName) jdk_29_method_70_code (4 : Nat) (Option.some Jvm.ClassFile.FieldType.long)).before args0 about1 = true := code_word (m := ⟨3, 1⟩) (meth := k3m1) (c := k3c1) (by decide +kernel) rfl rfl rfl (by decide +kernel)
set_option maxRecDepth 65536 in
theorem w_c14 : (Jvm.Cond.code ({ cls := "com/example/bucket_brigade/bucketbrigade/PermitLog", name := "instants", desc := "()I" } : Jvm.MethodName) prog_25_method_3_code (1 : Nat) (Option.some Jvm.ClassFile.FieldType.int)).before args0 about1 = true := code_word (m := ⟨2, 1⟩) (meth := k2m1) (c := k2c1) (by decide +kernel) rfl rfl rfl (by decide +kernel)
set_option maxRecDepth 65536 in
theorem w_c15 : (Jvm.Cond.code ({ cls := "com/example/bucket_brigade/bucketbrigade/PermitLog", name := "oldest", desc := "()J" } : Jvm.MethodName) prog_25_method_5_code (1 : Nat) (Option.some Jvm.ClassFile.FieldType.long)).before args0 about1 = true := code_word (m := ⟨2, 3⟩) (meth := k2m3) (c := k2c3) (by decide +kernel) rfl rfl rfl (by decide +kernel)
set_option maxRecDepth 65536 in
theorem w_c16 : (Jvm.Cond.code ({ cls := "com/example/bucket_brigade/bucketbrigade/PermitLog", name := "count", desc := "(JJ)J" } : Jvm.MethodName) prog_25_method_8_code (7 : Nat) (Option.some Jvm.ClassFile.FieldType.long)).before args0 about1 = true := code_word (m := ⟨2, 4⟩) (meth := k2m4) (c := k2c4) (by decide +kernel) rfl rfl rfl (by decide +kernel)
set_option maxRecDepth 65536 in
theorem w_c17 : (Jvm.Cond.code ({ cls := "com/example/bucket_brigade/bucketbrigade/PermitLog", name := "firstAfter", desc := "(J)I" } : Jvm.MethodName) prog_25_method_15_code (3 : Nat) (Option.some Jvm.ClassFile.FieldType.int)).before args0 about1 = true := code_word (m := ⟨2, 9⟩) (meth := k2m9) (c := k2c9) (by decide +kernel) rfl rfl rfl (by decide +kernel)
def codes1 : List Jvm.Cond := [Jvm.Cond.code x code maxLocals ret, Jvm.Cond.code ({ cls := "com/example/bucket_brigade/bucketbrigade/PermitLog", name := "<init>", desc := "(J)V" } : Jvm.MethodName) prog_25_method_1_code (3 : Nat) (Option.none : Option Jvm.ClassFile.FieldType), Jvm.Cond.code ({ cls := "java/lang/Object", name := "<init>", desc := "()V" } : Jvm.MethodName) object_method_1_code (1 : Nat) (Option.none : Option Jvm.ClassFile.FieldType), Jvm.Cond.code ({ cls := "com/example/bucket_brigade/bucketbrigade/PermitLog", name := "add", desc := "(JJ)V" } : Jvm.MethodName) prog_25_method_9_code (7 : Nat) (Option.none : Option Jvm.ClassFile.FieldType), Jvm.Cond.code ({ cls := "com/example/bucket_brigade/bucketbrigade/PermitLog", name := "firstAtOrAfter", desc := "(J)I" } : Jvm.MethodName) prog_25_method_16_code (6 : Nat) (Option.some Jvm.ClassFile.FieldType.int), Jvm.Cond.code ({ cls := "com/example/bucket_brigade/bucketbrigade/PermitLog", name := "numberBefore", desc := "(I)J" } : Jvm.MethodName) prog_25_method_17_code (2 : Nat) (Option.some Jvm.ClassFile.FieldType.long), Jvm.Cond.code ({ cls := "com/example/bucket_brigade/bucketbrigade/PermitLog", name := "insert", desc := "(IJJ)V" } : Jvm.MethodName) prog_25_method_13_code (7 : Nat) (Option.none : Option Jvm.ClassFile.FieldType), Jvm.Cond.code ({ cls := "com/example/bucket_brigade/bucketbrigade/PermitLog", name := "slot", desc := "(I)I" } : Jvm.MethodName) prog_25_method_20_code (2 : Nat) (Option.some Jvm.ClassFile.FieldType.int), Jvm.Cond.code ({ cls := "com/example/bucket_brigade/bucketbrigade/PermitLog", name := "instant", desc := "(I)J" } : Jvm.MethodName) prog_25_method_18_code (2 : Nat) (Option.some Jvm.ClassFile.FieldType.long), Jvm.Cond.code ({ cls := "com/example/bucket_brigade/bucketbrigade/PermitLog", name := "lastNumber", desc := "(I)J" } : Jvm.MethodName) prog_25_method_19_code (2 : Nat) (Option.some Jvm.ClassFile.FieldType.long), Jvm.Cond.code ({ cls := "com/example/bucket_brigade/bucketbrigade/PermitLog", name := "keepNewest", desc := "(J)V" } : Jvm.MethodName) prog_25_method_10_code (7 : Nat) (Option.none : Option Jvm.ClassFile.FieldType), Jvm.Cond.code ({ cls := "com/example/bucket_brigade/bucketbrigade/PermitLog", name := "permits", desc := "()J" } : Jvm.MethodName) prog_25_method_4_code (1 : Nat) (Option.some Jvm.ClassFile.FieldType.long), Jvm.Cond.code ({ cls := "com/example/bucket_brigade/bucketbrigade/PermitLog", name := "dropOldest", desc := "()V" } : Jvm.MethodName) prog_25_method_12_code (1 : Nat) (Option.none : Option Jvm.ClassFile.FieldType), Jvm.Cond.code ({ cls := "java/lang/Math", name := "min", desc := "(JJ)J" } : Jvm.MethodName) jdk_29_method_70_code (4 : Nat) (Option.some Jvm.ClassFile.FieldType.long), Jvm.Cond.code ({ cls := "com/example/bucket_brigade/bucketbrigade/PermitLog", name := "instants", desc := "()I" } : Jvm.MethodName) prog_25_method_3_code (1 : Nat) (Option.some Jvm.ClassFile.FieldType.int), Jvm.Cond.code ({ cls := "com/example/bucket_brigade/bucketbrigade/PermitLog", name := "oldest", desc := "()J" } : Jvm.MethodName) prog_25_method_5_code (1 : Nat) (Option.some Jvm.ClassFile.FieldType.long), Jvm.Cond.code ({ cls := "com/example/bucket_brigade/bucketbrigade/PermitLog", name := "count", desc := "(JJ)J" } : Jvm.MethodName) prog_25_method_8_code (7 : Nat) (Option.some Jvm.ClassFile.FieldType.long), Jvm.Cond.code ({ cls := "com/example/bucket_brigade/bucketbrigade/PermitLog", name := "firstAfter", desc := "(J)I" } : Jvm.MethodName) prog_25_method_15_code (3 : Nat) (Option.some Jvm.ClassFile.FieldType.int)]
set_option maxRecDepth 65536 in
theorem codes_eq : words1.filter isCode = codes1 := rfl
theorem w_codes : ∀ c ∈ words1.filter isCode, c.before args0 about1 = true := by
  rw [codes_eq]
  intro c hc
  simp only [codes1, List.mem_cons, List.not_mem_nil, or_false] at hc
  rcases hc with rfl | rfl | rfl | rfl | rfl | rfl | rfl | rfl | rfl | rfl | rfl | rfl | rfl | rfl | rfl | rfl | rfl | rfl
  · exact w_c0
  · exact w_c1
  · exact w_c2
  · exact w_c3
  · exact w_c4
  · exact w_c5
  · exact w_c6
  · exact w_c7
  · exact w_c8
  · exact w_c9
  · exact w_c10
  · exact w_c11
  · exact w_c12
  · exact w_c13
  · exact w_c14
  · exact w_c15
  · exact w_c16
  · exact w_c17
set_option maxRecDepth 65536 in
theorem w_t1 : (words1.take 24).all (fun c => isCode c || c.before args0 about1) = true := by decide +kernel
set_option maxRecDepth 65536 in
theorem w_t2 : ((words1.drop 24).take 24).all (fun c => isCode c || c.before args0 about1) = true := by decide +kernel
set_option maxRecDepth 65536 in
theorem w_t3 : (((words1.drop 24).drop 24).take 24).all (fun c => isCode c || c.before args0 about1) = true := by decide +kernel
set_option maxRecDepth 65536 in
theorem w_t4 : (((words1.drop 24).drop 24).drop 24).all (fun c => isCode c || c.before args0 about1) = true := by decide +kernel
theorem w_tables : (allAtoms (Jvm.Cond.code x code maxLocals ret :: tables_1)).before args0 about1 = true := by
  rw [allAtoms_all]
  show words1.all (fun c => c.before args0 about1) = true
  refine all_split ?_ w_codes
  rw [← List.take_append_drop 24 words1, List.all_append, w_t1, ← List.take_append_drop 24 (words1.drop 24), List.all_append, w_t2, ← List.take_append_drop 24 ((words1.drop 24).drop 24), List.all_append, w_t3, w_t4]
  rfl
set_option maxRecDepth 65536 in
theorem w_case : (Jvm.Cond.and given_1 narrow_1).before args0 about1 = true := by decide +kernel
theorem w_applies : (headSpec (Jvm.Cond.code x code maxLocals ret :: tables_1) room_1).applies x e0.platform about1 = true :=
  (Spec.applies_iff w_frames).mpr ⟨w_running, w_runnable, w_alone, w_named, w_hears, w_ripe, w_room, w_tables⟩
theorem atStart : AtStart classFile x code maxLocals ret World_1 tables_1 room_1 Calls_1 rest_1 Pre_1 launch0 p0 e0 about1 theMethod args0 below0 :=
  ⟨lists_1, trivial, launch0.admits_env _ _ _, launch0.least_env, fairChoices_fair.cas, fairChoices_fair.clock, w_frames, w_args, w_heap, w_applies, trivial, trivial, w_case⟩
end start1
theorem witness_1 : WitnessClaimed_1 := ⟨start1.p0, start1.e0, start1.about1, start1.theMethod, start1.args0, start1.below0, start1.atStart⟩
end Jvm.Pilot.@@N@@
