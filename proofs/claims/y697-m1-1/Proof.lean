import JvmDerived
import JvmDerived.Pilot.@@N@@Statement
import JvmDerived.Pilot.@@N@@Code
set_option linter.unusedVariables false
set_option linter.unusedSimpArgs false
namespace Jvm.OwnKit
open Sem ClassFile Op Lib Jvm.Stand Jvm.Free Jvm.LawKit Jvm.RoadKit
/-! A small layer of my own over the library's laws: 'Goes': from this frame the body comes to its end; each law turned so that it reads backwards. -/
def Goes (tb : Tables) (e : Env) (below : List Frame) (Φ : Outcome → State → Prop) (T : State) (f : JFrame) : Prop :=
  ∃ s₂ o, Steps tb e below (T.setTop f) s₂ ∧ s₂.status = .running ∧ Ended s₂ below o ∧ Φ o s₂
def Fine (s : State) (n0 : Nat) (Q : Option Value → Heap → Prop) (rc rs : Nat) (o : Outcome) (U : State) : Prop :=
  ∃ v L, o = .returned v ∧ (Fr n0 L ∧ Q v U.heap) ∧ FrameEnd s o U L rc rs
def Base (p : Program) (s : State) (m : MethodId) (meth : Method) (c : Code) (Z : State) (y : MethodName) (bytes : ByteArray) (maxL : Nat) (ret : Option FieldType) : Prop :=
  p.tables.exec = Jvm.exec ∧ Z.Warmed39 s.vm ∧ c.code = bytes ∧ c.maxLocals = maxL ∧ s.vm.findClass y.cls = some m.cls ∧ meth.name = y.name ∧ meth.sig.returnType = ret ∧ meth.locks = false
def Sd (p : Program) (l : Launch) (e : Env) (R : Room) (s : State) (m : MethodId) (args : Array Value) (below : List Frame) (meth : Method) (c : Code) (T : State) (h : Heap) (n0 cells slots : Nat) : Prop :=
  ∃ locs, Stand p l e R s m args below meth c T locs cells slots ∧ T.heap = h ∧ Fr n0 locs ∧ n0 ≤ s.heap.size
def Con (l : Launch) (Z : State) (y : MethodName) (bytes : ByteArray) (maxL : Nat) (ret : Option FieldType) (rm : Room) (as' : Array Value) (h0 : Heap) (n0 : Nat) (Q : Option Value → Heap → Prop) : Prop :=
  n0 ≤ h0.size → ∀ ws : List Cond, MetFree l y (head1 (Cond.code y bytes maxL ret :: ws) rm) (fun a U => a = as' ∧ Z.Warmed39 U.vm ∧ U.heap = h0) (fun _ _ _ _ _ => True) (fun _ U o U' => ∃ v L, o = .returned v ∧ (Fr n0 L ∧ Q v U'.heap) ∧ FrameEnd U o U' L rm.cells rm.slots)
/-! a condition as 1 or 0 -/
def bi (P : Prop) [Decidable P] : Int32 := if P then 1 else 0
theorem bi_pos {P : Prop} [Decidable P] (h : P) : bi P = 1 := if_pos h
theorem bi_neg {P : Prop} [Decidable P] (h : ¬ P) : bi P = 0 := if_neg h
theorem bi_ne {P : Prop} [Decidable P] (h : P) : ¬ bi P = 0 := by rw [bi_pos h]; decide
theorem bi_congr {P P' : Prop} [Decidable P] [Decidable P'] (h : P ↔ P') : bi P = bi P' := by by_cases q : P <;> simp [bi, q, h.mp, ← h]
theorem bi_one {P : Prop} [Decidable P] : bi P = 1 ↔ P := by by_cases q : P <;> simp [bi, q]
theorem bi_zero {P : Prop} [Decidable P] : bi P = 0 ↔ ¬ P := by by_cases q : P <;> simp [bi, q]
theorem bi_inj {P P' : Prop} [Decidable P] [Decidable P'] : bi P = bi P' ↔ (P ↔ P') := by by_cases q : P <;> by_cases q' : P' <;> simp [bi, q, q']
theorem bi_or {P : Prop} [Decidable P] : bi P = 0 ∨ bi P = 1 := by by_cases q : P <;> simp [bi, q]
theorem nar_bi {P : Prop} [Decidable P] : nar .boolean (bi P) = bi P := by by_cases q : P <;> simp [bi, q, nar]
theorem fits_bi {P : Prop} [Decidable P] : fits .boolean (.int (bi P)) = true := by by_cases q : P <;> simp [bi, q] <;> decide
theorem narrow_bi {P : Prop} [Decidable P] : narrow .boolean (.int (bi P)) = .int (bi P) := by by_cases q : P <;> simp [bi, q] <;> rfl
section Lay
variable {p : Program} {l : Launch} {e : Env} {R : Room} {s : State} {m : MethodId} {args : Array Value} {below : List Frame} {meth : Method} {c : Code} {T : State} {h : Heap} {n0 cells slots : Nat} {Z : State} {a0 : Array Value} {Φ : Outcome → State → Prop} {y0 : MethodName} {bytes0 : ByteArray} {maxL0 : Nat} {ret0 : Option FieldType} {pc : Nat} {Ls : Array Slot} {st rest : List Value}
theorem Goes.go {tb : Tables} {T' : State} {f f' : JFrame} (k : ∀ t, Steps tb e below (T'.setTop f') t → Steps tb e below (T.setTop f) t) (g : Goes tb e below Φ T' f') : Goes tb e below Φ T f := by
  obtain ⟨s2, o, h1, h2⟩ := g
  exact ⟨s2, o, k _ h1, h2⟩
theorem Goes.dia {tb : Tables} {P : Prop} [Decidable P] {f : JFrame} {mk : Int32 → JFrame} (h1 : P → Goes tb e below Φ T (mk 1) → Goes tb e below Φ T f) (h0 : ¬ P → Goes tb e below Φ T (mk 0) → Goes tb e below Φ T f) (k : Goes tb e below Φ T (mk (bi P))) : Goes tb e below Φ T f := by
  by_cases q : P
  · rw [bi_pos q] at k; exact h1 q k
  · rw [bi_neg q] at k; exact h0 q k
theorem Goes.cast {tb : Tables} {f f' : JFrame} (q : f = f') (g : Goes tb e below Φ T f') : Goes tb e below Φ T f := q ▸ g
theorem Sd.here (S : Sd p l e R s m args below meth c T h n0 cells slots) : At T m c below := by obtain ⟨_, X, -⟩ := S; exact X.here
theorem Sd.le (S : Sd p l e R s m args below meth c T h n0 cells slots) : n0 ≤ h.size := by
  obtain ⟨_, X, e, -, q⟩ := S
  have h1 := X.same.2.1
  have h2 : s.heap.size ≤ T.heap.size := h1
  rw [e] at h2
  exact Nat.le_trans q h2
theorem Base.x (B : Base p s m meth c Z y0 bytes0 maxL0 ret0) : p.tables.exec = Jvm.exec := B.1
theorem Base.d (B : Base p s m meth c Z y0 bytes0 maxL0 ret0) {r : Except DecodeError (Instr × Nat)} (hd : decode bytes0 pc = r) : decode c.code pc = r := B.2.2.1 ▸ hd
theorem Con.body {y : MethodName} {bytes : ByteArray} {maxL : Nat} {ret : Option FieldType} {rm : Room} {as' : Array Value} {h0 : Heap} {Q : Option Value → Heap → Prop} (hpl : plainFor y = true)
    (k : ∀ (p : Program) (e : Env) (s : State) (m : MethodId) (below : List Frame) (meth : Method) (c : Code) (T : State), Base p s m meth c Z y bytes maxL ret → Sd p l e rm s m as' below meth c T h0 n0 0 0 → Goes p.tables e below (Fine s n0 Q rm.cells rm.slots) T (entryFrame m as' maxL)) :
    Con l Z y bytes maxL ret rm as' h0 n0 Q := by
  intro hn ws
  refine MetFree.of_bodySF hpl hisR ?_
  intro p e s m args below meth c s₁ Bd hml0 hP hK
  obtain ⟨rfl, hZ, hh⟩ := hP
  have e0 : s₁.heap = h0 := by rw [← hh, Bd.state]; rfl
  exact k p e s m below meth c s₁ ⟨Bd.exec, hZ, Bd.bytes, hml0, findClass_of_methodNamed Bd.named, (name_of_methodNamed Bd.named Bd.method).1, Bd.returns, Bd.notSynchronized⟩ ⟨[], Stand.of_body Bd, e0, Fr.nil n0, by rw [hh]; exact hn⟩
theorem Goes.acmp {cd : ACond} {x y : Value} {o : Int} {pc' : Nat} {same : Bool} (S : Sd p l e R s m args below meth c T h n0 cells slots) (B : Base p s m meth c Z y0 bytes0 maxL0 ret0) (h1 : x.isRef = true) (h2 : y.isRef = true) (hd : decode bytes0 pc = .ok (.if_acmp cd o, 3)) (hq : decide (x = y) = same) (ho : 0 ≤ (pc : Int) + o) (hp : pc' = if acV cd same = true then ((pc : Int) + o).toNat else pc + 3)
    (k : Goes p.tables e below Φ T (mkF m pc' Ls rest)) : Goes p.tables e below Φ T (mkF m pc Ls (y :: x :: rest)) := by
  obtain ⟨locs, X, eT, N, hn⟩ := S
  exact Goes.go (fun t => RoadKit.acmp X B.1 (g := mkF m pc Ls (y :: x :: rest)) rfl h1 h2 (pc0 := pc) (pc' := pc') (same := same) rfl (B.d hd) rfl hq ho hp) k
theorem Goes.pop2L {z : Int64} (S : Sd p l e R s m args below meth c T h n0 cells slots) (B : Base p s m meth c Z y0 bytes0 maxL0 ret0) (hd : decode bytes0 pc = .ok (.pop2, 1)) (k : Goes p.tables e below Φ T (mkF m (pc + 1) Ls rest)) : Goes p.tables e below Φ T (mkF m pc Ls (.long z :: rest)) := by
  obtain ⟨locs, X, eT, N, hn⟩ := S
  refine Goes.go (fun t kk => ?_) k
  have hx := B.1
  have hd' := B.d hd
  show Steps p.tables e below (T.setTop { method := m, pc := pc, locals := Ls, stack := _ :: rest, locked := none }) _
  jvm_step X.here [X.here.top, hx, hd', Value.category]
  exact kk
theorem Goes.irem {x y : Int32} (S : Sd p l e R s m args below meth c T h n0 cells slots) (B : Base p s m meth c Z y0 bytes0 maxL0 ret0) (hd : decode bytes0 pc = .ok (.irem, 1)) (hy : y ≠ 0) (k : Goes p.tables e below Φ T (mkF m (pc + 1) Ls (.int (x % y) :: rest))) : Goes p.tables e below Φ T (mkF m pc Ls (.int y :: .int x :: rest)) := by
  obtain ⟨locs, X, eT, N, hn⟩ := S
  exact Goes.go (fun t => RoadKit.iremM X B.1 (g := mkF m pc Ls (.int y :: .int x :: rest)) rfl (B.d hd) rfl hy) k
theorem Goes.lrem {x y : Int64} (S : Sd p l e R s m args below meth c T h n0 cells slots) (B : Base p s m meth c Z y0 bytes0 maxL0 ret0) (hd : decode bytes0 pc = .ok (.lrem, 1)) (hy : y ≠ 0) (k : Goes p.tables e below Φ T (mkF m (pc + 1) Ls (.long (x % y) :: rest))) : Goes p.tables e below Φ T (mkF m pc Ls (.long y :: .long x :: rest)) := by
  obtain ⟨locs, X, eT, N, hn⟩ := S
  refine Goes.go (fun t kk => XS.lrem X.here B.1 (g := mkF m pc Ls (.long y :: .long x :: rest)) rfl (B.d hd) rfl hy ?_) k
  rw [lrem_mod]
  exact kk
/-! the ends -/
section Ends
variable {Q : Option Value → Heap → Prop} {rc rs : Nat}
theorem Goes.retV (S : Sd p l e R s m args below meth c T h n0 cells slots) (B : Base p s m meth c Z y0 bytes0 maxL0 none) (hd : decode bytes0 pc = .ok (.return_, 1)) (hc : cells ≤ rc) (hs : slots ≤ rs) (hq : Q none h) :
    Goes p.tables e below (Fine s n0 Q rc rs) T (mkF m pc Ls []) := by
  obtain ⟨locs, X, eT, N, -⟩ := S
  obtain ⟨fs, hr, hrun, hended, hW, hsame⟩ := X.leave (v := none) (fun _ => rfl) B.2.2.2.2.2.2.2
  subst eT
  exact ⟨_, _, X.returnOut B.1 B.2.2.2.2.2.2.1 (B.d hd) hr, hrun, hended, _, _, rfl, ⟨N, hq⟩, ⟨_, rfl⟩, hW, hsame.mono hc hs⟩
theorem Goes.retN {t : FieldType} {z : Int32} (S : Sd p l e R s m args below meth c T h n0 cells slots) (B : Base p s m meth c Z y0 bytes0 maxL0 (some t)) (ht : t = .boolean ∨ t = .byte ∨ t = .char ∨ t = .short) (hd : decode bytes0 pc = .ok (.ireturn, 1)) (hc : cells ≤ rc) (hs : slots ≤ rs) (hq : Q (some (.int (nar t z))) h) :
    Goes p.tables e below (Fine s n0 Q rc rs) T (mkF m pc Ls (.int z :: rest)) := by
  obtain ⟨locs, X, eT, N, -⟩ := S
  obtain ⟨fs, hr, hrun, hended, hW, hsame⟩ := X.leave (v := some (.int (nar t z))) (fun h => by rw [B.2.2.2.2.2.2.1] at h; cases h) B.2.2.2.2.2.2.2
  subst eT
  exact ⟨_, _, RoadKit.retN X B.1 B.2.2.2.2.2.2.1 ht (B.d hd) hr, hrun, hended, _, _, rfl, ⟨N, hq⟩, ⟨_, rfl⟩, hW, hsame.mono hc hs⟩
theorem Goes.retI {z : Int32} (S : Sd p l e R s m args below meth c T h n0 cells slots) (B : Base p s m meth c Z y0 bytes0 maxL0 (some .int)) (hd : decode bytes0 pc = .ok (.ireturn, 1)) (hc : cells ≤ rc) (hs : slots ≤ rs) (hq : Q (some (.int z)) h) :
    Goes p.tables e below (Fine s n0 Q rc rs) T (mkF m pc Ls (.int z :: rest)) := by
  obtain ⟨locs, X, eT, N, -⟩ := S
  obtain ⟨fs, hr, hrun, hended, hW, hsame⟩ := X.leave (v := some (.int z)) (fun h => by rw [B.2.2.2.2.2.2.1] at h; cases h) B.2.2.2.2.2.2.2
  subst eT
  refine ⟨_, _, ?_, hrun, hended, _, _, rfl, ⟨N, hq⟩, ⟨_, rfl⟩, hW, hsame.mono hc hs⟩
  have hm' : T.vm.method? m = some meth := X.method'
  have hn : narrow .int (.int z) = .int z := rfl
  have hx := B.1
  have hret := B.2.2.2.2.2.2.1
  have hd' := B.d hd
  show Steps p.tables e below (T.setTop { method := m, pc := pc, locals := Ls, stack := _ :: rest, locked := none }) _
  jvm_step X.here [X.here.top, hx, hd', hm', hret, hn]
  first | (intro acts; rw [hr _ acts rfl rfl rfl]) | rw [hr _ _ rfl rfl rfl]
  exact Steps.refl _
theorem Goes.retL {z : Int64} (S : Sd p l e R s m args below meth c T h n0 cells slots) (B : Base p s m meth c Z y0 bytes0 maxL0 (some .long)) (hd : decode bytes0 pc = .ok (.lreturn, 1)) (hc : cells ≤ rc) (hs : slots ≤ rs) (hq : Q (some (.long z)) h) :
    Goes p.tables e below (Fine s n0 Q rc rs) T (mkF m pc Ls (.long z :: rest)) := by
  obtain ⟨locs, X, eT, N, -⟩ := S
  obtain ⟨fs, hr, hrun, hended, hW, hsame⟩ := X.leave (v := some (.long z)) (fun h => by rw [B.2.2.2.2.2.2.1] at h; cases h) B.2.2.2.2.2.2.2
  subst eT
  refine ⟨_, _, ?_, hrun, hended, _, _, rfl, ⟨N, hq⟩, ⟨_, rfl⟩, hW, hsame.mono hc hs⟩
  have hm' : T.vm.method? m = some meth := X.method'
  have hx := B.1
  have hret := B.2.2.2.2.2.2.1
  have hd' := B.d hd
  show Steps p.tables e below (T.setTop { method := m, pc := pc, locals := Ls, stack := _ :: rest, locked := none }) _
  jvm_step X.here [X.here.top, hx, hd', hm', hret, narrow]
  first | (intro acts; rw [hr _ acts rfl rfl rfl]) | rw [hr _ _ rfl rfl rfl]
  exact Steps.refl _
theorem Goes.retA {b : Addr} {t : FieldType} (S : Sd p l e R s m args below meth c T h n0 cells slots) (B : Base p s m meth c Z y0 bytes0 maxL0 (some t)) (ht : t.isReference = true) (hd : decode bytes0 pc = .ok (.areturn, 1)) (hc : cells ≤ rc) (hs : slots ≤ rs) (hq : Q (some (.ref b)) h) :
    Goes p.tables e below (Fine s n0 Q rc rs) T (mkF m pc Ls (.ref b :: rest)) := by
  obtain ⟨locs, X, eT, N, -⟩ := S
  obtain ⟨fs, hr, hrun, hended, hW, hsame⟩ := X.leave (v := some (.ref b)) (fun h => by rw [B.2.2.2.2.2.2.1] at h; cases h) B.2.2.2.2.2.2.2
  subst eT
  refine ⟨_, _, ?_, hrun, hended, _, _, rfl, ⟨N, hq⟩, ⟨_, rfl⟩, hW, hsame.mono hc hs⟩
  have hm' : T.vm.method? m = some meth := X.method'
  have hx := B.1
  have hret := B.2.2.2.2.2.2.1
  have hd' := B.d hd
  show Steps p.tables e below (T.setTop { method := m, pc := pc, locals := Ls, stack := _ :: rest, locked := none }) _
  jvm_step X.here [X.here.top, hx, hd', hm', hret, Value.isRef, ht]
  first | (intro acts; rw [hr _ acts rfl rfl rfl]) | rw [hr _ _ rfl rfl rfl]
  exact Steps.refl _
end Ends
/-! fields and objects -/
theorem Goes.getF {O n d : String} {index : Nat} {a : Addr} {v : Value} (S : Sd p l e R s m args below meth c T h n0 cells slots) (B : Base p s m meth c Z y0 bytes0 maxL0 ret0) (w : (Cond.fieldLink y0.cls index O n d).before a0 Z = true) (F : Fld Z h a O n d v) (hd : decode bytes0 pc = .ok (.getfield index, 3))
    (k : ∀ T', Sd p l e R s m args below meth c T' h n0 cells slots → Goes p.tables e below Φ T' (mkF m (pc + 3) Ls (v :: rest))) : Goes p.tables e below Φ T (mkF m pc Ls (.ref a :: rest)) := by
  obtain ⟨locs, X, eT, N, hn⟩ := S
  obtain ⟨T', X', e', stp⟩ := RoadKit.getF X B.1 B.2.1 B.2.2.2.2.1 (host := "") (Or.inl w) Via.refl eT F (g := mkF m pc Ls (.ref a :: rest)) rfl rfl (B.d hd)
  exact Goes.go stp (k T' ⟨locs, X', e', N, hn⟩)
theorem Goes.putF {O n d C : String} {index kk : Nat} {ty : FieldType} {a : Addr} {v v' old : Value} (S : Sd p l e R s m args below meth c T h n0 cells slots) (B : Base p s m meth c Z y0 bytes0 maxL0 ret0) (w : (Cond.fieldLink y0.cls index O n d).before a0 Z = true) (F : Fld Z h a O n d old) (E : Exa Z h a C)
    (L : (Cond.lays C O n d).before a0 Z = true ∨ ((Cond.laysFinal C O n d).before a0 Z = true ∧ y0.cls = O ∧ y0.name = "<init>")) (wi : (Cond.instantiable C kk).before a0 Z = true) (hty : parseFieldDescriptor d = some ty) (hnr : narrow ty v = v') (hf : fits ty v' = true) (ga : n0 ≤ a) (hd : decode bytes0 pc = .ok (.putfield index, 3))
    (k : ∀ T' h', Sd p l e R s m args below meth c T' h' n0 cells slots → Wr h h' a (RoadKit.slotOf Z O n d) v' → Goes p.tables e below Φ T' (mkF m (pc + 3) Ls rest)) : Goes p.tables e below Φ T (mkF m pc Ls (v :: .ref a :: rest)) := by
  obtain ⟨locs, X, eT, N, hn⟩ := S
  obtain ⟨T', h', X', e', W, stp⟩ := RoadKit.putFN X B.1 B.2.1 B.2.2.2.2.1 w Via.refl eT F E (L.imp id fun q => ⟨q.1, q.2.1, B.2.2.2.2.2.1.trans q.2.2⟩) wi hty hnr hf (g := mkF m pc Ls (v :: .ref a :: rest)) rfl rfl (B.d hd)
  exact Goes.go stp (k T' h' ⟨_, X', e', Fr.snoc X' N ga, hn⟩ W)
theorem Goes.newO {C : String} {index nn : Nat} (S : Sd p l e R s m args below meth c T h n0 cells slots) (B : Base p s m meth c Z y0 bytes0 maxL0 ret0) (w : (Cond.classLink y0.cls index C).before a0 Z = true) (wi : (Cond.instantiable C nn).before a0 Z = true) (wz : (Cond.initialized C).before a0 Z = true) (hd : decode bytes0 pc = .ok (.new index, 3)) (hc : cells + 1 ≤ R.cells) (hl : slots + nn ≤ R.slots)
    (k : ∀ T' h' b, Sd p l e R s m args below meth c T' h' n0 (cells + 1) (slots + nn) → Ext h h' → b = h.size → n0 ≤ b → Exa Z h' b C → (∀ {O nm d : String} {ty : FieldType}, Laid Z a0 C O nm d → parseFieldDescriptor d = some ty → Fld Z h' b O nm d (defaultValue ty)) → Goes p.tables e below Φ T' (mkF m (pc + 3) Ls (.ref b :: st))) :
    Goes p.tables e below Φ T (mkF m pc Ls st) := by
  have hle := S.le
  obtain ⟨locs, X, eT, N, hn⟩ := S
  obtain ⟨T', h', X', e', E, A, D, -, stp⟩ := RoadKit.newO X B.1 B.2.1 B.2.2.2.2.1 w wi wz eT (g := mkF m pc Ls st) rfl (B.d hd) hc hl
  exact Goes.go stp (k T' h' h.size ⟨locs, X', e', N, hn⟩ E rfl hle A D)
theorem Goes.initO {index : Nat} {a : Addr} {W : Nat} (S : Sd p l e R s m args below meth c T h n0 cells slots) (B : Base p s m meth c Z y0 bytes0 maxL0 ret0) (w1 : (Cond.methodLink y0.cls index Lib.objectInit).before a0 Z = true) (w2 : (Cond.instanceMethod Lib.objectInit).before a0 Z = true) (w3 : (Cond.code Lib.objectInit ⟨#[0xb1]⟩ 1 none).before a0 Z = true)
    (hd : decode bytes0 pc = .ok (.invokespecial index, 3)) (hsz : Ls.size = maxL0) (hf : 1 ≤ R.frames) (hW : 2 * 0 + (rest.map fun v => v.category).sum ≤ W) (hl : W + 12 ≤ R.locals)
    (k : ∀ T', Sd p l e R s m args below meth c T' h n0 cells slots → Goes p.tables e below Φ T' (mkF m (pc + 3) Ls rest)) : Goes p.tables e below Φ T (mkF m pc Ls (.ref a :: rest)) := by
  obtain ⟨locs, X, eT, N, hn⟩ := S
  obtain ⟨T', X', e', stp⟩ := RoadKit.initO X B.1 B.2.1 B.2.2.2.2.1 w1 w2 w3 eT (g := mkF m pc Ls (.ref a :: rest)) rfl (by rw [B.2.2.2.1]; exact hsz) rfl (B.d hd) hf hW hl
  exact Goes.go stp (k T' ⟨locs, X', e', N, hn⟩)
theorem Goes.ldcI {index : Nat} {v : Int32} (S : Sd p l e R s m args below meth c T h n0 cells slots) (B : Base p s m meth c Z y0 bytes0 maxL0 ret0) (w : (Cond.constant y0.cls index v).before a0 Z = true) (hd : decode bytes0 pc = .ok (.ldc index, 2)) (k : Goes p.tables e below Φ T (mkF m (pc + 2) Ls (.int v :: st))) : Goes p.tables e below Φ T (mkF m pc Ls st) := by
  obtain ⟨locs, X, eT, N, hn⟩ := S
  exact Goes.go (X.ldcInt B.1 B.2.2.2.2.1 (mvT B.2.1 w) (g := mkF m pc Ls st) rfl (B.d hd)) k
theorem Goes.ldcL {index : Nat} {v : Int64} (S : Sd p l e R s m args below meth c T h n0 cells slots) (B : Base p s m meth c Z y0 bytes0 maxL0 ret0) (w : (Cond.constantLong y0.cls index v).before a0 Z = true) (hd : decode bytes0 pc = .ok (.ldc2_w index, 3)) (k : Goes p.tables e below Φ T (mkF m (pc + 3) Ls (.long v :: st))) : Goes p.tables e below Φ T (mkF m pc Ls st) := by
  obtain ⟨locs, X, eT, N, hn⟩ := S
  exact Goes.go (X.ldc2Long B.1 B.2.2.2.2.1 (mvT B.2.1 w) (g := mkF m pc Ls st) rfl (B.d hd)) k
/-! calls -/
section Calls
variable {y : MethodName} {bytes : ByteArray} {maxL : Nat} {ret : Option FieldType} {rm : Room} {index W : Nat} {argsL : List Value} {Q : Option Value → Heap → Prop}
theorem Con.back {as' : Array Value} {len : Nat} (C : Con l Z y bytes maxL ret rm as' h n0 Q) (hn : n0 ≤ h.size) (hZ : Z.Warmed39 s.vm) (wc : (Cond.code y bytes maxL ret).before a0 Z = true) (wz : (Cond.initialized y.cls).before a0 Z = true) (hf : rm.frames + 1 ≤ R.frames) (hl : W + (maxL + 11) + rm.locals ≤ R.locals) :
    Back l R p e below s args y len W (fun A a => a = as' ∧ A.U.heap = h ∧ A.cells + rm.cells ≤ R.cells ∧ A.slots + rm.slots ≤ R.slots)
      (fun A _ v B => ∃ L, (Fr n0 L ∧ Q v B.U.heap) ∧ B.locs = A.locs ++ L ∧ B.cells = A.cells + rm.cells ∧ B.slots = A.slots + rm.slots) :=
  backOf (Q := fun v h L => Fr n0 L ∧ Q v h) (C hn []) hZ wc wz hf hl
theorem Goes.callS (S : Sd p l e R s m args below meth c T h n0 cells slots) (B : Base p s m meth c Z y0 bytes0 maxL0 ret0) (C : Con l Z y bytes maxL ret rm argsL.toArray h n0 Q) (wl : (Cond.methodLink y0.cls index y).before a0 Z = true) (ws : (Cond.static y).before a0 Z = true) (wi : (Cond.initialized y.cls).before a0 Z = true) (wc : (Cond.code y bytes maxL ret).before a0 Z = true)
    (hy : y.cls ≠ "java/lang/invoke/MethodHandle" ∧ y.cls ≠ "java/lang/invoke/VarHandle") (hf : rm.frames + 1 ≤ R.frames) (hlo : W + (maxL + 11) + rm.locals ≤ R.locals) (hc : cells + rm.cells ≤ R.cells) (hs : slots + rm.slots ≤ R.slots) (hsz : Ls.size = maxL0)
    (hlen : ∀ sig, parseMethodDescriptor y.desc = some sig → argsL.length = sig.parameters.length) (hst : st = argsL.reverse ++ rest) (hW : 2 * 0 + (rest.map fun v => v.category).sum ≤ W) (hd : decode bytes0 pc = .ok (.invokestatic index, 3))
    (k : ∀ v T' h', Sd p l e R s m args below meth c T' h' n0 (cells + rm.cells) (slots + rm.slots) → Q v h' → Goes p.tables e below Φ T' (mkF m (pc + 3) Ls (v.toList ++ rest))) : Goes p.tables e below Φ T (mkF m pc Ls st) := by
  have hle := S.le
  obtain ⟨locs, X, eT, N, hn⟩ := S
  subst hst
  obtain ⟨v, _, ⟨T', L', k', n'⟩, -, X', ⟨Lc, ⟨hN, hQ⟩, l1, y1, z1⟩, stp⟩ := Jvm.LawKit.callS X B.1 (y := y) B.2.2.2.2.1 (mvT B.2.1 wl) (mvT B.2.1 ws) (mvT B.2.1 wi) (mvT B.2.1 wc) hy (Con.back (W := W) C hle B.2.1 wc wi hf hlo) (g := mkF m pc Ls (argsL.reverse ++ rest)) rfl (by rw [B.2.2.2.1]; exact hsz) (argsL := argsL) (rest := rest) hlen rfl hW (B.d hd) (fun _ _ => ⟨rfl, eT, hc, hs⟩)
  dsimp only [Pt.U, Pt.locs, Pt.cells, Pt.slots] at X' l1 y1 z1 stp hQ
  subst l1 y1 z1
  exact Goes.go stp (k v T' T'.heap ⟨_, X', rfl, N.app hN, hn⟩ hQ)
theorem Goes.callI {b : Addr} (S : Sd p l e R s m args below meth c T h n0 cells slots) (B : Base p s m meth c Z y0 bytes0 maxL0 ret0) (C : Con l Z y bytes maxL none rm (.ref b :: argsL).toArray h n0 Q) (wl : (Cond.methodLink y0.cls index y).before a0 Z = true) (wim : (Cond.instanceMethod y).before a0 Z = true) (wi : (Cond.initialized y.cls).before a0 Z = true) (wc : (Cond.code y bytes maxL none).before a0 Z = true)
    (hy : y.cls ≠ "java/lang/invoke/MethodHandle" ∧ y.cls ≠ "java/lang/invoke/VarHandle") (hni : y.name = "<init>") (hf : rm.frames + 1 ≤ R.frames) (hlo : W + (maxL + 11) + rm.locals ≤ R.locals) (hc : cells + rm.cells ≤ R.cells) (hs : slots + rm.slots ≤ R.slots) (hsz : Ls.size = maxL0)
    (hlen : ∀ sig, parseMethodDescriptor y.desc = some sig → argsL.length = sig.parameters.length) (hst : st = argsL.reverse ++ .ref b :: rest) (hW : 2 * 0 + (rest.map fun v => v.category).sum ≤ W) (hd : decode bytes0 pc = .ok (.invokespecial index, 3))
    (k : ∀ v T' h', Sd p l e R s m args below meth c T' h' n0 (cells + rm.cells) (slots + rm.slots) → Q v h' → Goes p.tables e below Φ T' (mkF m (pc + 3) Ls (v.toList ++ rest))) : Goes p.tables e below Φ T (mkF m pc Ls st) := by
  have hle := S.le
  obtain ⟨locs, X, eT, N, hn⟩ := S
  subst hst
  obtain ⟨v, _, ⟨T', L', k', n'⟩, -, X', ⟨Lc, ⟨hN, hQ⟩, l1, y1, z1⟩, stp⟩ := X.specialBack B.1 (y := y) hni B.2.2.2.2.1 (mvT B.2.1 wl) (mvT B.2.1 wim) (mvT B.2.1 wc) hy (Con.back (W := W) C hle B.2.1 wc wi hf hlo) (g := mkF m pc Ls (argsL.reverse ++ .ref b :: rest)) rfl (by rw [B.2.2.2.1]; exact hsz) (Steps.refl _) (a := b) (argsL := argsL) (rest := rest) hlen rfl hW (B.d hd) (fun _ _ => ⟨rfl, eT, hc, hs⟩)
  dsimp only [Pt.U, Pt.locs, Pt.cells, Pt.slots] at X' l1 y1 z1 stp hQ
  subst l1 y1 z1
  exact Goes.go (fun t q => stp.trans q) (k v T' T'.heap ⟨_, X', rfl, N.app hN, hn⟩ hQ)
theorem Goes.callV {b : Addr} {K : String} (S : Sd p l e R s m args below meth c T h n0 cells slots) (B : Base p s m meth c Z y0 bytes0 maxL0 ret0) (C : Con l Z y bytes maxL ret rm (.ref b :: argsL).toArray h n0 Q) (E : Exa Z h b K) (wl : (Cond.methodLink y0.cls index y).before a0 Z = true) (wd : (Cond.declares y).before a0 Z = true) (wsel : (Cond.selects K y y).before a0 Z = true) (wim : (Cond.instanceMethod y).before a0 Z = true) (wi : (Cond.initialized y.cls).before a0 Z = true) (wc : (Cond.code y bytes maxL ret).before a0 Z = true)
    (hy : y.cls ≠ "java/lang/invoke/MethodHandle" ∧ y.cls ≠ "java/lang/invoke/VarHandle") (hf : rm.frames + 1 ≤ R.frames) (hlo : W + (maxL + 11) + rm.locals ≤ R.locals) (hc : cells + rm.cells ≤ R.cells) (hs : slots + rm.slots ≤ R.slots) (hsz : Ls.size = maxL0)
    (hlen : ∀ sig, parseMethodDescriptor y.desc = some sig → argsL.length = sig.parameters.length) (hst : st = argsL.reverse ++ .ref b :: rest) (hW : 2 * 0 + (rest.map fun v => v.category).sum ≤ W) (hd : decode bytes0 pc = .ok (.invokevirtual index, 3))
    (k : ∀ v T' h', Sd p l e R s m args below meth c T' h' n0 (cells + rm.cells) (slots + rm.slots) → Q v h' → Goes p.tables e below Φ T' (mkF m (pc + 3) Ls (v.toList ++ rest))) : Goes p.tables e below Φ T (mkF m pc Ls st) := by
  have hle := S.le
  obtain ⟨locs, X, eT, N, hn⟩ := S
  subst hst
  obtain ⟨cq, kq, qa, qb, qc⟩ := isOf B.2.1 eT E
  obtain ⟨v, _, ⟨T', L', k', n'⟩, -, X', ⟨Lc, ⟨hN, hQ⟩, l1, y1, z1⟩, stp⟩ := X.virtualBack B.1 (y := y) (z := y) B.2.2.2.2.1 (mvT B.2.1 wl) (mvT B.2.1 wd) (notFace_of_selects (args := #[]) (mvT B.2.1 wsel)) (mvT B.2.1 wsel) (mvT B.2.1 wim) hy (Con.back (W := W) C hle B.2.1 wc wi hf hlo) qa qc (g := mkF m pc Ls (argsL.reverse ++ .ref b :: rest)) rfl (by rw [B.2.2.2.1]; exact hsz) (Steps.refl _) (argsL := argsL) (rest := rest) hlen rfl hW (B.d hd) (fun _ _ => ⟨rfl, eT, hc, hs⟩)
  dsimp only [Pt.U, Pt.locs, Pt.cells, Pt.slots] at X' l1 y1 z1 stp hQ
  subst l1 y1 z1
  exact Goes.go (fun t q => stp.trans q) (k v T' T'.heap ⟨_, X', rfl, N.app hN, hn⟩ hQ)
theorem Goes.callP {b : Addr} {K : String} (S : Sd p l e R s m args below meth c T h n0 cells slots) (B : Base p s m meth c Z y0 bytes0 maxL0 ret0) (C : Con l Z y bytes maxL ret rm (.ref b :: argsL).toArray h n0 Q) (E : Exa Z h b K) (wl : (Cond.methodLink y0.cls index y).before a0 Z = true) (wp : (Cond.privateMethod y).before a0 Z = true) {kk : Nat} (wk : (Cond.instantiable y.cls kk).before a0 Z = true) (wim : (Cond.instanceMethod y).before a0 Z = true) (wi : (Cond.initialized y.cls).before a0 Z = true) (wc : (Cond.code y bytes maxL ret).before a0 Z = true)
    (hy : y.cls ≠ "java/lang/invoke/MethodHandle" ∧ y.cls ≠ "java/lang/invoke/VarHandle") (hf : rm.frames + 1 ≤ R.frames) (hlo : W + (maxL + 11) + rm.locals ≤ R.locals) (hc : cells + rm.cells ≤ R.cells) (hs : slots + rm.slots ≤ R.slots) (hsz : Ls.size = maxL0)
    (hlen : ∀ sig, parseMethodDescriptor y.desc = some sig → argsL.length = sig.parameters.length) (hst : st = argsL.reverse ++ .ref b :: rest) (hW : 2 * 0 + (rest.map fun v => v.category).sum ≤ W) (hd : decode bytes0 pc = .ok (.invokevirtual index, 3))
    (k : ∀ v T' h', Sd p l e R s m args below meth c T' h' n0 (cells + rm.cells) (slots + rm.slots) → Q v h' → Goes p.tables e below Φ T' (mkF m (pc + 3) Ls (v.toList ++ rest))) : Goes p.tables e below Φ T (mkF m pc Ls st) := by
  have hle := S.le
  obtain ⟨locs, X, eT, N, hn⟩ := S
  subst hst
  obtain ⟨cq, q1, q2⟩ := E.cell
  have hpr : s.PrivateAt y := Cond.privateMethod_at (mvP B.2.1 wp (args := #[]))
  have wsel : (Cond.selects y.cls y y).before args s = true := by
    obtain ⟨ci, ki, i1, i2, i3, i4, -⟩ := Cond.instantiable_spec (mvT B.2.1 wk (args := args))
    exact selects_self_of_private i1 i2 (Bool.or_eq_false_iff.mp i4).1 hpr (mvT B.2.1 wim) hy
  obtain ⟨v, _, ⟨T', L', k', n'⟩, -, X', ⟨Lc, ⟨hN, hQ⟩, l1, y1, z1⟩, stp⟩ := X.privateBack B.1 (y := y) B.2.2.2.2.1 (mvT B.2.1 wl) (mvT B.2.1 wim) wsel hpr (mvT B.2.1 wc) hy (Con.back (W := W) C hle B.2.1 wc wi hf hlo) (g := mkF m pc Ls (argsL.reverse ++ .ref b :: rest)) rfl (by rw [B.2.2.2.1]; exact hsz) (Steps.refl _) (a := b) (by rw [eT]; exact q1) q2 (argsL := argsL) (rest := rest) hlen rfl hW (B.d hd) (fun _ _ => ⟨rfl, eT, hc, hs⟩)
  dsimp only [Pt.U, Pt.locs, Pt.cells, Pt.slots] at X' l1 y1 z1 stp hQ
  subst l1 y1 z1
  exact Goes.go (fun t q => stp.trans q) (k v T' T'.heap ⟨_, X', rfl, N.app hN, hn⟩ hQ)
end Calls
/-! arrays: what lies at each place, as a function -/
def Ary (Z : State) (h : Heap) (a : Addr) (ty : FieldType) (n : Nat) (f : Nat → Value) : Prop := ∃ c : Cell, Arr Z h a c ty ∧ c.slots.size = n ∧ n < 2 ^ 31 ∧ ∀ i, i < n → c.slots[i]? = some (f i)
def aup {α : Type} (f : Nat → α) (i : Nat) (v : α) : Nat → α := fun k => if k = i then v else f k
theorem aup_int (g : Nat → Int32) (k : Nat) (x : Int32) : aup (fun i => Value.int (g i)) k (.int x) = fun i => .int (aup g k x i) := by
  funext i
  simp only [aup]
  split <;> rfl
theorem aup_long (g : Nat → Int64) (k : Nat) (x : Int64) : aup (fun i => Value.long (g i)) k (.long x) = fun i => .long (aup g k x i) := by
  funext i
  simp only [aup]
  split <;> rfl
section Arrays
variable {a b : Addr} {ty : FieldType} {n : Nat} {f : Nat → Value} {h' : Heap} {j : Int32} {v : Value} {sl : Nat} {ws : List Addr}
theorem Ary.lt (A : Ary Z h a ty n f) : a < h.size := by obtain ⟨c, A, -⟩ := A; exact A.lt
theorem Ary.ext (A : Ary Z h a ty n f) (E : Ext h h') : Ary Z h' a ty n f := by obtain ⟨c, A, r⟩ := A; exact ⟨c, A.ext E, r⟩
theorem Ary.other (A : Ary Z h b ty n f) (W : Wr h h' a sl v) (q : b ≠ a) : Ary Z h' b ty n f := by obtain ⟨c, A, r⟩ := A; exact ⟨c, A.other W q, r⟩
theorem Ary.keep (A : Ary Z h a ty n f) (K : Keep h h' ws) (q : a ∉ ws) : Ary Z h' a ty n f := by obtain ⟨c, A, r⟩ := A; exact ⟨c, ⟨K.2.1 a c A.1 q, A.2⟩, r⟩
theorem Ary.cast {g : Nat → Value} (A : Ary Z h a ty n f) (q : ∀ i, i < n → f i = g i) : Ary Z h a ty n g := by obtain ⟨c, A, r1, r2, r3⟩ := A; exact ⟨c, A, r1, r2, fun i hi => by rw [r3 i hi, q i hi]⟩
theorem Ary.new {z : Int32} {k : ClassId} (A : Arr Z h a (newA k ty z) ty) (q : ¬ z < 0) : Ary Z h a ty z.toNatClampNeg (fun _ => defaultValue ty) :=
  ⟨_, A, sz_new _ _ _, (back32 q).2, fun i hi => by simp [newA, hi]⟩
theorem Ary.set {i : Nat} (A : Ary Z h a ty n f) (W : Wr h h' a i v) (hi : i < n) : Ary Z h' a ty n (aup f i v) := by
  obtain ⟨c, A, r1, r2, r3⟩ := A
  refine ⟨_, A.same W, by rw [sz_set]; exact r1, r2, fun k hk => ?_⟩
  by_cases e : k = i
  · subst e
    simp [aup, Cell.setSlot, r1, hi]
  · have e' : i ≠ k := fun q => e q.symm
    simp only [aup, if_neg e, Cell.setSlot]
    rw [Array.getElem?_setIfInBounds_ne e']
    exact r3 k hk
theorem Goes.newP {aty : ArrayType} {z : Int32} {cap : Nat} (S : Sd p l e R s m args below meth c T h n0 cells slots) (B : Base p s m meth c Z y0 bytes0 maxL0 ret0) (w : (Cond.arrayClass (newarray.typeOf aty)).before a0 Z = true) (hd : decode bytes0 pc = .ok (.newarray aty, 2)) (hz : ¬ z < 0) (hcap : z.toNatClampNeg ≤ cap) (hb : cap * 8 ≤ 536870912) (hc : cells + 1 ≤ R.cells) (hl : slots + cap ≤ R.slots)
    (k : ∀ T' h' b, Sd p l e R s m args below meth c T' h' n0 (cells + 1) (slots + cap) → Ext h h' → b = h.size → n0 ≤ b → Ary Z h' b (newarray.typeOf aty) z.toNatClampNeg (fun _ => defaultValue (newarray.typeOf aty)) → Goes p.tables e below Φ T' (mkF m (pc + 2) Ls (.ref b :: rest))) :
    Goes p.tables e below Φ T (mkF m pc Ls (.int z :: rest)) := by
  have hle := S.le
  obtain ⟨locs, X, eT, N, hn⟩ := S
  obtain ⟨T', h', k', X', e', E, A, stp⟩ := RoadKit.newP X B.1 B.2.1 w eT (g := mkF m pc Ls (.int z :: rest)) rfl (B.d hd) rfl hz hcap hb hc hl
  exact Goes.go stp (k T' h' h.size ⟨locs, X', e', N, hn⟩ E rfl hle (Ary.new A hz))
theorem Goes.iaload (S : Sd p l e R s m args below meth c T h n0 cells slots) (B : Base p s m meth c Z y0 bytes0 maxL0 ret0) (A : Ary Z h a .int n f) (q0 : ¬ j < 0) (q1 : j.toNatClampNeg < n) (hd : decode bytes0 pc = .ok (.iaload, 1)) (hv : f j.toNatClampNeg = v) (k : Goes p.tables e below Φ T (mkF m (pc + 1) Ls (v :: rest))) : Goes p.tables e below Φ T (mkF m pc Ls (.int j :: .ref a :: rest)) := by
  obtain ⟨locs, X, eT, N, hn⟩ := S
  obtain ⟨cl, A, r1, r2, r3⟩ := A
  exact Goes.go (X.iaload B.1 (j := j) (v := v) (by rw [eT]; exact A.1) (State.isArrayOf_alike B.2.1.alike A.2.1) A.2.2 (by rw [r1]; exact fun z => z.elim q0 (Nat.not_le.mpr q1)) (by rw [r3 _ q1, hv]) (g := mkF m pc Ls (.int j :: .ref a :: rest)) rfl rfl (B.d hd)) k
theorem Goes.laload (S : Sd p l e R s m args below meth c T h n0 cells slots) (B : Base p s m meth c Z y0 bytes0 maxL0 ret0) (A : Ary Z h a .long n f) (q0 : ¬ j < 0) (q1 : j.toNatClampNeg < n) (hd : decode bytes0 pc = .ok (.laload, 1)) (hv : f j.toNatClampNeg = v) (k : Goes p.tables e below Φ T (mkF m (pc + 1) Ls (v :: rest))) : Goes p.tables e below Φ T (mkF m pc Ls (.int j :: .ref a :: rest)) := by
  obtain ⟨locs, X, eT, N, hn⟩ := S
  obtain ⟨cl, A, r1, r2, r3⟩ := A
  exact Goes.go (X.laload B.1 (j := j) (v := v) (by rw [eT]; exact A.1) (State.isArrayOf_alike B.2.1.alike A.2.1) A.2.2 (by rw [r1]; exact fun z => z.elim q0 (Nat.not_le.mpr q1)) (by rw [r3 _ q1, hv]) (g := mkF m pc Ls (.int j :: .ref a :: rest)) rfl rfl (B.d hd)) k
theorem Goes.baload (S : Sd p l e R s m args below meth c T h n0 cells slots) (B : Base p s m meth c Z y0 bytes0 maxL0 ret0) (A : Ary Z h a .byte n f) (q0 : ¬ j < 0) (q1 : j.toNatClampNeg < n) (hd : decode bytes0 pc = .ok (.baload, 1)) (hv : f j.toNatClampNeg = v) (k : Goes p.tables e below Φ T (mkF m (pc + 1) Ls (v :: rest))) : Goes p.tables e below Φ T (mkF m pc Ls (.int j :: .ref a :: rest)) := by
  obtain ⟨locs, X, eT, N, hn⟩ := S
  obtain ⟨cl, A, r1, r2, r3⟩ := A
  exact Goes.go (X.baloadBytes B.1 (j := j) (v := v) (by rw [eT]; exact A.1) (State.isArrayOf_alike B.2.1.alike A.2.1) A.2.2 (by rw [r1]; exact fun z => z.elim q0 (Nat.not_le.mpr q1)) (by rw [r3 _ q1, hv]) (g := mkF m pc Ls (.int j :: .ref a :: rest)) rfl rfl (B.d hd)) k
theorem Goes.zaload (S : Sd p l e R s m args below meth c T h n0 cells slots) (B : Base p s m meth c Z y0 bytes0 maxL0 ret0) (A : Ary Z h a .boolean n f) (q0 : ¬ j < 0) (q1 : j.toNatClampNeg < n) (hd : decode bytes0 pc = .ok (.baload, 1)) (hv : f j.toNatClampNeg = v) (k : Goes p.tables e below Φ T (mkF m (pc + 1) Ls (v :: rest))) : Goes p.tables e below Φ T (mkF m pc Ls (.int j :: .ref a :: rest)) := by
  obtain ⟨locs, X, eT, N, hn⟩ := S
  obtain ⟨cl, A, r1, r2, r3⟩ := A
  exact Goes.go (X.baloadBooleans B.1 (j := j) (v := v) (by rw [eT]; exact A.1) (State.isArrayOf_alike B.2.1.alike A.2.1) A.2.2 (by rw [r1]; exact fun z => z.elim q0 (Nat.not_le.mpr q1)) (by rw [r3 _ q1, hv]) (g := mkF m pc Ls (.int j :: .ref a :: rest)) rfl rfl (B.d hd)) k
theorem Goes.alen (S : Sd p l e R s m args below meth c T h n0 cells slots) (B : Base p s m meth c Z y0 bytes0 maxL0 ret0) (A : Ary Z h a ty n f) {z : Int32} (hz : n.toInt32 = z) (hd : decode bytes0 pc = .ok (.arraylength, 1)) (k : Goes p.tables e below Φ T (mkF m (pc + 1) Ls (.int z :: rest))) : Goes p.tables e below Φ T (mkF m pc Ls (.ref a :: rest)) := by
  obtain ⟨locs, X, eT, N, hn⟩ := S
  obtain ⟨cl, A, r1, r2, r3⟩ := A
  subst r1 hz
  exact Goes.go (X.arraylength B.1 (by rw [eT]; exact A.1) (State.isArrayOf_alike B.2.1.alike A.2.1) (g := mkF m pc Ls (.ref a :: rest)) rfl rfl (B.d hd)) k
theorem Goes.iastore {x : Int32} (S : Sd p l e R s m args below meth c T h n0 cells slots) (B : Base p s m meth c Z y0 bytes0 maxL0 ret0) (A : Ary Z h a .int n f) (q0 : ¬ j < 0) (q1 : j.toNatClampNeg < n) (ga : n0 ≤ a) (hd : decode bytes0 pc = .ok (.iastore, 1))
    (k : ∀ T' h', Sd p l e R s m args below meth c T' h' n0 cells slots → Wr h h' a j.toNatClampNeg (.int x) → Ary Z h' a .int n (aup f j.toNatClampNeg (.int x)) → Goes p.tables e below Φ T' (mkF m (pc + 1) Ls rest)) : Goes p.tables e below Φ T (mkF m pc Ls (.int x :: .int j :: .ref a :: rest)) := by
  obtain ⟨locs, X, eT, N, hn⟩ := S
  have A' := A
  obtain ⟨cl, A, r1, r2, r3⟩ := A
  obtain ⟨T', h', X', e', W, stp⟩ := RoadKit.stI X B.1 B.2.1 eT A (j := j) (by rw [r1]; exact fun z => z.elim q0 (Nat.not_le.mpr q1)) (g := mkF m pc Ls (.int x :: .int j :: .ref a :: rest)) rfl rfl (B.d hd)
  exact Goes.go stp (k T' h' ⟨_, X', e', Fr.snoc X' N ga, hn⟩ W (A'.set W q1))
theorem Goes.lastore {x : Int64} (S : Sd p l e R s m args below meth c T h n0 cells slots) (B : Base p s m meth c Z y0 bytes0 maxL0 ret0) (A : Ary Z h a .long n f) (q0 : ¬ j < 0) (q1 : j.toNatClampNeg < n) (ga : n0 ≤ a) (hd : decode bytes0 pc = .ok (.lastore, 1))
    (k : ∀ T' h', Sd p l e R s m args below meth c T' h' n0 cells slots → Wr h h' a j.toNatClampNeg (.long x) → Ary Z h' a .long n (aup f j.toNatClampNeg (.long x)) → Goes p.tables e below Φ T' (mkF m (pc + 1) Ls rest)) : Goes p.tables e below Φ T (mkF m pc Ls (.long x :: .int j :: .ref a :: rest)) := by
  obtain ⟨locs, X, eT, N, hn⟩ := S
  have A' := A
  obtain ⟨cl, A, r1, r2, r3⟩ := A
  obtain ⟨T', h', X', e', W, stp⟩ := RoadKit.stJ X B.1 B.2.1 eT A (j := j) (by rw [r1]; exact fun z => z.elim q0 (Nat.not_le.mpr q1)) (g := mkF m pc Ls (.long x :: .int j :: .ref a :: rest)) rfl rfl (B.d hd)
  exact Goes.go stp (k T' h' ⟨_, X', e', Fr.snoc X' N ga, hn⟩ W (A'.set W q1))
theorem Goes.bastore {x : Int32} (S : Sd p l e R s m args below meth c T h n0 cells slots) (B : Base p s m meth c Z y0 bytes0 maxL0 ret0) (A : Ary Z h a .byte n f) (q0 : ¬ j < 0) (q1 : j.toNatClampNeg < n) (ga : n0 ≤ a) (hd : decode bytes0 pc = .ok (.bastore, 1))
    (k : ∀ T' h', Sd p l e R s m args below meth c T' h' n0 cells slots → Wr h h' a j.toNatClampNeg (.int (nar .byte x)) → Ary Z h' a .byte n (aup f j.toNatClampNeg (.int (nar .byte x))) → Goes p.tables e below Φ T' (mkF m (pc + 1) Ls rest)) : Goes p.tables e below Φ T (mkF m pc Ls (.int x :: .int j :: .ref a :: rest)) := by
  obtain ⟨locs, X, eT, N, hn⟩ := S
  have A' := A
  obtain ⟨cl, A, r1, r2, r3⟩ := A
  obtain ⟨T', h', X', e', W, stp⟩ := RoadKit.stB X B.1 B.2.1 eT A (j := j) (by rw [r1]; exact fun z => z.elim q0 (Nat.not_le.mpr q1)) (g := mkF m pc Ls (.int x :: .int j :: .ref a :: rest)) rfl rfl (B.d hd)
  exact Goes.go stp (k T' h' ⟨_, X', e', Fr.snoc X' N ga, hn⟩ W (A'.set W q1))
theorem Goes.zastore {x : Int32} (S : Sd p l e R s m args below meth c T h n0 cells slots) (B : Base p s m meth c Z y0 bytes0 maxL0 ret0) (A : Ary Z h a .boolean n f) (q0 : ¬ j < 0) (q1 : j.toNatClampNeg < n) (ga : n0 ≤ a) (hd : decode bytes0 pc = .ok (.bastore, 1))
    (k : ∀ T' h', Sd p l e R s m args below meth c T' h' n0 cells slots → Wr h h' a j.toNatClampNeg (.int (nar .boolean x)) → Ary Z h' a .boolean n (aup f j.toNatClampNeg (.int (nar .boolean x))) → Goes p.tables e below Φ T' (mkF m (pc + 1) Ls rest)) : Goes p.tables e below Φ T (mkF m pc Ls (.int x :: .int j :: .ref a :: rest)) := by
  obtain ⟨locs, X, eT, N, hn⟩ := S
  have A' := A
  obtain ⟨cl, A, r1, r2, r3⟩ := A
  obtain ⟨T', h', X', e', W, stp⟩ := RoadKit.stZ X B.1 B.2.1 eT A (j := j) (by rw [r1]; exact fun z => z.elim q0 (Nat.not_le.mpr q1)) (g := mkF m pc Ls (.int x :: .int j :: .ref a :: rest)) rfl rfl (B.d hd)
  exact Goes.go stp (k T' h' ⟨_, X', e', Fr.snoc X' N ga, hn⟩ W (A'.set W q1))
end Arrays
end Lay
end Jvm.OwnKit
namespace Jvm.Pilot.@@N@@
open Jvm Jvm.ClassFile Sem Op Lib Jvm.Free Jvm.Stand Jvm.LawKit Jvm.RoadKit Jvm.OwnKit Bundle Jvm.Pilot.@@N@@.Jvm.D
theorem w0 {Z : State} {a0 : Array Value} (hw : ∀ d ∈ tables_1, d.before a0 Z = true) : ((Jvm.Cond.methodLink "com/example/sum_to_shares/sumtoshares/engine/PacketStateOfPinLaw" (7 : Nat) ({ cls := "com/example/sum_to_shares/sumtoshares/engine/PacketState", name := "of", desc := "(IIZ)Lcom/example/sum_to_shares/sumtoshares/engine/PacketState;" } : Jvm.MethodName)) : Jvm.Cond).before a0 Z = true := hw _ (List.mem_of_getElem? (i := 0) rfl)
theorem w1 {Z : State} {a0 : Array Value} (hw : ∀ d ∈ tables_1, d.before a0 Z = true) : ((Jvm.Cond.static ({ cls := "com/example/sum_to_shares/sumtoshares/engine/PacketState", name := "of", desc := "(IIZ)Lcom/example/sum_to_shares/sumtoshares/engine/PacketState;" } : Jvm.MethodName)) : Jvm.Cond).before a0 Z = true := hw _ (List.mem_of_getElem? (i := 1) rfl)
theorem w2 {Z : State} {a0 : Array Value} (hw : ∀ d ∈ tables_1, d.before a0 Z = true) : ((Jvm.Cond.initialized "com/example/sum_to_shares/sumtoshares/engine/PacketState") : Jvm.Cond).before a0 Z = true := hw _ (List.mem_of_getElem? (i := 2) rfl)
theorem w3 {Z : State} {a0 : Array Value} (hw : ∀ d ∈ tables_1, d.before a0 Z = true) : ((Jvm.Cond.code ({ cls := "com/example/sum_to_shares/sumtoshares/engine/PacketState", name := "of", desc := "(IIZ)Lcom/example/sum_to_shares/sumtoshares/engine/PacketState;" } : Jvm.MethodName) prog_16_method_4_code (4 : Nat) (Option.some (Jvm.ClassFile.FieldType.object "com/example/sum_to_shares/sumtoshares/engine/PacketState"))) : Jvm.Cond).before a0 Z = true := hw _ (List.mem_of_getElem? (i := 3) rfl)
theorem w4 {Z : State} {a0 : Array Value} (hw : ∀ d ∈ tables_1, d.before a0 Z = true) : ((Jvm.Cond.fieldLink "com/example/sum_to_shares/sumtoshares/engine/PacketState" (7 : Nat) "com/example/sum_to_shares/sumtoshares/engine/PacketState" "FINISHED" "Lcom/example/sum_to_shares/sumtoshares/engine/PacketState;") : Jvm.Cond).before a0 Z = true := hw _ (List.mem_of_getElem? (i := 4) rfl)
theorem w5 {Z : State} {a0 : Array Value} (hw : ∀ d ∈ tables_1, d.before a0 Z = true) : ((Jvm.Cond.laysStatic "com/example/sum_to_shares/sumtoshares/engine/PacketState" "FINISHED" "Lcom/example/sum_to_shares/sumtoshares/engine/PacketState;") : Jvm.Cond).before a0 Z = true := hw _ (List.mem_of_getElem? (i := 5) rfl)
theorem w6 {Z : State} {a0 : Array Value} (hw : ∀ d ∈ tables_1, d.before a0 Z = true) : ((Jvm.Cond.fieldLink "com/example/sum_to_shares/sumtoshares/engine/PacketStateOfPinLaw" (19 : Nat) "com/example/sum_to_shares/sumtoshares/engine/PacketState" "FINISHED" "Lcom/example/sum_to_shares/sumtoshares/engine/PacketState;") : Jvm.Cond).before a0 Z = true := hw _ (List.mem_of_getElem? (i := 6) rfl)
theorem w7 {Z : State} {a0 : Array Value} (hw : ∀ d ∈ tables_1, d.before a0 Z = true) : ((Jvm.Cond.stringLink "com/example/sum_to_shares/sumtoshares/engine/PacketStateOfPinLaw" (22 : Nat) "finished") : Jvm.Cond).before a0 Z = true := hw _ (List.mem_of_getElem? (i := 7) rfl)
theorem w8 {Z : State} {a0 : Array Value} (hw : ∀ d ∈ tables_1, d.before a0 Z = true) : ((Jvm.Cond.initialized "java/lang/String") : Jvm.Cond).before a0 Z = true := hw _ (List.mem_of_getElem? (i := 8) rfl)
theorem w15 {Z : State} {a0 : Array Value} (hw : ∀ d ∈ tables_1, d.before a0 Z = true) : ((Jvm.Cond.methodLink "com/example/sum_to_shares/sumtoshares/engine/PacketStateOfPinLaw" (29 : Nat) ({ cls := "com/example/sum_to_shares/sumtoshares/engine/PacketState", name := "code", desc := "()Ljava/lang/String;" } : Jvm.MethodName)) : Jvm.Cond).before a0 Z = true := hw _ (List.mem_of_getElem? (i := 15) rfl)
theorem w16 {Z : State} {a0 : Array Value} (hw : ∀ d ∈ tables_1, d.before a0 Z = true) : ((Jvm.Cond.declares ({ cls := "com/example/sum_to_shares/sumtoshares/engine/PacketState", name := "code", desc := "()Ljava/lang/String;" } : Jvm.MethodName)) : Jvm.Cond).before a0 Z = true := hw _ (List.mem_of_getElem? (i := 16) rfl)
theorem w17 {Z : State} {a0 : Array Value} (hw : ∀ d ∈ tables_1, d.before a0 Z = true) : ((Jvm.Cond.instanceMethod ({ cls := "com/example/sum_to_shares/sumtoshares/engine/PacketState", name := "code", desc := "()Ljava/lang/String;" } : Jvm.MethodName)) : Jvm.Cond).before a0 Z = true := hw _ (List.mem_of_getElem? (i := 17) rfl)
theorem w18 {Z : State} {a0 : Array Value} (hw : ∀ d ∈ tables_1, d.before a0 Z = true) : ((Jvm.Cond.selects "com/example/sum_to_shares/sumtoshares/engine/PacketState" ({ cls := "com/example/sum_to_shares/sumtoshares/engine/PacketState", name := "code", desc := "()Ljava/lang/String;" } : Jvm.MethodName) ({ cls := "com/example/sum_to_shares/sumtoshares/engine/PacketState", name := "code", desc := "()Ljava/lang/String;" } : Jvm.MethodName)) : Jvm.Cond).before a0 Z = true := hw _ (List.mem_of_getElem? (i := 18) rfl)
theorem w19 {Z : State} {a0 : Array Value} (hw : ∀ d ∈ tables_1, d.before a0 Z = true) : ((Jvm.Cond.code ({ cls := "com/example/sum_to_shares/sumtoshares/engine/PacketState", name := "code", desc := "()Ljava/lang/String;" } : Jvm.MethodName) prog_16_method_5_code (1 : Nat) (Option.some (Jvm.ClassFile.FieldType.object "java/lang/String"))) : Jvm.Cond).before a0 Z = true := hw _ (List.mem_of_getElem? (i := 19) rfl)
theorem w20 {Z : State} {a0 : Array Value} (hw : ∀ d ∈ tables_1, d.before a0 Z = true) : ((Jvm.Cond.fieldLink "com/example/sum_to_shares/sumtoshares/engine/PacketState" (32 : Nat) "com/example/sum_to_shares/sumtoshares/engine/PacketState" "code" "Ljava/lang/String;") : Jvm.Cond).before a0 Z = true := hw _ (List.mem_of_getElem? (i := 20) rfl)
theorem w22 {Z : State} {a0 : Array Value} (hw : ∀ d ∈ tables_1, d.before a0 Z = true) : ((Jvm.Cond.methodLink "com/example/sum_to_shares/sumtoshares/engine/PacketStateOfPinLaw" (33 : Nat) ({ cls := "java/lang/String", name := "equals", desc := "(Ljava/lang/Object;)Z" } : Jvm.MethodName)) : Jvm.Cond).before a0 Z = true := hw _ (List.mem_of_getElem? (i := 22) rfl)
theorem w23 {Z : State} {a0 : Array Value} (hw : ∀ d ∈ tables_1, d.before a0 Z = true) : ((Jvm.Cond.declares ({ cls := "java/lang/String", name := "equals", desc := "(Ljava/lang/Object;)Z" } : Jvm.MethodName)) : Jvm.Cond).before a0 Z = true := hw _ (List.mem_of_getElem? (i := 23) rfl)
theorem w24 {Z : State} {a0 : Array Value} (hw : ∀ d ∈ tables_1, d.before a0 Z = true) : ((Jvm.Cond.instanceMethod ({ cls := "java/lang/String", name := "equals", desc := "(Ljava/lang/Object;)Z" } : Jvm.MethodName)) : Jvm.Cond).before a0 Z = true := hw _ (List.mem_of_getElem? (i := 24) rfl)
theorem w25 {Z : State} {a0 : Array Value} (hw : ∀ d ∈ tables_1, d.before a0 Z = true) : ((Jvm.Cond.selects "java/lang/String" ({ cls := "java/lang/String", name := "equals", desc := "(Ljava/lang/Object;)Z" } : Jvm.MethodName) ({ cls := "java/lang/String", name := "equals", desc := "(Ljava/lang/Object;)Z" } : Jvm.MethodName)) : Jvm.Cond).before a0 Z = true := hw _ (List.mem_of_getElem? (i := 25) rfl)
theorem w26 {Z : State} {a0 : Array Value} (hw : ∀ d ∈ tables_1, d.before a0 Z = true) : ((Jvm.Cond.code ({ cls := "java/lang/String", name := "equals", desc := "(Ljava/lang/Object;)Z" } : Jvm.MethodName) jdk_42_method_66_code (3 : Nat) (Option.some Jvm.ClassFile.FieldType.boolean)) : Jvm.Cond).before a0 Z = true := hw _ (List.mem_of_getElem? (i := 26) rfl)
theorem w27 {Z : State} {a0 : Array Value} (hw : ∀ d ∈ tables_1, d.before a0 Z = true) : ((Jvm.Cond.classLink "java/lang/String" (10 : Nat) "java/lang/String") : Jvm.Cond).before a0 Z = true := hw _ (List.mem_of_getElem? (i := 27) rfl)
theorem w29 {Z : State} {a0 : Array Value} (hw : ∀ d ∈ tables_1, d.before a0 Z = true) : ((Jvm.Cond.fieldLink "java/lang/String" (38 : Nat) "java/lang/String" "COMPACT_STRINGS" "Z") : Jvm.Cond).before a0 Z = true := hw _ (List.mem_of_getElem? (i := 29) rfl)
theorem w30 {Z : State} {a0 : Array Value} (hw : ∀ d ∈ tables_1, d.before a0 Z = true) : ((Jvm.Cond.fieldLink "java/lang/String" (15 : Nat) "java/lang/String" "coder" "B") : Jvm.Cond).before a0 Z = true := hw _ (List.mem_of_getElem? (i := 30) rfl)
theorem w31 {Z : State} {a0 : Array Value} (hw : ∀ d ∈ tables_1, d.before a0 Z = true) : ((Jvm.Cond.fieldLink "java/lang/String" (9 : Nat) "java/lang/String" "value" "[B") : Jvm.Cond).before a0 Z = true := hw _ (List.mem_of_getElem? (i := 31) rfl)
theorem w32 {Z : State} {a0 : Array Value} (hw : ∀ d ∈ tables_1, d.before a0 Z = true) : ((Jvm.Cond.methodLink "java/lang/String" (541 : Nat) ({ cls := "java/lang/StringLatin1", name := "equals", desc := "([B[B)Z" } : Jvm.MethodName)) : Jvm.Cond).before a0 Z = true := hw _ (List.mem_of_getElem? (i := 32) rfl)
theorem w33 {Z : State} {a0 : Array Value} (hw : ∀ d ∈ tables_1, d.before a0 Z = true) : ((Jvm.Cond.static ({ cls := "java/lang/StringLatin1", name := "equals", desc := "([B[B)Z" } : Jvm.MethodName)) : Jvm.Cond).before a0 Z = true := hw _ (List.mem_of_getElem? (i := 33) rfl)
theorem w34 {Z : State} {a0 : Array Value} (hw : ∀ d ∈ tables_1, d.before a0 Z = true) : ((Jvm.Cond.initialized "java/lang/StringLatin1") : Jvm.Cond).before a0 Z = true := hw _ (List.mem_of_getElem? (i := 34) rfl)
theorem w35 {Z : State} {a0 : Array Value} (hw : ∀ d ∈ tables_1, d.before a0 Z = true) : ((Jvm.Cond.code ({ cls := "java/lang/StringLatin1", name := "equals", desc := "([B[B)Z" } : Jvm.MethodName) jdk_43_method_13_code (3 : Nat) (Option.some Jvm.ClassFile.FieldType.boolean)) : Jvm.Cond).before a0 Z = true := hw _ (List.mem_of_getElem? (i := 35) rfl)
theorem w36 {Z : State} {a0 : Array Value} (hw : ∀ d ∈ tables_1, d.before a0 Z = true) : ((Jvm.Cond.fieldLink "com/example/sum_to_shares/sumtoshares/engine/PacketState" (10 : Nat) "com/example/sum_to_shares/sumtoshares/engine/PacketState" "EXPIRED" "Lcom/example/sum_to_shares/sumtoshares/engine/PacketState;") : Jvm.Cond).before a0 Z = true := hw _ (List.mem_of_getElem? (i := 36) rfl)
theorem w37 {Z : State} {a0 : Array Value} (hw : ∀ d ∈ tables_1, d.before a0 Z = true) : ((Jvm.Cond.laysStatic "com/example/sum_to_shares/sumtoshares/engine/PacketState" "EXPIRED" "Lcom/example/sum_to_shares/sumtoshares/engine/PacketState;") : Jvm.Cond).before a0 Z = true := hw _ (List.mem_of_getElem? (i := 37) rfl)
theorem w38 {Z : State} {a0 : Array Value} (hw : ∀ d ∈ tables_1, d.before a0 Z = true) : ((Jvm.Cond.fieldLink "com/example/sum_to_shares/sumtoshares/engine/PacketStateOfPinLaw" (13 : Nat) "com/example/sum_to_shares/sumtoshares/engine/PacketState" "EXPIRED" "Lcom/example/sum_to_shares/sumtoshares/engine/PacketState;") : Jvm.Cond).before a0 Z = true := hw _ (List.mem_of_getElem? (i := 38) rfl)
theorem w39 {Z : State} {a0 : Array Value} (hw : ∀ d ∈ tables_1, d.before a0 Z = true) : ((Jvm.Cond.stringLink "com/example/sum_to_shares/sumtoshares/engine/PacketStateOfPinLaw" (17 : Nat) "expired") : Jvm.Cond).before a0 Z = true := hw _ (List.mem_of_getElem? (i := 39) rfl)
theorem w40 {Z : State} {a0 : Array Value} (hw : ∀ d ∈ tables_1, d.before a0 Z = true) : ((Jvm.Cond.fieldLink "com/example/sum_to_shares/sumtoshares/engine/PacketState" (3 : Nat) "com/example/sum_to_shares/sumtoshares/engine/PacketState" "OPEN" "Lcom/example/sum_to_shares/sumtoshares/engine/PacketState;") : Jvm.Cond).before a0 Z = true := hw _ (List.mem_of_getElem? (i := 40) rfl)
theorem w41 {Z : State} {a0 : Array Value} (hw : ∀ d ∈ tables_1, d.before a0 Z = true) : ((Jvm.Cond.laysStatic "com/example/sum_to_shares/sumtoshares/engine/PacketState" "OPEN" "Lcom/example/sum_to_shares/sumtoshares/engine/PacketState;") : Jvm.Cond).before a0 Z = true := hw _ (List.mem_of_getElem? (i := 41) rfl)
theorem w42 {Z : State} {a0 : Array Value} (hw : ∀ d ∈ tables_1, d.before a0 Z = true) : ((Jvm.Cond.fieldLink "com/example/sum_to_shares/sumtoshares/engine/PacketStateOfPinLaw" (24 : Nat) "com/example/sum_to_shares/sumtoshares/engine/PacketState" "OPEN" "Lcom/example/sum_to_shares/sumtoshares/engine/PacketState;") : Jvm.Cond).before a0 Z = true := hw _ (List.mem_of_getElem? (i := 42) rfl)
theorem w43 {Z : State} {a0 : Array Value} (hw : ∀ d ∈ tables_1, d.before a0 Z = true) : ((Jvm.Cond.stringLink "com/example/sum_to_shares/sumtoshares/engine/PacketStateOfPinLaw" (27 : Nat) "open") : Jvm.Cond).before a0 Z = true := hw _ (List.mem_of_getElem? (i := 43) rfl)
theorem d_prog_16_method_4_0 : decode prog_16_method_4_code 0 = .ok (.iload_n 2, 1) := by decide +kernel
theorem d_prog_16_method_4_1 : decode prog_16_method_4_code 1 = .ok (.ifCond .eq 10, 3) := by decide +kernel
theorem d_prog_16_method_4_11 : decode prog_16_method_4_code 11 = .ok (.iload_n 1, 1) := by decide +kernel
theorem d_prog_16_method_4_12 : decode prog_16_method_4_code 12 = .ok (.iload_n 0, 1) := by decide +kernel
theorem d_prog_16_method_4_13 : decode prog_16_method_4_code 13 = .ok (.if_icmp .ne 10, 3) := by decide +kernel
theorem d_prog_16_method_4_16 : decode prog_16_method_4_code 16 = .ok (.getstatic 7, 3) := by decide +kernel
theorem d_prog_16_method_4_19 : decode prog_16_method_4_code 19 = .ok (.astore_n 3, 1) := by decide +kernel
theorem d_prog_16_method_4_20 : decode prog_16_method_4_code 20 = .ok (.goto 7, 3) := by decide +kernel
theorem d_prog_16_method_4_27 : decode prog_16_method_4_code 27 = .ok (.aload_n 3, 1) := by decide +kernel
theorem d_prog_16_method_4_28 : decode prog_16_method_4_code 28 = .ok (.areturn, 1) := by decide +kernel
theorem d_prog_16_method_4_23 : decode prog_16_method_4_code 23 = .ok (.getstatic 3, 3) := by decide +kernel
theorem d_prog_16_method_4_26 : decode prog_16_method_4_code 26 = .ok (.astore_n 3, 1) := by decide +kernel
theorem d_prog_16_method_4_4 : decode prog_16_method_4_code 4 = .ok (.getstatic 10, 3) := by decide +kernel
theorem d_prog_16_method_4_7 : decode prog_16_method_4_code 7 = .ok (.astore_n 3, 1) := by decide +kernel
theorem d_prog_16_method_4_8 : decode prog_16_method_4_code 8 = .ok (.goto 19, 3) := by decide +kernel
theorem d_prog_16_method_5_0 : decode prog_16_method_5_code 0 = .ok (.aload_n 0, 1) := by decide +kernel
theorem d_prog_16_method_5_1 : decode prog_16_method_5_code 1 = .ok (.getfield 32, 3) := by decide +kernel
theorem d_prog_16_method_5_4 : decode prog_16_method_5_code 4 = .ok (.areturn, 1) := by decide +kernel
theorem d_jdk_43_method_13_0 : decode jdk_43_method_13_code 0 = .ok (.aload_n 0, 1) := by decide +kernel
theorem d_jdk_43_method_13_1 : decode jdk_43_method_13_code 1 = .ok (.arraylength, 1) := by decide +kernel
theorem d_jdk_43_method_13_2 : decode jdk_43_method_13_code 2 = .ok (.aload_n 1, 1) := by decide +kernel
theorem d_jdk_43_method_13_3 : decode jdk_43_method_13_code 3 = .ok (.arraylength, 1) := by decide +kernel
theorem d_jdk_43_method_13_4 : decode jdk_43_method_13_code 4 = .ok (.if_icmp .ne 30, 3) := by decide +kernel
theorem d_jdk_43_method_13_7 : decode jdk_43_method_13_code 7 = .ok (.iconst 0, 1) := by decide +kernel
theorem d_jdk_43_method_13_8 : decode jdk_43_method_13_code 8 = .ok (.istore_n 2, 1) := by decide +kernel
theorem d_jdk_43_method_13_9 : decode jdk_43_method_13_code 9 = .ok (.iload_n 2, 1) := by decide +kernel
theorem d_jdk_43_method_13_10 : decode jdk_43_method_13_code 10 = .ok (.aload_n 0, 1) := by decide +kernel
theorem d_jdk_43_method_13_11 : decode jdk_43_method_13_code 11 = .ok (.arraylength, 1) := by decide +kernel
theorem d_jdk_43_method_13_12 : decode jdk_43_method_13_code 12 = .ok (.if_icmp .ge 20, 3) := by decide +kernel
theorem d_jdk_43_method_13_32 : decode jdk_43_method_13_code 32 = .ok (.iconst 1, 1) := by decide +kernel
theorem d_jdk_43_method_13_33 : decode jdk_43_method_13_code 33 = .ok (.ireturn, 1) := by decide +kernel
theorem d_jdk_43_method_13_15 : decode jdk_43_method_13_code 15 = .ok (.aload_n 0, 1) := by decide +kernel
theorem d_jdk_43_method_13_16 : decode jdk_43_method_13_code 16 = .ok (.iload_n 2, 1) := by decide +kernel
theorem d_jdk_43_method_13_17 : decode jdk_43_method_13_code 17 = .ok (.baload, 1) := by decide +kernel
theorem d_jdk_43_method_13_18 : decode jdk_43_method_13_code 18 = .ok (.aload_n 1, 1) := by decide +kernel
theorem d_jdk_43_method_13_19 : decode jdk_43_method_13_code 19 = .ok (.iload_n 2, 1) := by decide +kernel
theorem d_jdk_43_method_13_20 : decode jdk_43_method_13_code 20 = .ok (.baload, 1) := by decide +kernel
theorem d_jdk_43_method_13_21 : decode jdk_43_method_13_code 21 = .ok (.if_icmp .eq 5, 3) := by decide +kernel
theorem d_jdk_43_method_13_26 : decode jdk_43_method_13_code 26 = .ok (.iinc 2 1, 3) := by decide +kernel
theorem d_jdk_43_method_13_29 : decode jdk_43_method_13_code 29 = .ok (.goto (-20), 3) := by decide +kernel
theorem d_jdk_42_method_66_0 : decode jdk_42_method_66_code 0 = .ok (.aload_n 0, 1) := by decide +kernel
theorem d_jdk_42_method_66_1 : decode jdk_42_method_66_code 1 = .ok (.aload_n 1, 1) := by decide +kernel
theorem d_jdk_42_method_66_2 : decode jdk_42_method_66_code 2 = .ok (.if_acmp .ne 5, 3) := by decide +kernel
theorem d_jdk_42_method_66_5 : decode jdk_42_method_66_code 5 = .ok (.iconst 1, 1) := by decide +kernel
theorem d_jdk_42_method_66_6 : decode jdk_42_method_66_code 6 = .ok (.ireturn, 1) := by decide +kernel
theorem d_jdk_42_method_66_7 : decode jdk_42_method_66_code 7 = .ok (.aload_n 1, 1) := by decide +kernel
theorem d_jdk_42_method_66_8 : decode jdk_42_method_66_code 8 = .ok (.instanceof 10, 3) := by decide +kernel
theorem d_jdk_42_method_66_11 : decode jdk_42_method_66_code 11 = .ok (.ifCond .eq 43, 3) := by decide +kernel
theorem d_jdk_42_method_66_14 : decode jdk_42_method_66_code 14 = .ok (.aload_n 1, 1) := by decide +kernel
theorem d_jdk_42_method_66_15 : decode jdk_42_method_66_code 15 = .ok (.checkcast 10, 3) := by decide +kernel
theorem d_jdk_42_method_66_18 : decode jdk_42_method_66_code 18 = .ok (.astore_n 2, 1) := by decide +kernel
theorem d_jdk_42_method_66_19 : decode jdk_42_method_66_code 19 = .ok (.getstatic 38, 3) := by decide +kernel
theorem d_jdk_42_method_66_22 : decode jdk_42_method_66_code 22 = .ok (.ifCond .eq 14, 3) := by decide +kernel
theorem d_jdk_42_method_66_25 : decode jdk_42_method_66_code 25 = .ok (.aload_n 0, 1) := by decide +kernel
theorem d_jdk_42_method_66_26 : decode jdk_42_method_66_code 26 = .ok (.getfield 15, 3) := by decide +kernel
theorem d_jdk_42_method_66_29 : decode jdk_42_method_66_code 29 = .ok (.aload_n 2, 1) := by decide +kernel
theorem d_jdk_42_method_66_30 : decode jdk_42_method_66_code 30 = .ok (.getfield 15, 3) := by decide +kernel
theorem d_jdk_42_method_66_33 : decode jdk_42_method_66_code 33 = .ok (.if_icmp .ne 21, 3) := by decide +kernel
theorem d_jdk_42_method_66_36 : decode jdk_42_method_66_code 36 = .ok (.aload_n 0, 1) := by decide +kernel
theorem d_jdk_42_method_66_37 : decode jdk_42_method_66_code 37 = .ok (.getfield 9, 3) := by decide +kernel
theorem d_jdk_42_method_66_40 : decode jdk_42_method_66_code 40 = .ok (.aload_n 2, 1) := by decide +kernel
theorem d_jdk_42_method_66_41 : decode jdk_42_method_66_code 41 = .ok (.getfield 9, 3) := by decide +kernel
theorem d_jdk_42_method_66_44 : decode jdk_42_method_66_code 44 = .ok (.invokestatic 541, 3) := by decide +kernel
theorem d_jdk_42_method_66_47 : decode jdk_42_method_66_code 47 = .ok (.ifCond .eq 7, 3) := by decide +kernel
theorem d_jdk_42_method_66_50 : decode jdk_42_method_66_code 50 = .ok (.iconst 1, 1) := by decide +kernel
theorem d_jdk_42_method_66_51 : decode jdk_42_method_66_code 51 = .ok (.goto 4, 3) := by decide +kernel
theorem d_jdk_42_method_66_55 : decode jdk_42_method_66_code 55 = .ok (.ireturn, 1) := by decide +kernel
theorem pd_0 : parseMethodDescriptor "([B[B)Z" = some ⟨[(.array .byte), (.array .byte)], some .boolean⟩ := by decide +kernel
theorem pd_1 : parseMethodDescriptor "(IIZ)Lcom/example/sum_to_shares/sumtoshares/engine/PacketState;" = some ⟨[.int, .int, .boolean], some (.object "com/example/sum_to_shares/sumtoshares/engine/PacketState")⟩ := by decide +kernel
theorem pd_2 : parseMethodDescriptor "()Ljava/lang/String;" = some ⟨[], some (.object "java/lang/String")⟩ := by decide +kernel
theorem pd_3 : parseMethodDescriptor "(Ljava/lang/Object;)Z" = some ⟨[(.object "java/lang/Object")], some .boolean⟩ := by decide +kernel
theorem pn_0 : plainName "com/example/sum_to_shares/sumtoshares/engine/PacketState" = true := by first | (simp [plainName, overriddenIn]; done) | decide +kernel
theorem pn_1 : plainName "java/lang/StringLatin1" = true := by first | (simp [plainName, overriddenIn]; done) | decide +kernel
theorem pn_2 : plainName "java/lang/String" = true := by first | (simp [plainName, overriddenIn]; done) | decide +kernel
theorem pn_3 : plainName "com/example/sum_to_shares/sumtoshares/engine/PacketStateOfPinLaw" = true := by first | (simp [plainName, overriddenIn]; done) | decide +kernel
/-! my own layer, second part: statics, String constants, instanceof, and the end of a law that may have loaded a String constant -/
section Wide
variable {p : Program} {l : Launch} {e : Env} {R : Room} {s : State} {m : MethodId} {args : Array Value} {below : List Frame} {meth : Method} {c : Code} {T : State} {h : Heap} {n0 cells slots : Nat} {Z : State} {a0 : Array Value} {Φ : Outcome → State → Prop} {y0 : MethodName} {bytes0 : ByteArray} {maxL0 : Nat} {ret0 : Option FieldType} {pc : Nat} {Ls : Array Slot} {st rest : List Value}
theorem own_getS {O n d : String} {index : Nat} {v : Value} (S : Sd p l e R s m args below meth c T h n0 cells slots) (B : Base p s m meth c Z y0 bytes0 maxL0 ret0) (w : (Cond.fieldLink y0.cls index O n d).before a0 Z = true) (F : Sta Z h O n d v) (hd : decode bytes0 pc = .ok (.getstatic index, 3))
    (k : ∀ T', Sd p l e R s m args below meth c T' h n0 cells slots → Goes p.tables e below Φ T' (mkF m (pc + 3) Ls (v :: st))) : Goes p.tables e below Φ T (mkF m pc Ls st) := by
  obtain ⟨locs, X, eT, N, hn⟩ := S
  obtain ⟨T', X', e', stp⟩ := RoadKit.getS2 X B.1 B.2.1 B.2.2.2.2.1 (host := "") (Or.inl w) Via.refl eT F (g := mkF m pc Ls st) rfl (B.d hd)
  exact Goes.go stp (k T' ⟨locs, X', e', N, hn⟩)
theorem own_inst {K : String} {index : Nat} {a : Addr} (S : Sd p l e R s m args below meth c T h n0 cells slots) (B : Base p s m meth c Z y0 bytes0 maxL0 ret0) (w : (Cond.classLink y0.cls index K).before a0 Z = true) (E : Exa Z h a K) (hd : decode bytes0 pc = .ok (.instanceof index, 3))
    (k : ∀ T', Sd p l e R s m args below meth c T' h n0 cells slots → Goes p.tables e below Φ T' (mkF m (pc + 3) Ls (.int 1 :: rest))) : Goes p.tables e below Φ T (mkF m pc Ls (.ref a :: rest)) := by
  obtain ⟨locs, X, eT, N, hn⟩ := S
  obtain ⟨T', X', e', stp⟩ := RoadKit.instY X B.1 B.2.1 B.2.2.2.2.1 w eT (Ins.self E) (g := mkF m pc Ls (.ref a :: rest)) rfl rfl (B.d hd)
  exact Goes.go stp (k T' ⟨locs, X', e', N, hn⟩)
theorem own_cast {K : String} {index : Nat} {a : Addr} (S : Sd p l e R s m args below meth c T h n0 cells slots) (B : Base p s m meth c Z y0 bytes0 maxL0 ret0) (w : (Cond.classLink y0.cls index K).before a0 Z = true) (E : Exa Z h a K) (hd : decode bytes0 pc = .ok (.checkcast index, 3))
    (k : ∀ T', Sd p l e R s m args below meth c T' h n0 cells slots → Goes p.tables e below Φ T' (mkF m (pc + 3) Ls (.ref a :: rest))) : Goes p.tables e below Φ T (mkF m pc Ls (.ref a :: rest)) := by
  obtain ⟨locs, X, eT, N, hn⟩ := S
  obtain ⟨T', X', e', stp⟩ := RoadKit.castY X B.1 B.2.1 B.2.2.2.2.1 w eT (Ins.self E) (g := mkF m pc Ls (.ref a :: rest)) rfl rfl (B.d hd)
  exact Goes.go stp (k T' ⟨locs, X', e', N, hn⟩)
/-- the wide end -/
def FineW (s : State) (Q : Option Value → Prop) (rc rs : Nat) (o : Outcome) (U : State) : Prop :=
  ∃ v L, o = .returned v ∧ (Fr s.heap.size L ∧ Q v) ∧ ReturnedEndW s o U L rc rs
def ConW (l : Launch) (Z : State) (y : MethodName) (bytes : ByteArray) (maxL : Nat) (ret : Option FieldType) (rm : Room) (as' : Array Value) (Q : Option Value → Prop) : Prop :=
  ∀ ws : List Cond, MetFree l y (head1 (Cond.code y bytes maxL ret :: ws) rm) (fun a U => a = as' ∧ U = Z) (fun _ _ _ _ _ => True) (fun _ U o U' => FineW U Q rm.cells rm.slots o U')
theorem ConW.body {y : MethodName} {bytes : ByteArray} {maxL : Nat} {ret : Option FieldType} {rm : Room} {as' : Array Value} {Q : Option Value → Prop} (hpl : plainFor y = true)
    (k : ∀ (p : Program) (e : Env) (m : MethodId) (below : List Frame) (meth : Method) (c : Code) (T : State), Base p Z m meth c Z y bytes maxL ret → Sd p l e rm Z m as' below meth c T Z.heap Z.heap.size 0 0 → Goes p.tables e below (FineW Z Q rm.cells rm.slots) T (entryFrame m as' maxL)) :
    ConW l Z y bytes maxL ret rm as' Q := by
  intro ws
  refine MetFree.of_bodySF hpl hisR ?_
  intro p e s m args below meth c s₁ Bd hml0 hP hK
  obtain ⟨rfl, rfl⟩ := hP
  have e0 : s₁.heap = s.heap := by rw [Bd.state]; rfl
  exact k p e m below meth c s₁ ⟨Bd.exec, State.Warmed39.refl s, Bd.bytes, hml0, findClass_of_methodNamed Bd.named, (name_of_methodNamed Bd.named Bd.method).1, Bd.returns, Bd.notSynchronized⟩ ⟨[], Stand.of_body Bd, e0, Fr.nil _, Nat.le_refl _⟩
theorem own_retNW {Q : Option Value → Prop} {rc rs : Nat} {vm1 : Vm} {n1 : Nat} {t : FieldType} {z : Int32} (S : Sd p l e R (Z.setVm vm1) m args below meth c T h Z.heap.size cells slots) (B : Base p (Z.setVm vm1) m meth c Z y0 bytes0 maxL0 (some t)) (hS : Z.Since vm1 n1) (hn1 : n1 ≤ h.size) (ht : t = .boolean ∨ t = .byte ∨ t = .char ∨ t = .short) (hd : decode bytes0 pc = .ok (.ireturn, 1)) (hc : cells ≤ rc) (hs : slots ≤ rs) (hq : Q (some (.int (nar t z)))) :
    Goes p.tables e below (FineW Z Q rc rs) T (mkF m pc Ls (.int z :: rest)) := by
  obtain ⟨locs, X, eT, N, -⟩ := S
  obtain ⟨fs, hr, hrun, hended, hE⟩ := X.leaveW hS (by rw [eT]; exact hn1) (v := some (.int (nar t z))) (fun h => by rw [B.2.2.2.2.2.2.1] at h; cases h) B.2.2.2.2.2.2.2
  exact ⟨_, _, RoadKit.retN X B.1 B.2.2.2.2.2.2.1 ht (B.d hd) hr, hrun, hended, _, _, rfl, ⟨N, hq⟩, hE.1, hE.2.1, hE.2.2.1, hE.2.2.2.mono hc hs⟩
/-- the load of a String constant whose text is known -/
theorem own_ldcT {text : String} {index : Nat} {vs : List Value} {z : Int32} {n : Nat} (S : Sd p l e R Z m args below meth c T h Z.heap.size cells slots) (B : Base p Z m meth c Z y0 bytes0 maxL0 ret0) (w : (Cond.stringLink y0.cls index text).before a0 Z = true) (wS : ∀ a ∈ Bundle.stringAtoms, a.before a0 Z = true) (hh : Jvm.Lit.constHeld Z y0.cls index) (hcw : Jvm.Lit.compactW.before a0 Z = true)
    (ht : (∀ c ∈ text.toList, c.toNat < 256) ∧ text.toList.map (fun c => Value.int (Jvm.Lit.byteI c.toNat.toUInt16)) = vs) (hz : ¬ z < 0) (hl : z.toNatClampNeg = vs.length) (hd : decode bytes0 pc = .ok (.ldc index, 2)) (hn : 4 * text.toList.length ≤ n) (hbig : n ≤ 536870912) (hc : cells + 2 ≤ R.cells) (hl' : slots + (n + 4) ≤ R.slots)
    (k : ∀ (T' : State) (h' : Heap) (vm1 : Vm) (n1 : Nat) (a b : Addr) (kk : ClassId), Sd p l e R (Z.setVm vm1) m args below meth c T' h' Z.heap.size (cells + 2) (slots + (n + 4)) → Base p (Z.setVm vm1) m meth c Z y0 bytes0 maxL0 ret0 → Z.Since vm1 n1 → n1 ≤ h'.size → Ext h h' → Exa Z h' a "java/lang/String" → Fld Z h' a "java/lang/String" "coder" "B" (.int 0) → Fld Z h' a "java/lang/String" "value" "[B" (.ref b) → Arv Z h' b kk .byte z vs (.int 0) → Goes p.tables e below Φ T' (mkF m (pc + 2) Ls (.ref a :: st))) :
    Goes p.tables e below Φ T (mkF m pc Ls st) := by
  obtain ⟨locs, X, eT, N, hn'⟩ := S
  have X0 : Stand p l e R (Z.setVm Z.vm) m args below meth c T locs cells slots := X
  obtain ⟨a, T', h', k1, b, kk, X', e', E, hS, hk1, hW, hf, x1, x2, x3, x4, -, -, -, stp⟩ := RoadKit.ldcSV (s := Z) (vm0 := Z.vm) (Ts := []) X0 B.1 (State.Warmed39.refl Z) B.2.2.2.2.1 w wS eT (k0 := 0) ((State.WarmedH.refl Z).since 0) (Nat.zero_le _) N (fun _ _ q => q) IB.start (by simp) hh hcw ht hz hl (g := mkF m pc Ls st) rfl (B.d hd) hn hbig hc hl'
  exact Goes.go stp (k T' h' T'.vm k1 a b kk ⟨locs, X', e', N, hn'⟩ ⟨B.1, hW, B.2.2.1, B.2.2.2.1, hf, B.2.2.2.2.2⟩ hS hk1 E x1 x2 x3 x4)
end Wide
def own_g (cs : List Int32) : Nat → Int32 := fun i => cs.getD i 0
theorem own_ary {Z : State} {h : Heap} {b : Addr} {k : ClassId} {z : Int32} {cs : List Int32} {n : Nat} (A : Arv Z h b k .byte z (cs.map Value.int) (.int 0)) (hn : z.toNatClampNeg = n) (hb : n < 2 ^ 31) : Ary Z h b .byte n (fun i => (.int ((own_g cs) i))) := by
  obtain ⟨c, A, -, r2, -, H, -⟩ := A
  refine ⟨c, A, r2.trans hn, hb, fun i hi => ?_⟩
  rw [H i (by omega)]
  congr 1
  unfold own_g
  simp only [List.getD_eq_getElem?_getD, List.getElem?_map]
  cases cs[i]? <;> rfl
theorem own_hold {c : Cond} {args : Array Value} {s : State} (h : c.value args s none s [] = some true) : c.holds args s none s [] = true := by simp [Cond.holds, h]
def own_els (args : Array Value) (Z : State) (t : Term) : Nat → List Int32 → Prop
  | _, [] => True
  | i, c :: r => (Cond.eq (Term.elem t (Term.int (Int32.ofNat i))) (Term.int c)).value args Z none Z [] = some true ∧ own_els args Z t (i + 1) r
theorem own_hasL {args : Array Value} {Z : State} {t : Term} {b : Addr} {cl : Cell} (eb : t.eval args Z none [] Z = some (.ref b)) (hc : Z.heap[b]? = some cl) : ∀ (cs : List Int32) (i : Nat), i + cs.length ≤ 1000 → own_els args Z t i cs → HasL cl i (cs.map Value.int)
  | [], _, _, _ => trivial
  | c :: r, i, hl, h => by
    simp only [List.length_cons] at hl
    have e := Cond.eq_int (own_hold h.1) rfl
    have q := (elem_in e eb rfl hc).2
    have hj : (Int32.ofNat i).toNatClampNeg = i := by show (Int32.ofNat i).toInt.toNat = i; rw [Int32.toInt_ofNat_small (by omega)]; rfl
    rw [hj] at q
    exact ⟨q, own_hasL eb hc r (i + 1) (by omega) h.2⟩
def own_Pin (Z : State) (C nm d : String) (a c b : Addr) (n : Nat) (cs : List Int32) : Prop :=
  Sta Z Z.heap C nm d (.ref a) ∧ Exa Z Z.heap a C ∧ Fld Z Z.heap a C "code" "Ljava/lang/String;" (.ref c) ∧ Exa Z Z.heap c "java/lang/String" ∧ Fld Z Z.heap c "java/lang/String" "coder" "B" (.int 0) ∧ Fld Z Z.heap c "java/lang/String" "value" "[B" (.ref b) ∧ Ary Z Z.heap b .byte n (fun i => (.int ((own_g cs) i)))
theorem own_pin {Z : State} {args : Array Value} {C nm d : String} {z : Int32} {cs : List Int32} {n : Nat} (hf : Fit Z) (wi : (Cond.initialized C).before args Z = true) (wl : (Cond.laysStatic C nm d).before args Z = true)
    (h0 : (Cond.exactly (Term.static C nm d) C).value args Z none Z [] = some true) (h1 : (Cond.exactly (Term.field (Term.static C nm d) C "code" "Ljava/lang/String;") "java/lang/String").value args Z none Z [] = some true)
    (h2 : (Cond.eq (Term.field (Term.field (Term.static C nm d) C "code" "Ljava/lang/String;") "java/lang/String" "coder" "B") (Term.int (0 : Int32))).value args Z none Z [] = some true)
    (h3 : (Cond.arrayOf (Term.field (Term.field (Term.static C nm d) C "code" "Ljava/lang/String;") "java/lang/String" "value" "[B") .byte).value args Z none Z [] = some true)
    (h4 : (Cond.eq (Term.length (Term.field (Term.field (Term.static C nm d) C "code" "Ljava/lang/String;") "java/lang/String" "value" "[B")) (Term.int z)).value args Z none Z [] = some true)
    (h5 : own_els args Z (Term.field (Term.field (Term.static C nm d) C "code" "Ljava/lang/String;") "java/lang/String" "value" "[B") 0 cs) (hz : ¬ z < 0) (hl : z.toNatClampNeg = cs.length) (hl2 : cs.length ≤ 1000) (hn : cs.length = n) : ∃ a c b, own_Pin Z C nm d a c b n cs := by
  obtain ⟨a, ea⟩ := exa_v h0
  obtain ⟨c, ec⟩ := exa_v h1
  have e2 := Cond.eq_int (own_hold h2) rfl
  obtain ⟨b, eb⟩ := arr_v h3
  obtain ⟨cl, A⟩ := Arr.start eb h3
  have hat : Z.arrayAt? b = some cl := A.fin (Vm.Alike.refl _)
  have e4 := Cond.eq_int (own_hold h4) rfl
  have q := Jvm.Free.SBG.length_lt eb hat e4
  have el := len_f eb hat q
  have ez : cl.slots.size.toInt32 = z := by have := el.symm.trans e4; simpa using this
  have H := own_hasL eb A.1 cs 0 (by omega) h5
  have V : Arv Z Z.heap b cl.cls .byte z (cs.map Value.int) (.int 0) := Arv.start hf A q ez hz (by simpa using hl) H
  exact ⟨a, c, b, Sta.start ea (Or.inr ⟨wi, wl⟩), Exa.start ea h0, Fld.start ((fld_at ea).symm.trans ec), Exa.start ec h1, Fld.start ((fld_at ec).symm.trans e2), Fld.start ((fld_at ec).symm.trans eb), own_ary V (hl.trans hn) (by omega)⟩
section
variable {n k : Nat} {i2 : Int32}
theorem own_nt (h : n < 2147483648) : n.toInt32.toInt = (n : Int) := Int32.toInt_ofNat_of_lt (by omega)
theorem own_ei0 : (0 : Int32).toInt = ((n - n : Nat) : Int) := by rw [Nat.sub_self]; rfl
theorem own_ei (hn : n < 2147483648) (hk : k + 1 ≤ n) (hi : i2.toInt = ((n - (k + 1) : Nat) : Int)) : (i2 + (1 : Int32)).toInt = ((n - k : Nat) : Int) := by
  have a := c_iadd i2 1
  have r := rng32 (i2 + 1)
  have e : (1 : Int32).toInt = 1 := by decide
  rw [e] at a
  omega
theorem own_eL0 (hn : n < 2147483648) (hi : i2.toInt = ((n - 0 : Nat) : Int)) : ¬ i2 < n.toInt32 := by
  rw [Int32.lt_iff_toInt_lt, own_nt hn]; omega
theorem own_eL1 (hn : n < 2147483648) (hk : k + 1 ≤ n) (hi : i2.toInt = ((n - (k + 1) : Nat) : Int)) : i2 < n.toInt32 := by
  rw [Int32.lt_iff_toInt_lt, own_nt hn]; omega
theorem own_ep (hi : i2.toInt = ((n - (k + 1) : Nat) : Int)) : ¬ i2 < 0 := by
  have e : (0 : Int32).toInt = 0 := by decide
  rw [Int32.lt_iff_toInt_lt, e]; omega
theorem own_eb (hk : k + 1 ≤ n) (hi : i2.toInt = ((n - (k + 1) : Nat) : Int)) : i2.toNatClampNeg < n := by
  show i2.toInt.toNat < n
  omega
end
def own_of (p0 p1 p2 : Int32) (aO aF aE : Addr) : Addr := if p2 = 0 then (if p1 = p0 then aF else aO) else aE
section
variable {P : Prop} [Decidable P] {a b g x : Int32} {aO aF aE : Addr}
theorem own_ofE (h : P) : own_of a b (bi P) aO aF aE = aE := by unfold own_of; rw [bi_pos h, if_neg (by decide)]
theorem own_ofF (h : ¬ P) (e : b = a) : own_of a b (bi P) aO aF aE = aF := by unfold own_of; rw [bi_neg h, if_pos rfl, if_pos e]
theorem own_ofO (h : ¬ P) (e : ¬ b = a) : own_of a b (bi P) aO aF aE = aO := by unfold own_of; rw [bi_neg h, if_pos rfl, if_neg e]
theorem own_three : (¬ x = 0) ∨ (¬ ¬ x = 0 ∧ g = a) ∨ (¬ ¬ x = 0 ∧ ¬ g = a) := by
  by_cases h : x = 0
  · by_cases e : g = a
    · exact Or.inr (Or.inl ⟨fun q => q h, e⟩)
    · exact Or.inr (Or.inr ⟨fun q => q h, e⟩)
  · exact Or.inl h
theorem own_s0 (e : g = a) : (g.toInt64 - a.toInt64) = (0 : Int64) := by rw [e]; simp
theorem own_s1 (e : ¬ g = a) : ¬ (g.toInt64 - a.toInt64) = (0 : Int64) := fun q => e (by
  have h := c_lsub g.toInt64 a.toInt64
  have e0 : (0 : Int64).toInt = 0 := by decide
  rw [q, e0, c_i2l, c_i2l] at h
  have r1 := rng32 g
  have r2 := rng32 a
  exact Int32.toInt_inj.mp (by omega))
end
def own_cs_open : List Int32 := [111, 112, 101, 110]
def own_cs_finished : List Int32 := [102, 105, 110, 105, 115, 104, 101, 100]
def own_cs_expired : List Int32 := [101, 120, 112, 105, 114, 101, 100]

theorem ef_rm_of (m : MethodId) (p0 : Int32) (p1 : Int32) (p2 : Int32) : entryFrame m #[(.int p0), (.int p1), (.int p2)] 4 = mkF m 0 #[.val (.int p0), .val (.int p1), .val (.int p2), .unset] [] := by first | (simp [entryFrame, mkF, argsToLocals, Value.category]; done) | rfl
def Q_rm_of (Z : State) (p0 : Int32) (p1 : Int32) (p2 : Int32) (aO : Addr) (aF : Addr) (aE : Addr) (h0 : Heap) (n0 : Nat) (v : Option Value) (h : Heap) : Prop := v = some (.ref (own_of p0 p1 p2 aO aF aE)) ∧ h = h0
set_option maxRecDepth 65536 in
set_option maxHeartbeats 40000000 in
theorem rm_of (l : Launch) (Z : State) (aw : Array Value) (hw : ∀ d ∈ tables_1, d.before aw Z = true) (p0 : Int32) (p1 : Int32) (p2 : Int32) (aO : Addr) (aF : Addr) (aE : Addr) (h0 : Heap) (n0 : Nat) (S_OPEN : Sta Z h0 "com/example/sum_to_shares/sumtoshares/engine/PacketState" "OPEN" "Lcom/example/sum_to_shares/sumtoshares/engine/PacketState;" (.ref aO)) (S_FINISHED : Sta Z h0 "com/example/sum_to_shares/sumtoshares/engine/PacketState" "FINISHED" "Lcom/example/sum_to_shares/sumtoshares/engine/PacketState;" (.ref aF)) (S_EXPIRED : Sta Z h0 "com/example/sum_to_shares/sumtoshares/engine/PacketState" "EXPIRED" "Lcom/example/sum_to_shares/sumtoshares/engine/PacketState;" (.ref aE)) :
    Con l Z (⟨"com/example/sum_to_shares/sumtoshares/engine/PacketState", "of", "(IIZ)Lcom/example/sum_to_shares/sumtoshares/engine/PacketState;"⟩ : MethodName) prog_16_method_4_code 4 (some (.object "com/example/sum_to_shares/sumtoshares/engine/PacketState")) ({ frames := 0, cells := 0, slots := 0, locals := 0 } : Room) #[(.int p0), (.int p1), (.int p2)] h0 n0 (Q_rm_of Z p0 p1 p2 aO aF aE h0 n0) := by
  refine Con.body (plainFor_of_name pn_0) ?_
  intro pr_ en_ st_ me_ below meth co_ T B S
  refine Goes.cast (ef_rm_of me_ p0 p1 p2) ?_
  refine Goes.go (fun _ => XS.iloadN S.here B.x rfl (B.d d_prog_16_method_4_0) rfl) ?_
  show Goes _ _ _ _ T (mkF me_ 1 #[.val (.int p0), .val (.int p1), .val (.int p2), .unset] [(.int p2)])
  by_cases hc1 : p2 = (0 : Int32)
  · skip
    refine Goes.go (fun _ => XS.ifYes S.here B.x rfl (pc0 := 1) (pc' := 11) rfl (B.d d_prog_16_method_4_1) rfl ((if0 _ _).trans (teq hc1).1) (by decide) (by decide)) ?_
    show Goes _ _ _ _ T (mkF me_ 11 #[.val (.int p0), .val (.int p1), .val (.int p2), .unset] [])
    refine Goes.go (fun _ => XS.iloadN S.here B.x rfl (B.d d_prog_16_method_4_11) rfl) ?_
    show Goes _ _ _ _ T (mkF me_ 12 #[.val (.int p0), .val (.int p1), .val (.int p2), .unset] [(.int p1)])
    refine Goes.go (fun _ => XS.iloadN S.here B.x rfl (B.d d_prog_16_method_4_12) rfl) ?_
    show Goes _ _ _ _ T (mkF me_ 13 #[.val (.int p0), .val (.int p1), .val (.int p2), .unset] [(.int p0), (.int p1)])
    by_cases hc13 : p1 = p0
    · skip
      refine Goes.go (fun _ => XS.icmpNo S.here B.x rfl (B.d d_prog_16_method_4_13) rfl (teq hc13).2) ?_
      show Goes _ _ _ _ T (mkF me_ 16 #[.val (.int p0), .val (.int p1), .val (.int p2), .unset] [])
      refine own_getS S B (w4 hw) S_FINISHED d_prog_16_method_4_16 ?_
      intro T S
      show Goes _ _ _ _ T (mkF me_ 19 #[.val (.int p0), .val (.int p1), .val (.int p2), .unset] [(.ref aF)])
      refine Goes.go (fun _ => XS.astoreN S.here B.x rfl (B.d d_prog_16_method_4_19) rfl rfl (l' := #[.val (.int p0), .val (.int p1), .val (.int p2), .val (.ref aF)]) rfl) ?_
      show Goes _ _ _ _ T (mkF me_ 20 #[.val (.int p0), .val (.int p1), .val (.int p2), .val (.ref aF)] [])
      refine Goes.go (fun _ => XS.goto S.here B.x rfl (pc0 := 20) (pc' := 27) rfl (B.d d_prog_16_method_4_20) (by decide) (by decide)) ?_
      show Goes _ _ _ _ T (mkF me_ 27 #[.val (.int p0), .val (.int p1), .val (.int p2), .val (.ref aF)] [])
      refine Goes.go (fun _ => XS.aloadN S.here B.x rfl (B.d d_prog_16_method_4_27) rfl rfl) ?_
      show Goes _ _ _ _ T (mkF me_ 28 #[.val (.int p0), .val (.int p1), .val (.int p2), .val (.ref aF)] [(.ref aF)])
      refine Goes.retA S B rfl d_prog_16_method_4_28 (by decide) (by decide) ?_
      exact ⟨(by simp [own_of, *]), rfl⟩
    · skip
      refine Goes.go (fun _ => XS.icmpYes S.here B.x rfl (pc0 := 13) (pc' := 23) rfl (B.d d_prog_16_method_4_13) rfl (feq hc13).2 (by decide) (by decide)) ?_
      show Goes _ _ _ _ T (mkF me_ 23 #[.val (.int p0), .val (.int p1), .val (.int p2), .unset] [])
      refine own_getS S B (w40 hw) S_OPEN d_prog_16_method_4_23 ?_
      intro T S
      show Goes _ _ _ _ T (mkF me_ 26 #[.val (.int p0), .val (.int p1), .val (.int p2), .unset] [(.ref aO)])
      refine Goes.go (fun _ => XS.astoreN S.here B.x rfl (B.d d_prog_16_method_4_26) rfl rfl (l' := #[.val (.int p0), .val (.int p1), .val (.int p2), .val (.ref aO)]) rfl) ?_
      show Goes _ _ _ _ T (mkF me_ 27 #[.val (.int p0), .val (.int p1), .val (.int p2), .val (.ref aO)] [])
      refine Goes.go (fun _ => XS.aloadN S.here B.x rfl (B.d d_prog_16_method_4_27) rfl rfl) ?_
      show Goes _ _ _ _ T (mkF me_ 28 #[.val (.int p0), .val (.int p1), .val (.int p2), .val (.ref aO)] [(.ref aO)])
      refine Goes.retA S B rfl d_prog_16_method_4_28 (by decide) (by decide) ?_
      exact ⟨(by simp [own_of, *]), rfl⟩
  · skip
    refine Goes.go (fun _ => XS.ifNo S.here B.x rfl (B.d d_prog_16_method_4_1) rfl ((if0 _ _).trans (feq hc1).1)) ?_
    show Goes _ _ _ _ T (mkF me_ 4 #[.val (.int p0), .val (.int p1), .val (.int p2), .unset] [])
    refine own_getS S B (w36 hw) S_EXPIRED d_prog_16_method_4_4 ?_
    intro T S
    show Goes _ _ _ _ T (mkF me_ 7 #[.val (.int p0), .val (.int p1), .val (.int p2), .unset] [(.ref aE)])
    refine Goes.go (fun _ => XS.astoreN S.here B.x rfl (B.d d_prog_16_method_4_7) rfl rfl (l' := #[.val (.int p0), .val (.int p1), .val (.int p2), .val (.ref aE)]) rfl) ?_
    show Goes _ _ _ _ T (mkF me_ 8 #[.val (.int p0), .val (.int p1), .val (.int p2), .val (.ref aE)] [])
    refine Goes.go (fun _ => XS.goto S.here B.x rfl (pc0 := 8) (pc' := 27) rfl (B.d d_prog_16_method_4_8) (by decide) (by decide)) ?_
    show Goes _ _ _ _ T (mkF me_ 27 #[.val (.int p0), .val (.int p1), .val (.int p2), .val (.ref aE)] [])
    refine Goes.go (fun _ => XS.aloadN S.here B.x rfl (B.d d_prog_16_method_4_27) rfl rfl) ?_
    show Goes _ _ _ _ T (mkF me_ 28 #[.val (.int p0), .val (.int p1), .val (.int p2), .val (.ref aE)] [(.ref aE)])
    refine Goes.retA S B rfl d_prog_16_method_4_28 (by decide) (by decide) ?_
    exact ⟨(by simp [own_of, *]), rfl⟩
theorem ef_rm_code (m : MethodId) (a0 : Addr) : entryFrame m #[(.ref a0)] 1 = mkF m 0 #[.val (.ref a0)] [] := by first | (simp [entryFrame, mkF, argsToLocals, Value.category]; done) | rfl
def Q_rm_code (Z : State) (a0 : Addr) (g0 : Addr) (h0 : Heap) (n0 : Nat) (v : Option Value) (h : Heap) : Prop := v = some (.ref g0) ∧ h = h0
set_option maxRecDepth 65536 in
set_option maxHeartbeats 40000000 in
theorem rm_code (l : Launch) (Z : State) (aw : Array Value) (hw : ∀ d ∈ tables_1, d.before aw Z = true) (a0 : Addr) (g0 : Addr) (h0 : Heap) (n0 : Nat) (F_a0_code : Fld Z h0 a0 "com/example/sum_to_shares/sumtoshares/engine/PacketState" "code" "Ljava/lang/String;" (.ref g0)) :
    Con l Z (⟨"com/example/sum_to_shares/sumtoshares/engine/PacketState", "code", "()Ljava/lang/String;"⟩ : MethodName) prog_16_method_5_code 1 (some (.object "java/lang/String")) ({ frames := 0, cells := 0, slots := 0, locals := 0 } : Room) #[(.ref a0)] h0 n0 (Q_rm_code Z a0 g0 h0 n0) := by
  refine Con.body (plainFor_of_name pn_0) ?_
  intro pr_ en_ st_ me_ below meth co_ T B S
  refine Goes.cast (ef_rm_code me_ a0) ?_
  refine Goes.go (fun _ => XS.aloadN S.here B.x rfl (B.d d_prog_16_method_5_0) rfl rfl) ?_
  show Goes _ _ _ _ T (mkF me_ 1 #[.val (.ref a0)] [(.ref a0)])
  refine Goes.getF S B (w20 hw) F_a0_code d_prog_16_method_5_1 ?_
  intro T S
  show Goes _ _ _ _ T (mkF me_ 4 #[.val (.ref a0)] [(.ref g0)])
  refine Goes.retA S B rfl d_prog_16_method_5_4 (by decide) (by decide) ?_
  exact ⟨(by first | rfl | (rw [bi_pos (by assumption)]; rfl) | (rw [bi_neg (by assumption)]; rfl) | (rw [nar_bi]; exact congrArg (fun z => some (Value.int z)) (bi_congr (by simp_all))) | (simp_all [bi, nar]; done)), rfl⟩
theorem ef_rm_leq (m : MethodId) (a0 : Addr) (a1 : Addr) : entryFrame m #[(.ref a0), (.ref a1)] 3 = mkF m 0 #[.val (.ref a0), .val (.ref a1), .unset] [] := by first | (simp [entryFrame, mkF, argsToLocals, Value.category]; done) | rfl
def Q_rm_leq (Z : State) (a0 : Addr) (a1 : Addr) (n : Nat) (g : Nat → Int32) (h0 : Heap) (n0 : Nat) (v : Option Value) (h : Heap) : Prop := v = some (.int (1 : Int32)) ∧ h = h0
set_option maxRecDepth 65536 in
set_option maxHeartbeats 40000000 in
theorem rm_leq (l : Launch) (Z : State) (aw : Array Value) (hw : ∀ d ∈ tables_1, d.before aw Z = true) (a0 : Addr) (a1 : Addr) (n : Nat) (g : Nat → Int32) (h0 : Heap) (n0 : Nat) (A_a0 : Ary Z h0 a0 .byte n (fun i => (.int (g i)))) (A_a1 : Ary Z h0 a1 .byte n (fun i => (.int (g i)))) (hn : n < 2147483648) :
    Con l Z (⟨"java/lang/StringLatin1", "equals", "([B[B)Z"⟩ : MethodName) jdk_43_method_13_code 3 (some .boolean) ({ frames := 0, cells := 0, slots := 0, locals := 0 } : Room) #[(.ref a0), (.ref a1)] h0 n0 (Q_rm_leq Z a0 a1 n g h0 n0) := by
  refine Con.body (plainFor_of_name pn_1) ?_
  intro pr_ en_ st_ me_ below meth co_ T B S
  refine Goes.cast (ef_rm_leq me_ a0 a1) ?_
  refine Goes.go (fun _ => XS.aloadN S.here B.x rfl (B.d d_jdk_43_method_13_0) rfl rfl) ?_
  show Goes _ _ _ _ T (mkF me_ 1 #[.val (.ref a0), .val (.ref a1), .unset] [(.ref a0)])
  refine Goes.alen S B A_a0 (z := n.toInt32) rfl d_jdk_43_method_13_1 ?_
  show Goes _ _ _ _ T (mkF me_ 2 #[.val (.ref a0), .val (.ref a1), .unset] [(.int n.toInt32)])
  refine Goes.go (fun _ => XS.aloadN S.here B.x rfl (B.d d_jdk_43_method_13_2) rfl rfl) ?_
  show Goes _ _ _ _ T (mkF me_ 3 #[.val (.ref a0), .val (.ref a1), .unset] [(.ref a1), (.int n.toInt32)])
  refine Goes.alen S B A_a1 (z := n.toInt32) rfl d_jdk_43_method_13_3 ?_
  show Goes _ _ _ _ T (mkF me_ 4 #[.val (.ref a0), .val (.ref a1), .unset] [(.int n.toInt32), (.int n.toInt32)])
  refine Goes.go (fun _ => XS.icmpNo S.here B.x rfl (B.d d_jdk_43_method_13_4) rfl (teq (rfl : n.toInt32 = n.toInt32)).2) ?_
  show Goes _ _ _ _ T (mkF me_ 7 #[.val (.ref a0), .val (.ref a1), .unset] [])
  refine Goes.go (fun _ => XS.iconst S.here B.x rfl (B.d d_jdk_43_method_13_7)) ?_
  show Goes _ _ _ _ T (mkF me_ 8 #[.val (.ref a0), .val (.ref a1), .unset] [(.int (0 : Int32))])
  refine Goes.go (fun _ => XS.istoreN S.here B.x rfl (B.d d_jdk_43_method_13_8) rfl (l' := #[.val (.ref a0), .val (.ref a1), .val (.int (0 : Int32))]) rfl) ?_
  show Goes _ _ _ _ T (mkF me_ 9 #[.val (.ref a0), .val (.ref a1), .val (.int (0 : Int32))] [])
  have LP1 : ∀ (k : Nat) (T : State) (i2 : Int32), Sd pr_ l en_ ({ frames := 0, cells := 0, slots := 0, locals := 0 } : Room) st_ me_ #[(.ref a0), (.ref a1)] below meth co_ T h0 n0 0 0 → k ≤ n → i2.toInt = ((n - k : Nat) : Int) → Goes pr_.tables en_ below (Fine st_ n0 (Q_rm_leq Z a0 a1 n g h0 n0) ({ frames := 0, cells := 0, slots := 0, locals := 0 } : Room).cells ({ frames := 0, cells := 0, slots := 0, locals := 0 } : Room).slots) T (mkF me_ 9 #[.val (.ref a0), .val (.ref a1), .val (.int i2)] []) := by
    intro k
    induction k with
    | zero =>
      intro T i2 S hkl hi
      refine Goes.go (fun _ => XS.iloadN S.here B.x rfl (B.d d_jdk_43_method_13_9) rfl) ?_
      show Goes _ _ _ _ T (mkF me_ 10 #[.val (.ref a0), .val (.ref a1), .val (.int i2)] [(.int i2)])
      refine Goes.go (fun _ => XS.aloadN S.here B.x rfl (B.d d_jdk_43_method_13_10) rfl rfl) ?_
      show Goes _ _ _ _ T (mkF me_ 11 #[.val (.ref a0), .val (.ref a1), .val (.int i2)] [(.ref a0), (.int i2)])
      refine Goes.alen S B A_a0 (z := n.toInt32) rfl d_jdk_43_method_13_11 ?_
      show Goes _ _ _ _ T (mkF me_ 12 #[.val (.ref a0), .val (.ref a1), .val (.int i2)] [(.int n.toInt32), (.int i2)])
      refine Goes.go (fun _ => XS.icmpYes S.here B.x rfl (pc0 := 12) (pc' := 32) rfl (B.d d_jdk_43_method_13_12) rfl (flt (show ¬ (i2 < n.toInt32) from own_eL0 hn hi)).2.1 (by decide) (by decide)) ?_
      show Goes _ _ _ _ T (mkF me_ 32 #[.val (.ref a0), .val (.ref a1), .val (.int i2)] [])
      refine Goes.go (fun _ => XS.iconst S.here B.x rfl (B.d d_jdk_43_method_13_32)) ?_
      show Goes _ _ _ _ T (mkF me_ 33 #[.val (.ref a0), .val (.ref a1), .val (.int i2)] [(.int (1 : Int32))])
      refine Goes.retN S B (by simp) d_jdk_43_method_13_33 (by decide) (by decide) ?_
      exact ⟨(by first | rfl | (rw [bi_pos (by assumption)]; rfl) | (rw [bi_neg (by assumption)]; rfl) | (rw [nar_bi]; exact congrArg (fun z => some (Value.int z)) (bi_congr (by simp_all))) | (simp_all [bi, nar]; done)), rfl⟩
    | succ k ih =>
      intro T i2 S hkl hi
      refine Goes.go (fun _ => XS.iloadN S.here B.x rfl (B.d d_jdk_43_method_13_9) rfl) ?_
      show Goes _ _ _ _ T (mkF me_ 10 #[.val (.ref a0), .val (.ref a1), .val (.int i2)] [(.int i2)])
      refine Goes.go (fun _ => XS.aloadN S.here B.x rfl (B.d d_jdk_43_method_13_10) rfl rfl) ?_
      show Goes _ _ _ _ T (mkF me_ 11 #[.val (.ref a0), .val (.ref a1), .val (.int i2)] [(.ref a0), (.int i2)])
      refine Goes.alen S B A_a0 (z := n.toInt32) rfl d_jdk_43_method_13_11 ?_
      show Goes _ _ _ _ T (mkF me_ 12 #[.val (.ref a0), .val (.ref a1), .val (.int i2)] [(.int n.toInt32), (.int i2)])
      refine Goes.go (fun _ => XS.icmpNo S.here B.x rfl (B.d d_jdk_43_method_13_12) rfl (tlt (show i2 < n.toInt32 from own_eL1 hn hkl hi)).2.1) ?_
      show Goes _ _ _ _ T (mkF me_ 15 #[.val (.ref a0), .val (.ref a1), .val (.int i2)] [])
      refine Goes.go (fun _ => XS.aloadN S.here B.x rfl (B.d d_jdk_43_method_13_15) rfl rfl) ?_
      show Goes _ _ _ _ T (mkF me_ 16 #[.val (.ref a0), .val (.ref a1), .val (.int i2)] [(.ref a0)])
      refine Goes.go (fun _ => XS.iloadN S.here B.x rfl (B.d d_jdk_43_method_13_16) rfl) ?_
      show Goes _ _ _ _ T (mkF me_ 17 #[.val (.ref a0), .val (.ref a1), .val (.int i2)] [(.int i2), (.ref a0)])
      refine Goes.baload S B A_a0 (own_ep hi) (own_eb hkl hi) d_jdk_43_method_13_17 (v := (.int (g i2.toNatClampNeg))) rfl ?_
      show Goes _ _ _ _ T (mkF me_ 18 #[.val (.ref a0), .val (.ref a1), .val (.int i2)] [(.int (g i2.toNatClampNeg))])
      refine Goes.go (fun _ => XS.aloadN S.here B.x rfl (B.d d_jdk_43_method_13_18) rfl rfl) ?_
      show Goes _ _ _ _ T (mkF me_ 19 #[.val (.ref a0), .val (.ref a1), .val (.int i2)] [(.ref a1), (.int (g i2.toNatClampNeg))])
      refine Goes.go (fun _ => XS.iloadN S.here B.x rfl (B.d d_jdk_43_method_13_19) rfl) ?_
      show Goes _ _ _ _ T (mkF me_ 20 #[.val (.ref a0), .val (.ref a1), .val (.int i2)] [(.int i2), (.ref a1), (.int (g i2.toNatClampNeg))])
      refine Goes.baload S B A_a1 (own_ep hi) (own_eb hkl hi) d_jdk_43_method_13_20 (v := (.int (g i2.toNatClampNeg))) rfl ?_
      show Goes _ _ _ _ T (mkF me_ 21 #[.val (.ref a0), .val (.ref a1), .val (.int i2)] [(.int (g i2.toNatClampNeg)), (.int (g i2.toNatClampNeg))])
      refine Goes.go (fun _ => XS.icmpYes S.here B.x rfl (pc0 := 21) (pc' := 26) rfl (B.d d_jdk_43_method_13_21) rfl (teq (rfl : (g i2.toNatClampNeg) = (g i2.toNatClampNeg))).1 (by decide) (by decide)) ?_
      show Goes _ _ _ _ T (mkF me_ 26 #[.val (.ref a0), .val (.ref a1), .val (.int i2)] [])
      refine Goes.go (fun _ => XS.iinc S.here B.x rfl (B.d d_jdk_43_method_13_26) rfl (l' := #[.val (.ref a0), .val (.ref a1), .val (.int (i2 + (1 : Int32)))]) rfl) ?_
      show Goes _ _ _ _ T (mkF me_ 29 #[.val (.ref a0), .val (.ref a1), .val (.int (i2 + (1 : Int32)))] [])
      refine Goes.go (fun _ => XS.goto S.here B.x rfl (pc0 := 29) (pc' := 9) rfl (B.d d_jdk_43_method_13_29) (by decide) (by decide)) ?_
      show Goes _ _ _ _ T (mkF me_ 9 #[.val (.ref a0), .val (.ref a1), .val (.int (i2 + (1 : Int32)))] [])
      exact ih T (i2 + (1 : Int32)) S (by omega) (own_ei hn hkl hi)
  exact LP1 n T (0 : Int32) S (Nat.le_refl _) own_ei0
theorem ef_rm_seq (m : MethodId) (a0 : Addr) (a1 : Addr) : entryFrame m #[(.ref a0), (.ref a1)] 3 = mkF m 0 #[.val (.ref a0), .val (.ref a1), .unset] [] := by first | (simp [entryFrame, mkF, argsToLocals, Value.category]; done) | rfl
def Q_rm_seq (Z : State) (a0 : Addr) (a1 : Addr) (b0 : Addr) (b1 : Addr) (n : Nat) (g : Nat → Int32) (gz : Int32) (h0 : Heap) (n0 : Nat) (v : Option Value) (h : Heap) : Prop := v = some (.int (1 : Int32)) ∧ h = h0
set_option maxRecDepth 65536 in
set_option maxHeartbeats 40000000 in
theorem rm_seq (l : Launch) (Z : State) (aw : Array Value) (hw : ∀ d ∈ tables_1, d.before aw Z = true) (a0 : Addr) (a1 : Addr) (b0 : Addr) (b1 : Addr) (n : Nat) (g : Nat → Int32) (gz : Int32) (h0 : Heap) (n0 : Nat) (E_a0 : Exa Z h0 a0 "java/lang/String") (E_a1 : Exa Z h0 a1 "java/lang/String") (F_a0_coder : Fld Z h0 a0 "java/lang/String" "coder" "B" (.int (0 : Int32))) (F_a1_coder : Fld Z h0 a1 "java/lang/String" "coder" "B" (.int (0 : Int32))) (F_a0_value : Fld Z h0 a0 "java/lang/String" "value" "[B" (.ref b0)) (F_a1_value : Fld Z h0 a1 "java/lang/String" "value" "[B" (.ref b1)) (A_b0 : Ary Z h0 b0 .byte n (fun i => (.int (g i)))) (A_b1 : Ary Z h0 b1 .byte n (fun i => (.int (g i)))) (S_COMPACT_STRINGS : Sta Z h0 "java/lang/String" "COMPACT_STRINGS" "Z" (.int gz)) (hgz : ¬ gz = 0) (hn : n < 2147483648) :
    Con l Z (⟨"java/lang/String", "equals", "(Ljava/lang/Object;)Z"⟩ : MethodName) jdk_42_method_66_code 3 (some .boolean) ({ frames := 1, cells := 0, slots := 0, locals := 14 } : Room) #[(.ref a0), (.ref a1)] h0 n0 (Q_rm_seq Z a0 a1 b0 b1 n g gz h0 n0) := by
  refine Con.body (plainFor_of_name pn_2) ?_
  intro pr_ en_ st_ me_ below meth co_ T B S
  refine Goes.cast (ef_rm_seq me_ a0 a1) ?_
  refine Goes.go (fun _ => XS.aloadN S.here B.x rfl (B.d d_jdk_42_method_66_0) rfl rfl) ?_
  show Goes _ _ _ _ T (mkF me_ 1 #[.val (.ref a0), .val (.ref a1), .unset] [(.ref a0)])
  refine Goes.go (fun _ => XS.aloadN S.here B.x rfl (B.d d_jdk_42_method_66_1) rfl rfl) ?_
  show Goes _ _ _ _ T (mkF me_ 2 #[.val (.ref a0), .val (.ref a1), .unset] [(.ref a1), (.ref a0)])
  rcases Classical.em (a0 = a1) with hx | hx
  · skip
    show Goes _ _ _ _ T (mkF me_ 2 #[.val (.ref a0), .val (.ref a1), .unset] [(.ref a1), (.ref a0)])
    refine Goes.acmp (x := (.ref a0)) (y := (.ref a1)) S B rfl rfl (pc' := 5) (same := true) d_jdk_42_method_66_2 (decide_eq_true (congrArg Value.ref hx)) (by decide) (by decide) ?_
    show Goes _ _ _ _ T (mkF me_ 5 #[.val (.ref a0), .val (.ref a1), .unset] [])
    refine Goes.go (fun _ => XS.iconst S.here B.x rfl (B.d d_jdk_42_method_66_5)) ?_
    show Goes _ _ _ _ T (mkF me_ 6 #[.val (.ref a0), .val (.ref a1), .unset] [(.int (1 : Int32))])
    refine Goes.retN S B (by simp) d_jdk_42_method_66_6 (by decide) (by decide) ?_
    exact ⟨(by first | rfl | (rw [bi_pos (by assumption)]; rfl) | (rw [bi_neg (by assumption)]; rfl) | (rw [nar_bi]; exact congrArg (fun z => some (Value.int z)) (bi_congr (by simp_all))) | (simp_all [bi, nar]; done)), rfl⟩
  · skip
    show Goes _ _ _ _ T (mkF me_ 2 #[.val (.ref a0), .val (.ref a1), .unset] [(.ref a1), (.ref a0)])
    refine Goes.acmp (x := (.ref a0)) (y := (.ref a1)) S B rfl rfl (pc' := 7) (same := false) d_jdk_42_method_66_2 (decide_eq_false fun q => hx (Value.ref.inj q)) (by decide) (by decide) ?_
    show Goes _ _ _ _ T (mkF me_ 7 #[.val (.ref a0), .val (.ref a1), .unset] [])
    refine Goes.go (fun _ => XS.aloadN S.here B.x rfl (B.d d_jdk_42_method_66_7) rfl rfl) ?_
    show Goes _ _ _ _ T (mkF me_ 8 #[.val (.ref a0), .val (.ref a1), .unset] [(.ref a1)])
    refine own_inst S B (w27 hw) E_a1 d_jdk_42_method_66_8 ?_
    intro T S
    show Goes _ _ _ _ T (mkF me_ 11 #[.val (.ref a0), .val (.ref a1), .unset] [(.int (1 : Int32))])
    refine Goes.go (fun _ => XS.ifNo S.here B.x rfl (B.d d_jdk_42_method_66_11) rfl (by decide)) ?_
    show Goes _ _ _ _ T (mkF me_ 14 #[.val (.ref a0), .val (.ref a1), .unset] [])
    refine Goes.go (fun _ => XS.aloadN S.here B.x rfl (B.d d_jdk_42_method_66_14) rfl rfl) ?_
    show Goes _ _ _ _ T (mkF me_ 15 #[.val (.ref a0), .val (.ref a1), .unset] [(.ref a1)])
    refine own_cast S B (w27 hw) E_a1 d_jdk_42_method_66_15 ?_
    intro T S
    show Goes _ _ _ _ T (mkF me_ 18 #[.val (.ref a0), .val (.ref a1), .unset] [(.ref a1)])
    refine Goes.go (fun _ => XS.astoreN S.here B.x rfl (B.d d_jdk_42_method_66_18) rfl rfl (l' := #[.val (.ref a0), .val (.ref a1), .val (.ref a1)]) rfl) ?_
    show Goes _ _ _ _ T (mkF me_ 19 #[.val (.ref a0), .val (.ref a1), .val (.ref a1)] [])
    refine own_getS S B (w29 hw) S_COMPACT_STRINGS d_jdk_42_method_66_19 ?_
    intro T S
    show Goes _ _ _ _ T (mkF me_ 22 #[.val (.ref a0), .val (.ref a1), .val (.ref a1)] [(.int gz)])
    refine Goes.go (fun _ => XS.ifNo S.here B.x rfl (B.d d_jdk_42_method_66_22) rfl ((if0 _ _).trans (feq (show ¬ (gz = (0 : Int32)) from hgz)).1)) ?_
    show Goes _ _ _ _ T (mkF me_ 25 #[.val (.ref a0), .val (.ref a1), .val (.ref a1)] [])
    refine Goes.go (fun _ => XS.aloadN S.here B.x rfl (B.d d_jdk_42_method_66_25) rfl rfl) ?_
    show Goes _ _ _ _ T (mkF me_ 26 #[.val (.ref a0), .val (.ref a1), .val (.ref a1)] [(.ref a0)])
    refine Goes.getF S B (w30 hw) F_a0_coder d_jdk_42_method_66_26 ?_
    intro T S
    show Goes _ _ _ _ T (mkF me_ 29 #[.val (.ref a0), .val (.ref a1), .val (.ref a1)] [(.int (0 : Int32))])
    refine Goes.go (fun _ => XS.aloadN S.here B.x rfl (B.d d_jdk_42_method_66_29) rfl rfl) ?_
    show Goes _ _ _ _ T (mkF me_ 30 #[.val (.ref a0), .val (.ref a1), .val (.ref a1)] [(.ref a1), (.int (0 : Int32))])
    refine Goes.getF S B (w30 hw) F_a1_coder d_jdk_42_method_66_30 ?_
    intro T S
    show Goes _ _ _ _ T (mkF me_ 33 #[.val (.ref a0), .val (.ref a1), .val (.ref a1)] [(.int (0 : Int32)), (.int (0 : Int32))])
    refine Goes.go (fun _ => XS.icmpNo S.here B.x rfl (B.d d_jdk_42_method_66_33) rfl (by decide)) ?_
    show Goes _ _ _ _ T (mkF me_ 36 #[.val (.ref a0), .val (.ref a1), .val (.ref a1)] [])
    refine Goes.go (fun _ => XS.aloadN S.here B.x rfl (B.d d_jdk_42_method_66_36) rfl rfl) ?_
    show Goes _ _ _ _ T (mkF me_ 37 #[.val (.ref a0), .val (.ref a1), .val (.ref a1)] [(.ref a0)])
    refine Goes.getF S B (w31 hw) F_a0_value d_jdk_42_method_66_37 ?_
    intro T S
    show Goes _ _ _ _ T (mkF me_ 40 #[.val (.ref a0), .val (.ref a1), .val (.ref a1)] [(.ref b0)])
    refine Goes.go (fun _ => XS.aloadN S.here B.x rfl (B.d d_jdk_42_method_66_40) rfl rfl) ?_
    show Goes _ _ _ _ T (mkF me_ 41 #[.val (.ref a0), .val (.ref a1), .val (.ref a1)] [(.ref a1), (.ref b0)])
    refine Goes.getF S B (w31 hw) F_a1_value d_jdk_42_method_66_41 ?_
    intro T S
    show Goes _ _ _ _ T (mkF me_ 44 #[.val (.ref a0), .val (.ref a1), .val (.ref a1)] [(.ref b1), (.ref b0)])
    refine Goes.callS (argsL := [(.ref b0), (.ref b1)]) (rest := []) (W := 0) S B (rm_leq l Z aw hw b0 b1 n g _ n0 A_b0 A_b1 (by assumption)) (w32 hw) (w33 hw) (w34 hw) (w35 hw) (by decide) (by decide) (by decide) (by decide) (by decide) rfl (lenOf pd_0 rfl) rfl (Nat.le_of_eq rfl) d_jdk_42_method_66_44 ?_
    intro v T h S hQ
    obtain ⟨rfl, hh⟩ := hQ
    replace hh := hh.symm
    subst hh
    show Goes _ _ _ _ T (mkF me_ 47 #[.val (.ref a0), .val (.ref a1), .val (.ref a1)] [(.int (1 : Int32))])
    refine Goes.go (fun _ => XS.ifNo S.here B.x rfl (B.d d_jdk_42_method_66_47) rfl (by decide)) ?_
    show Goes _ _ _ _ T (mkF me_ 50 #[.val (.ref a0), .val (.ref a1), .val (.ref a1)] [])
    refine Goes.go (fun _ => XS.iconst S.here B.x rfl (B.d d_jdk_42_method_66_50)) ?_
    show Goes _ _ _ _ T (mkF me_ 51 #[.val (.ref a0), .val (.ref a1), .val (.ref a1)] [(.int (1 : Int32))])
    refine Goes.go (fun _ => XS.goto S.here B.x rfl (pc0 := 51) (pc' := 55) rfl (B.d d_jdk_42_method_66_51) (by decide) (by decide)) ?_
    show Goes _ _ _ _ T (mkF me_ 55 #[.val (.ref a0), .val (.ref a1), .val (.ref a1)] [(.int (1 : Int32))])
    refine Goes.retN S B (by simp) d_jdk_42_method_66_55 (by decide) (by decide) ?_
    exact ⟨(by first | rfl | (rw [bi_pos (by assumption)]; rfl) | (rw [bi_neg (by assumption)]; rfl) | (rw [nar_bi]; exact congrArg (fun z => some (Value.int z)) (bi_congr (by simp_all))) | (simp_all [bi, nar]; done)), rfl⟩
theorem ef_rm0 (m : MethodId) (p0 : Int32) (p1 : Int32) (p2 : Int32) : entryFrame m #[(.int p0), (.int p1), (.int p2)] maxLocals = mkF m 0 #[.val (.int p0), .val (.int p1), .val (.int p2), .unset, .unset, .unset, .unset, .unset, .unset, .unset] [] := by first | (simp [entryFrame, mkF, argsToLocals, Value.category, maxLocals]; done) | rfl
set_option maxRecDepth 65536 in
set_option maxHeartbeats 40000000 in
theorem rm0 (l : Launch) (Z : State) (aw : Array Value) (hw : ∀ d ∈ tables_1, d.before aw Z = true) (p0 : Int32) (p1 : Int32) (p2 : Int32) (aO : Addr) (cO : Addr) (bO : Addr) (aF : Addr) (cF : Addr) (bF : Addr) (aE : Addr) (cE : Addr) (bE : Addr) (gz : Int32) (S_OPEN : Sta Z Z.heap "com/example/sum_to_shares/sumtoshares/engine/PacketState" "OPEN" "Lcom/example/sum_to_shares/sumtoshares/engine/PacketState;" (.ref aO)) (E_aO : Exa Z Z.heap aO "com/example/sum_to_shares/sumtoshares/engine/PacketState") (F_aO_code : Fld Z Z.heap aO "com/example/sum_to_shares/sumtoshares/engine/PacketState" "code" "Ljava/lang/String;" (.ref cO)) (E_cO : Exa Z Z.heap cO "java/lang/String") (F_cO_coder : Fld Z Z.heap cO "java/lang/String" "coder" "B" (.int (0 : Int32))) (F_cO_value : Fld Z Z.heap cO "java/lang/String" "value" "[B" (.ref bO)) (A_bO : Ary Z Z.heap bO .byte 4 (fun i => (.int ((own_g own_cs_open) i)))) (S_FINISHED : Sta Z Z.heap "com/example/sum_to_shares/sumtoshares/engine/PacketState" "FINISHED" "Lcom/example/sum_to_shares/sumtoshares/engine/PacketState;" (.ref aF)) (E_aF : Exa Z Z.heap aF "com/example/sum_to_shares/sumtoshares/engine/PacketState") (F_aF_code : Fld Z Z.heap aF "com/example/sum_to_shares/sumtoshares/engine/PacketState" "code" "Ljava/lang/String;" (.ref cF)) (E_cF : Exa Z Z.heap cF "java/lang/String") (F_cF_coder : Fld Z Z.heap cF "java/lang/String" "coder" "B" (.int (0 : Int32))) (F_cF_value : Fld Z Z.heap cF "java/lang/String" "value" "[B" (.ref bF)) (A_bF : Ary Z Z.heap bF .byte 8 (fun i => (.int ((own_g own_cs_finished) i)))) (S_EXPIRED : Sta Z Z.heap "com/example/sum_to_shares/sumtoshares/engine/PacketState" "EXPIRED" "Lcom/example/sum_to_shares/sumtoshares/engine/PacketState;" (.ref aE)) (E_aE : Exa Z Z.heap aE "com/example/sum_to_shares/sumtoshares/engine/PacketState") (F_aE_code : Fld Z Z.heap aE "com/example/sum_to_shares/sumtoshares/engine/PacketState" "code" "Ljava/lang/String;" (.ref cE)) (E_cE : Exa Z Z.heap cE "java/lang/String") (F_cE_coder : Fld Z Z.heap cE "java/lang/String" "coder" "B" (.int (0 : Int32))) (F_cE_value : Fld Z Z.heap cE "java/lang/String" "value" "[B" (.ref bE)) (A_bE : Ary Z Z.heap bE .byte 7 (fun i => (.int ((own_g own_cs_expired) i)))) (S_COMPACT_STRINGS : Sta Z Z.heap "java/lang/String" "COMPACT_STRINGS" "Z" (.int gz)) (hgz : ¬ gz = 0) (wS : ∀ a ∈ Bundle.stringAtoms, a.before aw Z = true) (hcw : Jvm.Lit.compactW.before aw Z = true) (hh17 : Jvm.Lit.constHeld Z "com/example/sum_to_shares/sumtoshares/engine/PacketStateOfPinLaw" 17) (hh22 : Jvm.Lit.constHeld Z "com/example/sum_to_shares/sumtoshares/engine/PacketStateOfPinLaw" 22) (hh27 : Jvm.Lit.constHeld Z "com/example/sum_to_shares/sumtoshares/engine/PacketStateOfPinLaw" 27) :
    ConW l Z x code maxLocals ret room_1 #[(.int p0), (.int p1), (.int p2)] (fun v => v = some (.int 1)) := by
  refine ConW.body (plainFor_of_name pn_3) ?_
  intro pr_ en_ me_ below meth co_ T B S
  refine Goes.cast (ef_rm0 me_ p0 p1 p2) ?_
  refine Goes.go (fun _ => XS.iloadN S.here B.x rfl (B.d at_0) rfl) ?_
  show Goes _ _ _ _ T (mkF me_ 1 #[.val (.int p0), .val (.int p1), .val (.int p2), .unset, .unset, .unset, .unset, .unset, .unset, .unset] [(.int p2)])
  refine Goes.go (fun _ => XS.iconst S.here B.x rfl (B.d at_1)) ?_
  show Goes _ _ _ _ T (mkF me_ 2 #[.val (.int p0), .val (.int p1), .val (.int p2), .unset, .unset, .unset, .unset, .unset, .unset, .unset] [(.int (1 : Int32)), (.int p2)])
  refine Goes.go (fun _ => XS.iand S.here B.x rfl (B.d at_2) rfl) ?_
  show Goes _ _ _ _ T (mkF me_ 3 #[.val (.int p0), .val (.int p1), .val (.int p2), .unset, .unset, .unset, .unset, .unset, .unset, .unset] [(.int (p2 &&& (1 : Int32)))])
  refine Goes.dia (P := ¬ ((p2 &&& (1 : Int32)) = (0 : Int32))) (mk := fun z => (mkF me_ 11 #[.val (.int p0), .val (.int p1), .val (.int p2), .unset, .unset, .unset, .unset, .unset, .unset, .unset] [(.int z)])) (fun hc3 kk => ?_) (fun hc3 kk => ?_) ?_
  · skip
    refine Goes.go (fun _ => XS.ifNo S.here B.x rfl (B.d at_3) rfl ((if0 _ _).trans (feq hc3).1)) ?_
    show Goes _ _ _ _ T (mkF me_ 6 #[.val (.int p0), .val (.int p1), .val (.int p2), .unset, .unset, .unset, .unset, .unset, .unset, .unset] [])
    refine Goes.go (fun _ => XS.iconst S.here B.x rfl (B.d at_6)) ?_
    show Goes _ _ _ _ T (mkF me_ 7 #[.val (.int p0), .val (.int p1), .val (.int p2), .unset, .unset, .unset, .unset, .unset, .unset, .unset] [(.int (1 : Int32))])
    refine Goes.go (fun _ => XS.goto S.here B.x rfl (pc0 := 7) (pc' := 11) rfl (B.d at_7) (by decide) (by decide)) ?_
    show Goes _ _ _ _ T (mkF me_ 11 #[.val (.int p0), .val (.int p1), .val (.int p2), .unset, .unset, .unset, .unset, .unset, .unset, .unset] [(.int (1 : Int32))])
    exact kk
  · skip
    refine Goes.go (fun _ => XS.ifYes S.here B.x rfl (pc0 := 3) (pc' := 10) rfl (B.d at_3) rfl ((if0 _ _).trans (teq (Classical.not_not.mp hc3)).1) (by decide) (by decide)) ?_
    show Goes _ _ _ _ T (mkF me_ 10 #[.val (.int p0), .val (.int p1), .val (.int p2), .unset, .unset, .unset, .unset, .unset, .unset, .unset] [])
    refine Goes.go (fun _ => XS.iconst S.here B.x rfl (B.d at_10)) ?_
    show Goes _ _ _ _ T (mkF me_ 11 #[.val (.int p0), .val (.int p1), .val (.int p2), .unset, .unset, .unset, .unset, .unset, .unset, .unset] [(.int (0 : Int32))])
    exact kk
  show Goes _ _ _ _ T (mkF me_ 11 #[.val (.int p0), .val (.int p1), .val (.int p2), .unset, .unset, .unset, .unset, .unset, .unset, .unset] [(.int (bi (¬ ((p2 &&& (1 : Int32)) = (0 : Int32)))))])
  refine Goes.go (fun _ => XS.istoreN S.here B.x rfl (B.d at_11) rfl (l' := #[.val (.int p0), .val (.int p1), .val (.int p2), .val (.int (bi (¬ ((p2 &&& (1 : Int32)) = (0 : Int32))))), .unset, .unset, .unset, .unset, .unset, .unset]) rfl) ?_
  show Goes _ _ _ _ T (mkF me_ 12 #[.val (.int p0), .val (.int p1), .val (.int p2), .val (.int (bi (¬ ((p2 &&& (1 : Int32)) = (0 : Int32))))), .unset, .unset, .unset, .unset, .unset, .unset] [])
  have J1 : ∀ (T : State) (g : Int32), Sd pr_ l en_ room_1 Z me_ #[(.int p0), (.int p1), (.int p2)] below meth co_ T Z.heap Z.heap.size 0 0 → Goes pr_.tables en_ below (FineW Z (fun v => v = some (.int 1)) room_1.cells room_1.slots) T (mkF me_ 23 #[.val (.int p0), .val (.int p1), .val (.int p2), .val (.int (bi (¬ ((p2 &&& (1 : Int32)) = (0 : Int32))))), .unset, .unset, .unset, .unset, .unset, .unset] [(.int g)]) := by
    intro T g S
    refine Goes.go (fun _ => XS.istore S.here B.x rfl (B.d at_23) rfl (l' := #[.val (.int p0), .val (.int p1), .val (.int p2), .val (.int (bi (¬ ((p2 &&& (1 : Int32)) = (0 : Int32))))), .val (.int g), .unset, .unset, .unset, .unset, .unset]) rfl) ?_
    show Goes _ _ _ _ T (mkF me_ 25 #[.val (.int p0), .val (.int p1), .val (.int p2), .val (.int (bi (¬ ((p2 &&& (1 : Int32)) = (0 : Int32))))), .val (.int g), .unset, .unset, .unset, .unset, .unset] [])
    rcases own_three (x := (p2 &&& (1 : Int32))) (g := g) (a := p0) with hP | ⟨hP, hg⟩ | ⟨hP, hg⟩
    · skip
      show Goes _ _ _ _ T (mkF me_ 25 #[.val (.int p0), .val (.int p1), .val (.int p2), .val (.int (bi (¬ ((p2 &&& (1 : Int32)) = (0 : Int32))))), .val (.int g), .unset, .unset, .unset, .unset, .unset] [])
      refine Goes.go (fun _ => XS.iloadN S.here B.x rfl (B.d at_25) rfl) ?_
      show Goes _ _ _ _ T (mkF me_ 26 #[.val (.int p0), .val (.int p1), .val (.int p2), .val (.int (bi (¬ ((p2 &&& (1 : Int32)) = (0 : Int32))))), .val (.int g), .unset, .unset, .unset, .unset, .unset] [(.int p0)])
      refine Goes.go (fun _ => XS.iload S.here B.x rfl (B.d at_26) rfl) ?_
      show Goes _ _ _ _ T (mkF me_ 28 #[.val (.int p0), .val (.int p1), .val (.int p2), .val (.int (bi (¬ ((p2 &&& (1 : Int32)) = (0 : Int32))))), .val (.int g), .unset, .unset, .unset, .unset, .unset] [(.int g), (.int p0)])
      refine Goes.go (fun _ => XS.iloadN S.here B.x rfl (B.d at_28) rfl) ?_
      show Goes _ _ _ _ T (mkF me_ 29 #[.val (.int p0), .val (.int p1), .val (.int p2), .val (.int (bi (¬ ((p2 &&& (1 : Int32)) = (0 : Int32))))), .val (.int g), .unset, .unset, .unset, .unset, .unset] [(.int (bi (¬ ((p2 &&& (1 : Int32)) = (0 : Int32))))), (.int g), (.int p0)])
      refine Goes.callS (argsL := [(.int p0), (.int g), (.int (bi (¬ ((p2 &&& (1 : Int32)) = (0 : Int32)))))]) (rest := []) (W := 0) S B (rm_of l Z aw hw p0 g (bi (¬ ((p2 &&& (1 : Int32)) = (0 : Int32)))) aO aF aE _ Z.heap.size S_OPEN S_FINISHED S_EXPIRED) (w0 hw) (w1 hw) (w2 hw) (w3 hw) (by decide) (by decide) (by decide) (by decide) (by decide) rfl (lenOf pd_1 rfl) rfl (Nat.le_of_eq rfl) at_29 ?_
      intro v T h S hQ
      obtain ⟨rfl, hh⟩ := hQ
      replace hh := hh.symm
      subst hh
      show Goes _ _ _ _ T (mkF me_ 32 #[.val (.int p0), .val (.int p1), .val (.int p2), .val (.int (bi (¬ ((p2 &&& (1 : Int32)) = (0 : Int32))))), .val (.int g), .unset, .unset, .unset, .unset, .unset] [(.ref (own_of p0 g (bi (¬ ((p2 &&& (1 : Int32)) = (0 : Int32)))) aO aF aE))])
      rw [show (own_of p0 g (bi (¬ ((p2 &&& (1 : Int32)) = (0 : Int32)))) aO aF aE) = aE from own_ofE hP]
      show Goes _ _ _ _ T (mkF me_ 32 #[.val (.int p0), .val (.int p1), .val (.int p2), .val (.int (bi (¬ ((p2 &&& (1 : Int32)) = (0 : Int32))))), .val (.int g), .unset, .unset, .unset, .unset, .unset] [(.ref aE)])
      refine Goes.go (fun _ => XS.astore S.here B.x rfl (B.d at_32) rfl rfl (l' := #[.val (.int p0), .val (.int p1), .val (.int p2), .val (.int (bi (¬ ((p2 &&& (1 : Int32)) = (0 : Int32))))), .val (.int g), .val (.ref aE), .unset, .unset, .unset, .unset]) rfl) ?_
      show Goes _ _ _ _ T (mkF me_ 34 #[.val (.int p0), .val (.int p1), .val (.int p2), .val (.int (bi (¬ ((p2 &&& (1 : Int32)) = (0 : Int32))))), .val (.int g), .val (.ref aE), .unset, .unset, .unset, .unset] [])
      refine Goes.go (fun _ => XS.iload S.here B.x rfl (B.d at_34) rfl) ?_
      show Goes _ _ _ _ T (mkF me_ 36 #[.val (.int p0), .val (.int p1), .val (.int p2), .val (.int (bi (¬ ((p2 &&& (1 : Int32)) = (0 : Int32))))), .val (.int g), .val (.ref aE), .unset, .unset, .unset, .unset] [(.int g)])
      refine Goes.go (fun _ => XS.iloadN S.here B.x rfl (B.d at_36) rfl) ?_
      show Goes _ _ _ _ T (mkF me_ 37 #[.val (.int p0), .val (.int p1), .val (.int p2), .val (.int (bi (¬ ((p2 &&& (1 : Int32)) = (0 : Int32))))), .val (.int g), .val (.ref aE), .unset, .unset, .unset, .unset] [(.int p0), (.int g)])
      refine Goes.go (fun _ => XS.iloadN S.here B.x rfl (B.d at_37) rfl) ?_
      show Goes _ _ _ _ T (mkF me_ 38 #[.val (.int p0), .val (.int p1), .val (.int p2), .val (.int (bi (¬ ((p2 &&& (1 : Int32)) = (0 : Int32))))), .val (.int g), .val (.ref aE), .unset, .unset, .unset, .unset] [(.int (bi (¬ ((p2 &&& (1 : Int32)) = (0 : Int32))))), (.int p0), (.int g)])
      refine Goes.callS (argsL := [(.int g), (.int p0), (.int (bi (¬ ((p2 &&& (1 : Int32)) = (0 : Int32)))))]) (rest := []) (W := 0) S B (rm_of l Z aw hw g p0 (bi (¬ ((p2 &&& (1 : Int32)) = (0 : Int32)))) aO aF aE _ Z.heap.size S_OPEN S_FINISHED S_EXPIRED) (w0 hw) (w1 hw) (w2 hw) (w3 hw) (by decide) (by decide) (by decide) (by decide) (by decide) rfl (lenOf pd_1 rfl) rfl (Nat.le_of_eq rfl) at_38 ?_
      intro v T h S hQ
      obtain ⟨rfl, hh⟩ := hQ
      replace hh := hh.symm
      subst hh
      show Goes _ _ _ _ T (mkF me_ 41 #[.val (.int p0), .val (.int p1), .val (.int p2), .val (.int (bi (¬ ((p2 &&& (1 : Int32)) = (0 : Int32))))), .val (.int g), .val (.ref aE), .unset, .unset, .unset, .unset] [(.ref (own_of g p0 (bi (¬ ((p2 &&& (1 : Int32)) = (0 : Int32)))) aO aF aE))])
      rw [show (own_of g p0 (bi (¬ ((p2 &&& (1 : Int32)) = (0 : Int32)))) aO aF aE) = aE from own_ofE hP]
      show Goes _ _ _ _ T (mkF me_ 41 #[.val (.int p0), .val (.int p1), .val (.int p2), .val (.int (bi (¬ ((p2 &&& (1 : Int32)) = (0 : Int32))))), .val (.int g), .val (.ref aE), .unset, .unset, .unset, .unset] [(.ref aE)])
      refine Goes.go (fun _ => XS.astore S.here B.x rfl (B.d at_41) rfl rfl (l' := #[.val (.int p0), .val (.int p1), .val (.int p2), .val (.int (bi (¬ ((p2 &&& (1 : Int32)) = (0 : Int32))))), .val (.int g), .val (.ref aE), .val (.ref aE), .unset, .unset, .unset]) rfl) ?_
      show Goes _ _ _ _ T (mkF me_ 43 #[.val (.int p0), .val (.int p1), .val (.int p2), .val (.int (bi (¬ ((p2 &&& (1 : Int32)) = (0 : Int32))))), .val (.int g), .val (.ref aE), .val (.ref aE), .unset, .unset, .unset] [])
      refine Goes.go (fun _ => XS.aload S.here B.x rfl (B.d at_43) rfl rfl) ?_
      show Goes _ _ _ _ T (mkF me_ 45 #[.val (.int p0), .val (.int p1), .val (.int p2), .val (.int (bi (¬ ((p2 &&& (1 : Int32)) = (0 : Int32))))), .val (.int g), .val (.ref aE), .val (.ref aE), .unset, .unset, .unset] [(.ref aE)])
      refine Goes.go (fun _ => XS.aload S.here B.x rfl (B.d at_45) rfl rfl) ?_
      show Goes _ _ _ _ T (mkF me_ 47 #[.val (.int p0), .val (.int p1), .val (.int p2), .val (.int (bi (¬ ((p2 &&& (1 : Int32)) = (0 : Int32))))), .val (.int g), .val (.ref aE), .val (.ref aE), .unset, .unset, .unset] [(.ref aE), (.ref aE)])
      refine Goes.acmp (x := (.ref aE)) (y := (.ref aE)) S B rfl rfl (pc' := 52) (same := true) at_47 (decide_eq_true rfl) (by decide) (by decide) ?_
      show Goes _ _ _ _ T (mkF me_ 52 #[.val (.int p0), .val (.int p1), .val (.int p2), .val (.int (bi (¬ ((p2 &&& (1 : Int32)) = (0 : Int32))))), .val (.int g), .val (.ref aE), .val (.ref aE), .unset, .unset, .unset] [])
      refine Goes.go (fun _ => XS.iload S.here B.x rfl (B.d at_52) rfl) ?_
      show Goes _ _ _ _ T (mkF me_ 54 #[.val (.int p0), .val (.int p1), .val (.int p2), .val (.int (bi (¬ ((p2 &&& (1 : Int32)) = (0 : Int32))))), .val (.int g), .val (.ref aE), .val (.ref aE), .unset, .unset, .unset] [(.int g)])
      refine Goes.go (fun _ => XS.i2l S.here B.x rfl (B.d at_54) rfl) ?_
      show Goes _ _ _ _ T (mkF me_ 55 #[.val (.int p0), .val (.int p1), .val (.int p2), .val (.int (bi (¬ ((p2 &&& (1 : Int32)) = (0 : Int32))))), .val (.int g), .val (.ref aE), .val (.ref aE), .unset, .unset, .unset] [(.long g.toInt64)])
      refine Goes.go (fun _ => XS.iloadN S.here B.x rfl (B.d at_55) rfl) ?_
      show Goes _ _ _ _ T (mkF me_ 56 #[.val (.int p0), .val (.int p1), .val (.int p2), .val (.int (bi (¬ ((p2 &&& (1 : Int32)) = (0 : Int32))))), .val (.int g), .val (.ref aE), .val (.ref aE), .unset, .unset, .unset] [(.int p0), (.long g.toInt64)])
      refine Goes.go (fun _ => XS.i2l S.here B.x rfl (B.d at_56) rfl) ?_
      show Goes _ _ _ _ T (mkF me_ 57 #[.val (.int p0), .val (.int p1), .val (.int p2), .val (.int (bi (¬ ((p2 &&& (1 : Int32)) = (0 : Int32))))), .val (.int g), .val (.ref aE), .val (.ref aE), .unset, .unset, .unset] [(.long p0.toInt64), (.long g.toInt64)])
      refine Goes.go (fun _ => XS.lsub S.here B.x rfl (B.d at_57) rfl) ?_
      show Goes _ _ _ _ T (mkF me_ 58 #[.val (.int p0), .val (.int p1), .val (.int p2), .val (.int (bi (¬ ((p2 &&& (1 : Int32)) = (0 : Int32))))), .val (.int g), .val (.ref aE), .val (.ref aE), .unset, .unset, .unset] [(.long (g.toInt64 - p0.toInt64))])
      refine Goes.go (fun _ => XS.lconst S.here B.x rfl (B.d at_58)) ?_
      show Goes _ _ _ _ T (mkF me_ 59 #[.val (.int p0), .val (.int p1), .val (.int p2), .val (.int (bi (¬ ((p2 &&& (1 : Int32)) = (0 : Int32))))), .val (.int g), .val (.ref aE), .val (.ref aE), .unset, .unset, .unset] [(.long (0 : Int64)), (.long (g.toInt64 - p0.toInt64))])
      refine Goes.go (fun _ => XS.lcmp S.here B.x rfl (B.d at_59) rfl) ?_
      show Goes _ _ _ _ T (mkF me_ 60 #[.val (.int p0), .val (.int p1), .val (.int p2), .val (.int (bi (¬ ((p2 &&& (1 : Int32)) = (0 : Int32))))), .val (.int g), .val (.ref aE), .val (.ref aE), .unset, .unset, .unset] [(.int (lcmpW (g.toInt64 - p0.toInt64) (0 : Int64)))])
      refine Goes.dia (P := (g.toInt64 - p0.toInt64) = (0 : Int64)) (mk := fun z => (mkF me_ 68 #[.val (.int p0), .val (.int p1), .val (.int p2), .val (.int (bi (¬ ((p2 &&& (1 : Int32)) = (0 : Int32))))), .val (.int g), .val (.ref aE), .val (.ref aE), .unset, .unset, .unset] [(.int z)])) (fun hc60 kk => ?_) (fun hc60 kk => ?_) ?_
      · skip
        refine Goes.go (fun _ => XS.ifNo S.here B.x rfl (B.d at_60) rfl ((if0 _ _).trans (teq ((lw_eq (g.toInt64 - p0.toInt64) (0 : Int64)).mpr hc60)).2)) ?_
        show Goes _ _ _ _ T (mkF me_ 63 #[.val (.int p0), .val (.int p1), .val (.int p2), .val (.int (bi (¬ ((p2 &&& (1 : Int32)) = (0 : Int32))))), .val (.int g), .val (.ref aE), .val (.ref aE), .unset, .unset, .unset] [])
        refine Goes.go (fun _ => XS.iconst S.here B.x rfl (B.d at_63)) ?_
        show Goes _ _ _ _ T (mkF me_ 64 #[.val (.int p0), .val (.int p1), .val (.int p2), .val (.int (bi (¬ ((p2 &&& (1 : Int32)) = (0 : Int32))))), .val (.int g), .val (.ref aE), .val (.ref aE), .unset, .unset, .unset] [(.int (1 : Int32))])
        refine Goes.go (fun _ => XS.goto S.here B.x rfl (pc0 := 64) (pc' := 68) rfl (B.d at_64) (by decide) (by decide)) ?_
        show Goes _ _ _ _ T (mkF me_ 68 #[.val (.int p0), .val (.int p1), .val (.int p2), .val (.int (bi (¬ ((p2 &&& (1 : Int32)) = (0 : Int32))))), .val (.int g), .val (.ref aE), .val (.ref aE), .unset, .unset, .unset] [(.int (1 : Int32))])
        exact kk
      · skip
        refine Goes.go (fun _ => XS.ifYes S.here B.x rfl (pc0 := 60) (pc' := 67) rfl (B.d at_60) rfl ((if0 _ _).trans (feq (mt (lw_eq (g.toInt64 - p0.toInt64) (0 : Int64)).mp hc60)).2) (by decide) (by decide)) ?_
        show Goes _ _ _ _ T (mkF me_ 67 #[.val (.int p0), .val (.int p1), .val (.int p2), .val (.int (bi (¬ ((p2 &&& (1 : Int32)) = (0 : Int32))))), .val (.int g), .val (.ref aE), .val (.ref aE), .unset, .unset, .unset] [])
        refine Goes.go (fun _ => XS.iconst S.here B.x rfl (B.d at_67)) ?_
        show Goes _ _ _ _ T (mkF me_ 68 #[.val (.int p0), .val (.int p1), .val (.int p2), .val (.int (bi (¬ ((p2 &&& (1 : Int32)) = (0 : Int32))))), .val (.int g), .val (.ref aE), .val (.ref aE), .unset, .unset, .unset] [(.int (0 : Int32))])
        exact kk
      show Goes _ _ _ _ T (mkF me_ 68 #[.val (.int p0), .val (.int p1), .val (.int p2), .val (.int (bi (¬ ((p2 &&& (1 : Int32)) = (0 : Int32))))), .val (.int g), .val (.ref aE), .val (.ref aE), .unset, .unset, .unset] [(.int (bi ((g.toInt64 - p0.toInt64) = (0 : Int64))))])
      refine Goes.go (fun _ => XS.istore S.here B.x rfl (B.d at_68) rfl (l' := #[.val (.int p0), .val (.int p1), .val (.int p2), .val (.int (bi (¬ ((p2 &&& (1 : Int32)) = (0 : Int32))))), .val (.int g), .val (.ref aE), .val (.ref aE), .val (.int (bi ((g.toInt64 - p0.toInt64) = (0 : Int64)))), .unset, .unset]) rfl) ?_
      show Goes _ _ _ _ T (mkF me_ 70 #[.val (.int p0), .val (.int p1), .val (.int p2), .val (.int (bi (¬ ((p2 &&& (1 : Int32)) = (0 : Int32))))), .val (.int g), .val (.ref aE), .val (.ref aE), .val (.int (bi ((g.toInt64 - p0.toInt64) = (0 : Int64)))), .unset, .unset] [])
      refine Goes.go (fun _ => XS.iloadN S.here B.x rfl (B.d at_70) rfl) ?_
      show Goes _ _ _ _ T (mkF me_ 71 #[.val (.int p0), .val (.int p1), .val (.int p2), .val (.int (bi (¬ ((p2 &&& (1 : Int32)) = (0 : Int32))))), .val (.int g), .val (.ref aE), .val (.ref aE), .val (.int (bi ((g.toInt64 - p0.toInt64) = (0 : Int64)))), .unset, .unset] [(.int (bi (¬ ((p2 &&& (1 : Int32)) = (0 : Int32)))))])
      refine Goes.go (fun _ => XS.ifNo S.here B.x rfl (B.d at_71) rfl ((if0 _ _).trans (feq (bi_ne (show ¬ ((p2 &&& (1 : Int32)) = (0 : Int32)) from hP))).1)) ?_
      show Goes _ _ _ _ T (mkF me_ 74 #[.val (.int p0), .val (.int p1), .val (.int p2), .val (.int (bi (¬ ((p2 &&& (1 : Int32)) = (0 : Int32))))), .val (.int g), .val (.ref aE), .val (.ref aE), .val (.int (bi ((g.toInt64 - p0.toInt64) = (0 : Int64)))), .unset, .unset] [])
      refine own_getS S B (w38 hw) S_EXPIRED at_74 ?_
      intro T S
      show Goes _ _ _ _ T (mkF me_ 77 #[.val (.int p0), .val (.int p1), .val (.int p2), .val (.int (bi (¬ ((p2 &&& (1 : Int32)) = (0 : Int32))))), .val (.int g), .val (.ref aE), .val (.ref aE), .val (.int (bi ((g.toInt64 - p0.toInt64) = (0 : Int64)))), .unset, .unset] [(.ref aE)])
      refine Goes.go (fun _ => XS.astore S.here B.x rfl (B.d at_77) rfl rfl (l' := #[.val (.int p0), .val (.int p1), .val (.int p2), .val (.int (bi (¬ ((p2 &&& (1 : Int32)) = (0 : Int32))))), .val (.int g), .val (.ref aE), .val (.ref aE), .val (.int (bi ((g.toInt64 - p0.toInt64) = (0 : Int64)))), .val (.ref aE), .unset]) rfl) ?_
      show Goes _ _ _ _ T (mkF me_ 79 #[.val (.int p0), .val (.int p1), .val (.int p2), .val (.int (bi (¬ ((p2 &&& (1 : Int32)) = (0 : Int32))))), .val (.int g), .val (.ref aE), .val (.ref aE), .val (.int (bi ((g.toInt64 - p0.toInt64) = (0 : Int64)))), .val (.ref aE), .unset] [])
      refine own_ldcT (n := 40) (z := (7 : Int32)) (vs := own_cs_expired.map Value.int) S B (w39 hw) wS hh17 hcw ⟨by decide, by decide +kernel⟩ (by decide) (by decide) at_79 (by decide) (by decide) (by decide) (by decide) ?_
      intro T h vm1 n1 lE lEb lk S B hSin hn1 Ex E_lE F_lE_coder F_lE_value V_lEb
      have A_lEb := own_ary (n := 7) V_lEb (by decide) (by decide)
      replace S_OPEN := S_OPEN.ext Ex
      replace E_aO := E_aO.ext Ex
      replace F_aO_code := F_aO_code.ext Ex
      replace E_cO := E_cO.ext Ex
      replace F_cO_coder := F_cO_coder.ext Ex
      replace F_cO_value := F_cO_value.ext Ex
      replace A_bO := A_bO.ext Ex
      replace S_FINISHED := S_FINISHED.ext Ex
      replace E_aF := E_aF.ext Ex
      replace F_aF_code := F_aF_code.ext Ex
      replace E_cF := E_cF.ext Ex
      replace F_cF_coder := F_cF_coder.ext Ex
      replace F_cF_value := F_cF_value.ext Ex
      replace A_bF := A_bF.ext Ex
      replace S_EXPIRED := S_EXPIRED.ext Ex
      replace E_aE := E_aE.ext Ex
      replace F_aE_code := F_aE_code.ext Ex
      replace E_cE := E_cE.ext Ex
      replace F_cE_coder := F_cE_coder.ext Ex
      replace F_cE_value := F_cE_value.ext Ex
      replace A_bE := A_bE.ext Ex
      replace S_COMPACT_STRINGS := S_COMPACT_STRINGS.ext Ex
      show Goes _ _ _ _ T (mkF me_ 81 #[.val (.int p0), .val (.int p1), .val (.int p2), .val (.int (bi (¬ ((p2 &&& (1 : Int32)) = (0 : Int32))))), .val (.int g), .val (.ref aE), .val (.ref aE), .val (.int (bi ((g.toInt64 - p0.toInt64) = (0 : Int64)))), .val (.ref aE), .unset] [(.ref lE)])
      refine Goes.go (fun _ => XS.astore S.here B.x rfl (B.d at_81) rfl rfl (l' := #[.val (.int p0), .val (.int p1), .val (.int p2), .val (.int (bi (¬ ((p2 &&& (1 : Int32)) = (0 : Int32))))), .val (.int g), .val (.ref aE), .val (.ref aE), .val (.int (bi ((g.toInt64 - p0.toInt64) = (0 : Int64)))), .val (.ref aE), .val (.ref lE)]) rfl) ?_
      show Goes _ _ _ _ T (mkF me_ 83 #[.val (.int p0), .val (.int p1), .val (.int p2), .val (.int (bi (¬ ((p2 &&& (1 : Int32)) = (0 : Int32))))), .val (.int g), .val (.ref aE), .val (.ref aE), .val (.int (bi ((g.toInt64 - p0.toInt64) = (0 : Int64)))), .val (.ref aE), .val (.ref lE)] [])
      refine Goes.go (fun _ => XS.goto S.here B.x rfl (pc0 := 83) (pc' := 112) rfl (B.d at_83) (by decide) (by decide)) ?_
      show Goes _ _ _ _ T (mkF me_ 112 #[.val (.int p0), .val (.int p1), .val (.int p2), .val (.int (bi (¬ ((p2 &&& (1 : Int32)) = (0 : Int32))))), .val (.int g), .val (.ref aE), .val (.ref aE), .val (.int (bi ((g.toInt64 - p0.toInt64) = (0 : Int64)))), .val (.ref aE), .val (.ref lE)] [])
      refine Goes.go (fun _ => XS.aload S.here B.x rfl (B.d at_112) rfl rfl) ?_
      show Goes _ _ _ _ T (mkF me_ 114 #[.val (.int p0), .val (.int p1), .val (.int p2), .val (.int (bi (¬ ((p2 &&& (1 : Int32)) = (0 : Int32))))), .val (.int g), .val (.ref aE), .val (.ref aE), .val (.int (bi ((g.toInt64 - p0.toInt64) = (0 : Int64)))), .val (.ref aE), .val (.ref lE)] [(.ref aE)])
      refine Goes.go (fun _ => XS.aload S.here B.x rfl (B.d at_114) rfl rfl) ?_
      show Goes _ _ _ _ T (mkF me_ 116 #[.val (.int p0), .val (.int p1), .val (.int p2), .val (.int (bi (¬ ((p2 &&& (1 : Int32)) = (0 : Int32))))), .val (.int g), .val (.ref aE), .val (.ref aE), .val (.int (bi ((g.toInt64 - p0.toInt64) = (0 : Int64)))), .val (.ref aE), .val (.ref lE)] [(.ref aE), (.ref aE)])
      refine Goes.acmp (x := (.ref aE)) (y := (.ref aE)) S B rfl rfl (pc' := 119) (same := true) at_116 (decide_eq_true rfl) (by decide) (by decide) ?_
      show Goes _ _ _ _ T (mkF me_ 119 #[.val (.int p0), .val (.int p1), .val (.int p2), .val (.int (bi (¬ ((p2 &&& (1 : Int32)) = (0 : Int32))))), .val (.int g), .val (.ref aE), .val (.ref aE), .val (.int (bi ((g.toInt64 - p0.toInt64) = (0 : Int64)))), .val (.ref aE), .val (.ref lE)] [])
      refine Goes.go (fun _ => XS.aload S.here B.x rfl (B.d at_119) rfl rfl) ?_
      show Goes _ _ _ _ T (mkF me_ 121 #[.val (.int p0), .val (.int p1), .val (.int p2), .val (.int (bi (¬ ((p2 &&& (1 : Int32)) = (0 : Int32))))), .val (.int g), .val (.ref aE), .val (.ref aE), .val (.int (bi ((g.toInt64 - p0.toInt64) = (0 : Int64)))), .val (.ref aE), .val (.ref lE)] [(.ref aE)])
      refine Goes.callV (argsL := []) (rest := []) (W := 0) S B (rm_code l Z aw hw aE cE _ Z.heap.size F_aE_code) E_aE (w15 hw) (w16 hw) (w18 hw) (w17 hw) (w2 hw) (w19 hw) (by decide) (by decide) (by decide) (by decide) (by decide) rfl (lenOf pd_2 rfl) rfl (Nat.le_of_eq rfl) at_121 ?_
      intro v T h S hQ
      obtain ⟨rfl, hh⟩ := hQ
      replace hh := hh.symm
      subst hh
      show Goes _ _ _ _ T (mkF me_ 124 #[.val (.int p0), .val (.int p1), .val (.int p2), .val (.int (bi (¬ ((p2 &&& (1 : Int32)) = (0 : Int32))))), .val (.int g), .val (.ref aE), .val (.ref aE), .val (.int (bi ((g.toInt64 - p0.toInt64) = (0 : Int64)))), .val (.ref aE), .val (.ref lE)] [(.ref cE)])
      refine Goes.go (fun _ => XS.aload S.here B.x rfl (B.d at_124) rfl rfl) ?_
      show Goes _ _ _ _ T (mkF me_ 126 #[.val (.int p0), .val (.int p1), .val (.int p2), .val (.int (bi (¬ ((p2 &&& (1 : Int32)) = (0 : Int32))))), .val (.int g), .val (.ref aE), .val (.ref aE), .val (.int (bi ((g.toInt64 - p0.toInt64) = (0 : Int64)))), .val (.ref aE), .val (.ref lE)] [(.ref lE), (.ref cE)])
      refine Goes.callV (argsL := [(.ref lE)]) (rest := []) (W := 0) S B (rm_seq l Z aw hw cE lE bE lEb 7 (own_g own_cs_expired) gz _ Z.heap.size E_cE E_lE F_cE_coder F_lE_coder F_cE_value F_lE_value A_bE A_lEb S_COMPACT_STRINGS hgz (by decide)) E_cE (w22 hw) (w23 hw) (w25 hw) (w24 hw) (w8 hw) (w26 hw) (by decide) (by decide) (by decide) (by decide) (by decide) rfl (lenOf pd_3 rfl) rfl (Nat.le_of_eq rfl) at_126 ?_
      intro v T h S hQ
      obtain ⟨rfl, hh⟩ := hQ
      replace hh := hh.symm
      subst hh
      show Goes _ _ _ _ T (mkF me_ 129 #[.val (.int p0), .val (.int p1), .val (.int p2), .val (.int (bi (¬ ((p2 &&& (1 : Int32)) = (0 : Int32))))), .val (.int g), .val (.ref aE), .val (.ref aE), .val (.int (bi ((g.toInt64 - p0.toInt64) = (0 : Int64)))), .val (.ref aE), .val (.ref lE)] [(.int (1 : Int32))])
      refine Goes.go (fun _ => XS.ifNo S.here B.x rfl (B.d at_129) rfl (by decide)) ?_
      show Goes _ _ _ _ T (mkF me_ 132 #[.val (.int p0), .val (.int p1), .val (.int p2), .val (.int (bi (¬ ((p2 &&& (1 : Int32)) = (0 : Int32))))), .val (.int g), .val (.ref aE), .val (.ref aE), .val (.int (bi ((g.toInt64 - p0.toInt64) = (0 : Int64)))), .val (.ref aE), .val (.ref lE)] [])
      refine Goes.go (fun _ => XS.iconst S.here B.x rfl (B.d at_132)) ?_
      show Goes _ _ _ _ T (mkF me_ 133 #[.val (.int p0), .val (.int p1), .val (.int p2), .val (.int (bi (¬ ((p2 &&& (1 : Int32)) = (0 : Int32))))), .val (.int g), .val (.ref aE), .val (.ref aE), .val (.int (bi ((g.toInt64 - p0.toInt64) = (0 : Int64)))), .val (.ref aE), .val (.ref lE)] [(.int (1 : Int32))])
      refine Goes.go (fun _ => XS.goto S.here B.x rfl (pc0 := 133) (pc' := 137) rfl (B.d at_133) (by decide) (by decide)) ?_
      show Goes _ _ _ _ T (mkF me_ 137 #[.val (.int p0), .val (.int p1), .val (.int p2), .val (.int (bi (¬ ((p2 &&& (1 : Int32)) = (0 : Int32))))), .val (.int g), .val (.ref aE), .val (.ref aE), .val (.int (bi ((g.toInt64 - p0.toInt64) = (0 : Int64)))), .val (.ref aE), .val (.ref lE)] [(.int (1 : Int32))])
      exact own_retNW S B hSin hn1 (by simp) at_137 (by decide) (by decide) rfl
    · skip
      show Goes _ _ _ _ T (mkF me_ 25 #[.val (.int p0), .val (.int p1), .val (.int p2), .val (.int (bi (¬ ((p2 &&& (1 : Int32)) = (0 : Int32))))), .val (.int g), .unset, .unset, .unset, .unset, .unset] [])
      refine Goes.go (fun _ => XS.iloadN S.here B.x rfl (B.d at_25) rfl) ?_
      show Goes _ _ _ _ T (mkF me_ 26 #[.val (.int p0), .val (.int p1), .val (.int p2), .val (.int (bi (¬ ((p2 &&& (1 : Int32)) = (0 : Int32))))), .val (.int g), .unset, .unset, .unset, .unset, .unset] [(.int p0)])
      refine Goes.go (fun _ => XS.iload S.here B.x rfl (B.d at_26) rfl) ?_
      show Goes _ _ _ _ T (mkF me_ 28 #[.val (.int p0), .val (.int p1), .val (.int p2), .val (.int (bi (¬ ((p2 &&& (1 : Int32)) = (0 : Int32))))), .val (.int g), .unset, .unset, .unset, .unset, .unset] [(.int g), (.int p0)])
      refine Goes.go (fun _ => XS.iloadN S.here B.x rfl (B.d at_28) rfl) ?_
      show Goes _ _ _ _ T (mkF me_ 29 #[.val (.int p0), .val (.int p1), .val (.int p2), .val (.int (bi (¬ ((p2 &&& (1 : Int32)) = (0 : Int32))))), .val (.int g), .unset, .unset, .unset, .unset, .unset] [(.int (bi (¬ ((p2 &&& (1 : Int32)) = (0 : Int32))))), (.int g), (.int p0)])
      refine Goes.callS (argsL := [(.int p0), (.int g), (.int (bi (¬ ((p2 &&& (1 : Int32)) = (0 : Int32)))))]) (rest := []) (W := 0) S B (rm_of l Z aw hw p0 g (bi (¬ ((p2 &&& (1 : Int32)) = (0 : Int32)))) aO aF aE _ Z.heap.size S_OPEN S_FINISHED S_EXPIRED) (w0 hw) (w1 hw) (w2 hw) (w3 hw) (by decide) (by decide) (by decide) (by decide) (by decide) rfl (lenOf pd_1 rfl) rfl (Nat.le_of_eq rfl) at_29 ?_
      intro v T h S hQ
      obtain ⟨rfl, hh⟩ := hQ
      replace hh := hh.symm
      subst hh
      show Goes _ _ _ _ T (mkF me_ 32 #[.val (.int p0), .val (.int p1), .val (.int p2), .val (.int (bi (¬ ((p2 &&& (1 : Int32)) = (0 : Int32))))), .val (.int g), .unset, .unset, .unset, .unset, .unset] [(.ref (own_of p0 g (bi (¬ ((p2 &&& (1 : Int32)) = (0 : Int32)))) aO aF aE))])
      rw [show (own_of p0 g (bi (¬ ((p2 &&& (1 : Int32)) = (0 : Int32)))) aO aF aE) = aF from own_ofF hP hg]
      show Goes _ _ _ _ T (mkF me_ 32 #[.val (.int p0), .val (.int p1), .val (.int p2), .val (.int (bi (¬ ((p2 &&& (1 : Int32)) = (0 : Int32))))), .val (.int g), .unset, .unset, .unset, .unset, .unset] [(.ref aF)])
      refine Goes.go (fun _ => XS.astore S.here B.x rfl (B.d at_32) rfl rfl (l' := #[.val (.int p0), .val (.int p1), .val (.int p2), .val (.int (bi (¬ ((p2 &&& (1 : Int32)) = (0 : Int32))))), .val (.int g), .val (.ref aF), .unset, .unset, .unset, .unset]) rfl) ?_
      show Goes _ _ _ _ T (mkF me_ 34 #[.val (.int p0), .val (.int p1), .val (.int p2), .val (.int (bi (¬ ((p2 &&& (1 : Int32)) = (0 : Int32))))), .val (.int g), .val (.ref aF), .unset, .unset, .unset, .unset] [])
      refine Goes.go (fun _ => XS.iload S.here B.x rfl (B.d at_34) rfl) ?_
      show Goes _ _ _ _ T (mkF me_ 36 #[.val (.int p0), .val (.int p1), .val (.int p2), .val (.int (bi (¬ ((p2 &&& (1 : Int32)) = (0 : Int32))))), .val (.int g), .val (.ref aF), .unset, .unset, .unset, .unset] [(.int g)])
      refine Goes.go (fun _ => XS.iloadN S.here B.x rfl (B.d at_36) rfl) ?_
      show Goes _ _ _ _ T (mkF me_ 37 #[.val (.int p0), .val (.int p1), .val (.int p2), .val (.int (bi (¬ ((p2 &&& (1 : Int32)) = (0 : Int32))))), .val (.int g), .val (.ref aF), .unset, .unset, .unset, .unset] [(.int p0), (.int g)])
      refine Goes.go (fun _ => XS.iloadN S.here B.x rfl (B.d at_37) rfl) ?_
      show Goes _ _ _ _ T (mkF me_ 38 #[.val (.int p0), .val (.int p1), .val (.int p2), .val (.int (bi (¬ ((p2 &&& (1 : Int32)) = (0 : Int32))))), .val (.int g), .val (.ref aF), .unset, .unset, .unset, .unset] [(.int (bi (¬ ((p2 &&& (1 : Int32)) = (0 : Int32))))), (.int p0), (.int g)])
      refine Goes.callS (argsL := [(.int g), (.int p0), (.int (bi (¬ ((p2 &&& (1 : Int32)) = (0 : Int32)))))]) (rest := []) (W := 0) S B (rm_of l Z aw hw g p0 (bi (¬ ((p2 &&& (1 : Int32)) = (0 : Int32)))) aO aF aE _ Z.heap.size S_OPEN S_FINISHED S_EXPIRED) (w0 hw) (w1 hw) (w2 hw) (w3 hw) (by decide) (by decide) (by decide) (by decide) (by decide) rfl (lenOf pd_1 rfl) rfl (Nat.le_of_eq rfl) at_38 ?_
      intro v T h S hQ
      obtain ⟨rfl, hh⟩ := hQ
      replace hh := hh.symm
      subst hh
      show Goes _ _ _ _ T (mkF me_ 41 #[.val (.int p0), .val (.int p1), .val (.int p2), .val (.int (bi (¬ ((p2 &&& (1 : Int32)) = (0 : Int32))))), .val (.int g), .val (.ref aF), .unset, .unset, .unset, .unset] [(.ref (own_of g p0 (bi (¬ ((p2 &&& (1 : Int32)) = (0 : Int32)))) aO aF aE))])
      rw [show (own_of g p0 (bi (¬ ((p2 &&& (1 : Int32)) = (0 : Int32)))) aO aF aE) = aF from own_ofF hP hg.symm]
      show Goes _ _ _ _ T (mkF me_ 41 #[.val (.int p0), .val (.int p1), .val (.int p2), .val (.int (bi (¬ ((p2 &&& (1 : Int32)) = (0 : Int32))))), .val (.int g), .val (.ref aF), .unset, .unset, .unset, .unset] [(.ref aF)])
      refine Goes.go (fun _ => XS.astore S.here B.x rfl (B.d at_41) rfl rfl (l' := #[.val (.int p0), .val (.int p1), .val (.int p2), .val (.int (bi (¬ ((p2 &&& (1 : Int32)) = (0 : Int32))))), .val (.int g), .val (.ref aF), .val (.ref aF), .unset, .unset, .unset]) rfl) ?_
      show Goes _ _ _ _ T (mkF me_ 43 #[.val (.int p0), .val (.int p1), .val (.int p2), .val (.int (bi (¬ ((p2 &&& (1 : Int32)) = (0 : Int32))))), .val (.int g), .val (.ref aF), .val (.ref aF), .unset, .unset, .unset] [])
      refine Goes.go (fun _ => XS.aload S.here B.x rfl (B.d at_43) rfl rfl) ?_
      show Goes _ _ _ _ T (mkF me_ 45 #[.val (.int p0), .val (.int p1), .val (.int p2), .val (.int (bi (¬ ((p2 &&& (1 : Int32)) = (0 : Int32))))), .val (.int g), .val (.ref aF), .val (.ref aF), .unset, .unset, .unset] [(.ref aF)])
      refine Goes.go (fun _ => XS.aload S.here B.x rfl (B.d at_45) rfl rfl) ?_
      show Goes _ _ _ _ T (mkF me_ 47 #[.val (.int p0), .val (.int p1), .val (.int p2), .val (.int (bi (¬ ((p2 &&& (1 : Int32)) = (0 : Int32))))), .val (.int g), .val (.ref aF), .val (.ref aF), .unset, .unset, .unset] [(.ref aF), (.ref aF)])
      refine Goes.acmp (x := (.ref aF)) (y := (.ref aF)) S B rfl rfl (pc' := 52) (same := true) at_47 (decide_eq_true rfl) (by decide) (by decide) ?_
      show Goes _ _ _ _ T (mkF me_ 52 #[.val (.int p0), .val (.int p1), .val (.int p2), .val (.int (bi (¬ ((p2 &&& (1 : Int32)) = (0 : Int32))))), .val (.int g), .val (.ref aF), .val (.ref aF), .unset, .unset, .unset] [])
      refine Goes.go (fun _ => XS.iload S.here B.x rfl (B.d at_52) rfl) ?_
      show Goes _ _ _ _ T (mkF me_ 54 #[.val (.int p0), .val (.int p1), .val (.int p2), .val (.int (bi (¬ ((p2 &&& (1 : Int32)) = (0 : Int32))))), .val (.int g), .val (.ref aF), .val (.ref aF), .unset, .unset, .unset] [(.int g)])
      refine Goes.go (fun _ => XS.i2l S.here B.x rfl (B.d at_54) rfl) ?_
      show Goes _ _ _ _ T (mkF me_ 55 #[.val (.int p0), .val (.int p1), .val (.int p2), .val (.int (bi (¬ ((p2 &&& (1 : Int32)) = (0 : Int32))))), .val (.int g), .val (.ref aF), .val (.ref aF), .unset, .unset, .unset] [(.long g.toInt64)])
      refine Goes.go (fun _ => XS.iloadN S.here B.x rfl (B.d at_55) rfl) ?_
      show Goes _ _ _ _ T (mkF me_ 56 #[.val (.int p0), .val (.int p1), .val (.int p2), .val (.int (bi (¬ ((p2 &&& (1 : Int32)) = (0 : Int32))))), .val (.int g), .val (.ref aF), .val (.ref aF), .unset, .unset, .unset] [(.int p0), (.long g.toInt64)])
      refine Goes.go (fun _ => XS.i2l S.here B.x rfl (B.d at_56) rfl) ?_
      show Goes _ _ _ _ T (mkF me_ 57 #[.val (.int p0), .val (.int p1), .val (.int p2), .val (.int (bi (¬ ((p2 &&& (1 : Int32)) = (0 : Int32))))), .val (.int g), .val (.ref aF), .val (.ref aF), .unset, .unset, .unset] [(.long p0.toInt64), (.long g.toInt64)])
      refine Goes.go (fun _ => XS.lsub S.here B.x rfl (B.d at_57) rfl) ?_
      show Goes _ _ _ _ T (mkF me_ 58 #[.val (.int p0), .val (.int p1), .val (.int p2), .val (.int (bi (¬ ((p2 &&& (1 : Int32)) = (0 : Int32))))), .val (.int g), .val (.ref aF), .val (.ref aF), .unset, .unset, .unset] [(.long (g.toInt64 - p0.toInt64))])
      refine Goes.go (fun _ => XS.lconst S.here B.x rfl (B.d at_58)) ?_
      show Goes _ _ _ _ T (mkF me_ 59 #[.val (.int p0), .val (.int p1), .val (.int p2), .val (.int (bi (¬ ((p2 &&& (1 : Int32)) = (0 : Int32))))), .val (.int g), .val (.ref aF), .val (.ref aF), .unset, .unset, .unset] [(.long (0 : Int64)), (.long (g.toInt64 - p0.toInt64))])
      refine Goes.go (fun _ => XS.lcmp S.here B.x rfl (B.d at_59) rfl) ?_
      show Goes _ _ _ _ T (mkF me_ 60 #[.val (.int p0), .val (.int p1), .val (.int p2), .val (.int (bi (¬ ((p2 &&& (1 : Int32)) = (0 : Int32))))), .val (.int g), .val (.ref aF), .val (.ref aF), .unset, .unset, .unset] [(.int (lcmpW (g.toInt64 - p0.toInt64) (0 : Int64)))])
      refine Goes.dia (P := (g.toInt64 - p0.toInt64) = (0 : Int64)) (mk := fun z => (mkF me_ 68 #[.val (.int p0), .val (.int p1), .val (.int p2), .val (.int (bi (¬ ((p2 &&& (1 : Int32)) = (0 : Int32))))), .val (.int g), .val (.ref aF), .val (.ref aF), .unset, .unset, .unset] [(.int z)])) (fun hc60 kk => ?_) (fun hc60 kk => ?_) ?_
      · skip
        refine Goes.go (fun _ => XS.ifNo S.here B.x rfl (B.d at_60) rfl ((if0 _ _).trans (teq ((lw_eq (g.toInt64 - p0.toInt64) (0 : Int64)).mpr hc60)).2)) ?_
        show Goes _ _ _ _ T (mkF me_ 63 #[.val (.int p0), .val (.int p1), .val (.int p2), .val (.int (bi (¬ ((p2 &&& (1 : Int32)) = (0 : Int32))))), .val (.int g), .val (.ref aF), .val (.ref aF), .unset, .unset, .unset] [])
        refine Goes.go (fun _ => XS.iconst S.here B.x rfl (B.d at_63)) ?_
        show Goes _ _ _ _ T (mkF me_ 64 #[.val (.int p0), .val (.int p1), .val (.int p2), .val (.int (bi (¬ ((p2 &&& (1 : Int32)) = (0 : Int32))))), .val (.int g), .val (.ref aF), .val (.ref aF), .unset, .unset, .unset] [(.int (1 : Int32))])
        refine Goes.go (fun _ => XS.goto S.here B.x rfl (pc0 := 64) (pc' := 68) rfl (B.d at_64) (by decide) (by decide)) ?_
        show Goes _ _ _ _ T (mkF me_ 68 #[.val (.int p0), .val (.int p1), .val (.int p2), .val (.int (bi (¬ ((p2 &&& (1 : Int32)) = (0 : Int32))))), .val (.int g), .val (.ref aF), .val (.ref aF), .unset, .unset, .unset] [(.int (1 : Int32))])
        exact kk
      · skip
        refine Goes.go (fun _ => XS.ifYes S.here B.x rfl (pc0 := 60) (pc' := 67) rfl (B.d at_60) rfl ((if0 _ _).trans (feq (mt (lw_eq (g.toInt64 - p0.toInt64) (0 : Int64)).mp hc60)).2) (by decide) (by decide)) ?_
        show Goes _ _ _ _ T (mkF me_ 67 #[.val (.int p0), .val (.int p1), .val (.int p2), .val (.int (bi (¬ ((p2 &&& (1 : Int32)) = (0 : Int32))))), .val (.int g), .val (.ref aF), .val (.ref aF), .unset, .unset, .unset] [])
        refine Goes.go (fun _ => XS.iconst S.here B.x rfl (B.d at_67)) ?_
        show Goes _ _ _ _ T (mkF me_ 68 #[.val (.int p0), .val (.int p1), .val (.int p2), .val (.int (bi (¬ ((p2 &&& (1 : Int32)) = (0 : Int32))))), .val (.int g), .val (.ref aF), .val (.ref aF), .unset, .unset, .unset] [(.int (0 : Int32))])
        exact kk
      show Goes _ _ _ _ T (mkF me_ 68 #[.val (.int p0), .val (.int p1), .val (.int p2), .val (.int (bi (¬ ((p2 &&& (1 : Int32)) = (0 : Int32))))), .val (.int g), .val (.ref aF), .val (.ref aF), .unset, .unset, .unset] [(.int (bi ((g.toInt64 - p0.toInt64) = (0 : Int64))))])
      refine Goes.go (fun _ => XS.istore S.here B.x rfl (B.d at_68) rfl (l' := #[.val (.int p0), .val (.int p1), .val (.int p2), .val (.int (bi (¬ ((p2 &&& (1 : Int32)) = (0 : Int32))))), .val (.int g), .val (.ref aF), .val (.ref aF), .val (.int (bi ((g.toInt64 - p0.toInt64) = (0 : Int64)))), .unset, .unset]) rfl) ?_
      show Goes _ _ _ _ T (mkF me_ 70 #[.val (.int p0), .val (.int p1), .val (.int p2), .val (.int (bi (¬ ((p2 &&& (1 : Int32)) = (0 : Int32))))), .val (.int g), .val (.ref aF), .val (.ref aF), .val (.int (bi ((g.toInt64 - p0.toInt64) = (0 : Int64)))), .unset, .unset] [])
      refine Goes.go (fun _ => XS.iloadN S.here B.x rfl (B.d at_70) rfl) ?_
      show Goes _ _ _ _ T (mkF me_ 71 #[.val (.int p0), .val (.int p1), .val (.int p2), .val (.int (bi (¬ ((p2 &&& (1 : Int32)) = (0 : Int32))))), .val (.int g), .val (.ref aF), .val (.ref aF), .val (.int (bi ((g.toInt64 - p0.toInt64) = (0 : Int64)))), .unset, .unset] [(.int (bi (¬ ((p2 &&& (1 : Int32)) = (0 : Int32)))))])
      refine Goes.go (fun _ => XS.ifYes S.here B.x rfl (pc0 := 71) (pc' := 86) rfl (B.d at_71) rfl ((if0 _ _).trans (teq (bi_neg (show ¬ (¬ ((p2 &&& (1 : Int32)) = (0 : Int32))) from hP))).1) (by decide) (by decide)) ?_
      show Goes _ _ _ _ T (mkF me_ 86 #[.val (.int p0), .val (.int p1), .val (.int p2), .val (.int (bi (¬ ((p2 &&& (1 : Int32)) = (0 : Int32))))), .val (.int g), .val (.ref aF), .val (.ref aF), .val (.int (bi ((g.toInt64 - p0.toInt64) = (0 : Int64)))), .unset, .unset] [])
      refine Goes.go (fun _ => XS.iload S.here B.x rfl (B.d at_86) rfl) ?_
      show Goes _ _ _ _ T (mkF me_ 88 #[.val (.int p0), .val (.int p1), .val (.int p2), .val (.int (bi (¬ ((p2 &&& (1 : Int32)) = (0 : Int32))))), .val (.int g), .val (.ref aF), .val (.ref aF), .val (.int (bi ((g.toInt64 - p0.toInt64) = (0 : Int64)))), .unset, .unset] [(.int (bi ((g.toInt64 - p0.toInt64) = (0 : Int64))))])
      refine Goes.go (fun _ => XS.ifNo S.here B.x rfl (B.d at_88) rfl ((if0 _ _).trans (feq (bi_ne (show (g.toInt64 - p0.toInt64) = (0 : Int64) from own_s0 hg))).1)) ?_
      show Goes _ _ _ _ T (mkF me_ 91 #[.val (.int p0), .val (.int p1), .val (.int p2), .val (.int (bi (¬ ((p2 &&& (1 : Int32)) = (0 : Int32))))), .val (.int g), .val (.ref aF), .val (.ref aF), .val (.int (bi ((g.toInt64 - p0.toInt64) = (0 : Int64)))), .unset, .unset] [])
      refine own_getS S B (w6 hw) S_FINISHED at_91 ?_
      intro T S
      show Goes _ _ _ _ T (mkF me_ 94 #[.val (.int p0), .val (.int p1), .val (.int p2), .val (.int (bi (¬ ((p2 &&& (1 : Int32)) = (0 : Int32))))), .val (.int g), .val (.ref aF), .val (.ref aF), .val (.int (bi ((g.toInt64 - p0.toInt64) = (0 : Int64)))), .unset, .unset] [(.ref aF)])
      refine Goes.go (fun _ => XS.astore S.here B.x rfl (B.d at_94) rfl rfl (l' := #[.val (.int p0), .val (.int p1), .val (.int p2), .val (.int (bi (¬ ((p2 &&& (1 : Int32)) = (0 : Int32))))), .val (.int g), .val (.ref aF), .val (.ref aF), .val (.int (bi ((g.toInt64 - p0.toInt64) = (0 : Int64)))), .val (.ref aF), .unset]) rfl) ?_
      show Goes _ _ _ _ T (mkF me_ 96 #[.val (.int p0), .val (.int p1), .val (.int p2), .val (.int (bi (¬ ((p2 &&& (1 : Int32)) = (0 : Int32))))), .val (.int g), .val (.ref aF), .val (.ref aF), .val (.int (bi ((g.toInt64 - p0.toInt64) = (0 : Int64)))), .val (.ref aF), .unset] [])
      refine own_ldcT (n := 40) (z := (8 : Int32)) (vs := own_cs_finished.map Value.int) S B (w7 hw) wS hh22 hcw ⟨by decide, by decide +kernel⟩ (by decide) (by decide) at_96 (by decide) (by decide) (by decide) (by decide) ?_
      intro T h vm1 n1 lF lFb lk S B hSin hn1 Ex E_lF F_lF_coder F_lF_value V_lFb
      have A_lFb := own_ary (n := 8) V_lFb (by decide) (by decide)
      replace S_OPEN := S_OPEN.ext Ex
      replace E_aO := E_aO.ext Ex
      replace F_aO_code := F_aO_code.ext Ex
      replace E_cO := E_cO.ext Ex
      replace F_cO_coder := F_cO_coder.ext Ex
      replace F_cO_value := F_cO_value.ext Ex
      replace A_bO := A_bO.ext Ex
      replace S_FINISHED := S_FINISHED.ext Ex
      replace E_aF := E_aF.ext Ex
      replace F_aF_code := F_aF_code.ext Ex
      replace E_cF := E_cF.ext Ex
      replace F_cF_coder := F_cF_coder.ext Ex
      replace F_cF_value := F_cF_value.ext Ex
      replace A_bF := A_bF.ext Ex
      replace S_EXPIRED := S_EXPIRED.ext Ex
      replace E_aE := E_aE.ext Ex
      replace F_aE_code := F_aE_code.ext Ex
      replace E_cE := E_cE.ext Ex
      replace F_cE_coder := F_cE_coder.ext Ex
      replace F_cE_value := F_cE_value.ext Ex
      replace A_bE := A_bE.ext Ex
      replace S_COMPACT_STRINGS := S_COMPACT_STRINGS.ext Ex
      show Goes _ _ _ _ T (mkF me_ 98 #[.val (.int p0), .val (.int p1), .val (.int p2), .val (.int (bi (¬ ((p2 &&& (1 : Int32)) = (0 : Int32))))), .val (.int g), .val (.ref aF), .val (.ref aF), .val (.int (bi ((g.toInt64 - p0.toInt64) = (0 : Int64)))), .val (.ref aF), .unset] [(.ref lF)])
      refine Goes.go (fun _ => XS.astore S.here B.x rfl (B.d at_98) rfl rfl (l' := #[.val (.int p0), .val (.int p1), .val (.int p2), .val (.int (bi (¬ ((p2 &&& (1 : Int32)) = (0 : Int32))))), .val (.int g), .val (.ref aF), .val (.ref aF), .val (.int (bi ((g.toInt64 - p0.toInt64) = (0 : Int64)))), .val (.ref aF), .val (.ref lF)]) rfl) ?_
      show Goes _ _ _ _ T (mkF me_ 100 #[.val (.int p0), .val (.int p1), .val (.int p2), .val (.int (bi (¬ ((p2 &&& (1 : Int32)) = (0 : Int32))))), .val (.int g), .val (.ref aF), .val (.ref aF), .val (.int (bi ((g.toInt64 - p0.toInt64) = (0 : Int64)))), .val (.ref aF), .val (.ref lF)] [])
      refine Goes.go (fun _ => XS.goto S.here B.x rfl (pc0 := 100) (pc' := 112) rfl (B.d at_100) (by decide) (by decide)) ?_
      show Goes _ _ _ _ T (mkF me_ 112 #[.val (.int p0), .val (.int p1), .val (.int p2), .val (.int (bi (¬ ((p2 &&& (1 : Int32)) = (0 : Int32))))), .val (.int g), .val (.ref aF), .val (.ref aF), .val (.int (bi ((g.toInt64 - p0.toInt64) = (0 : Int64)))), .val (.ref aF), .val (.ref lF)] [])
      refine Goes.go (fun _ => XS.aload S.here B.x rfl (B.d at_112) rfl rfl) ?_
      show Goes _ _ _ _ T (mkF me_ 114 #[.val (.int p0), .val (.int p1), .val (.int p2), .val (.int (bi (¬ ((p2 &&& (1 : Int32)) = (0 : Int32))))), .val (.int g), .val (.ref aF), .val (.ref aF), .val (.int (bi ((g.toInt64 - p0.toInt64) = (0 : Int64)))), .val (.ref aF), .val (.ref lF)] [(.ref aF)])
      refine Goes.go (fun _ => XS.aload S.here B.x rfl (B.d at_114) rfl rfl) ?_
      show Goes _ _ _ _ T (mkF me_ 116 #[.val (.int p0), .val (.int p1), .val (.int p2), .val (.int (bi (¬ ((p2 &&& (1 : Int32)) = (0 : Int32))))), .val (.int g), .val (.ref aF), .val (.ref aF), .val (.int (bi ((g.toInt64 - p0.toInt64) = (0 : Int64)))), .val (.ref aF), .val (.ref lF)] [(.ref aF), (.ref aF)])
      refine Goes.acmp (x := (.ref aF)) (y := (.ref aF)) S B rfl rfl (pc' := 119) (same := true) at_116 (decide_eq_true rfl) (by decide) (by decide) ?_
      show Goes _ _ _ _ T (mkF me_ 119 #[.val (.int p0), .val (.int p1), .val (.int p2), .val (.int (bi (¬ ((p2 &&& (1 : Int32)) = (0 : Int32))))), .val (.int g), .val (.ref aF), .val (.ref aF), .val (.int (bi ((g.toInt64 - p0.toInt64) = (0 : Int64)))), .val (.ref aF), .val (.ref lF)] [])
      refine Goes.go (fun _ => XS.aload S.here B.x rfl (B.d at_119) rfl rfl) ?_
      show Goes _ _ _ _ T (mkF me_ 121 #[.val (.int p0), .val (.int p1), .val (.int p2), .val (.int (bi (¬ ((p2 &&& (1 : Int32)) = (0 : Int32))))), .val (.int g), .val (.ref aF), .val (.ref aF), .val (.int (bi ((g.toInt64 - p0.toInt64) = (0 : Int64)))), .val (.ref aF), .val (.ref lF)] [(.ref aF)])
      refine Goes.callV (argsL := []) (rest := []) (W := 0) S B (rm_code l Z aw hw aF cF _ Z.heap.size F_aF_code) E_aF (w15 hw) (w16 hw) (w18 hw) (w17 hw) (w2 hw) (w19 hw) (by decide) (by decide) (by decide) (by decide) (by decide) rfl (lenOf pd_2 rfl) rfl (Nat.le_of_eq rfl) at_121 ?_
      intro v T h S hQ
      obtain ⟨rfl, hh⟩ := hQ
      replace hh := hh.symm
      subst hh
      show Goes _ _ _ _ T (mkF me_ 124 #[.val (.int p0), .val (.int p1), .val (.int p2), .val (.int (bi (¬ ((p2 &&& (1 : Int32)) = (0 : Int32))))), .val (.int g), .val (.ref aF), .val (.ref aF), .val (.int (bi ((g.toInt64 - p0.toInt64) = (0 : Int64)))), .val (.ref aF), .val (.ref lF)] [(.ref cF)])
      refine Goes.go (fun _ => XS.aload S.here B.x rfl (B.d at_124) rfl rfl) ?_
      show Goes _ _ _ _ T (mkF me_ 126 #[.val (.int p0), .val (.int p1), .val (.int p2), .val (.int (bi (¬ ((p2 &&& (1 : Int32)) = (0 : Int32))))), .val (.int g), .val (.ref aF), .val (.ref aF), .val (.int (bi ((g.toInt64 - p0.toInt64) = (0 : Int64)))), .val (.ref aF), .val (.ref lF)] [(.ref lF), (.ref cF)])
      refine Goes.callV (argsL := [(.ref lF)]) (rest := []) (W := 0) S B (rm_seq l Z aw hw cF lF bF lFb 8 (own_g own_cs_finished) gz _ Z.heap.size E_cF E_lF F_cF_coder F_lF_coder F_cF_value F_lF_value A_bF A_lFb S_COMPACT_STRINGS hgz (by decide)) E_cF (w22 hw) (w23 hw) (w25 hw) (w24 hw) (w8 hw) (w26 hw) (by decide) (by decide) (by decide) (by decide) (by decide) rfl (lenOf pd_3 rfl) rfl (Nat.le_of_eq rfl) at_126 ?_
      intro v T h S hQ
      obtain ⟨rfl, hh⟩ := hQ
      replace hh := hh.symm
      subst hh
      show Goes _ _ _ _ T (mkF me_ 129 #[.val (.int p0), .val (.int p1), .val (.int p2), .val (.int (bi (¬ ((p2 &&& (1 : Int32)) = (0 : Int32))))), .val (.int g), .val (.ref aF), .val (.ref aF), .val (.int (bi ((g.toInt64 - p0.toInt64) = (0 : Int64)))), .val (.ref aF), .val (.ref lF)] [(.int (1 : Int32))])
      refine Goes.go (fun _ => XS.ifNo S.here B.x rfl (B.d at_129) rfl (by decide)) ?_
      show Goes _ _ _ _ T (mkF me_ 132 #[.val (.int p0), .val (.int p1), .val (.int p2), .val (.int (bi (¬ ((p2 &&& (1 : Int32)) = (0 : Int32))))), .val (.int g), .val (.ref aF), .val (.ref aF), .val (.int (bi ((g.toInt64 - p0.toInt64) = (0 : Int64)))), .val (.ref aF), .val (.ref lF)] [])
      refine Goes.go (fun _ => XS.iconst S.here B.x rfl (B.d at_132)) ?_
      show Goes _ _ _ _ T (mkF me_ 133 #[.val (.int p0), .val (.int p1), .val (.int p2), .val (.int (bi (¬ ((p2 &&& (1 : Int32)) = (0 : Int32))))), .val (.int g), .val (.ref aF), .val (.ref aF), .val (.int (bi ((g.toInt64 - p0.toInt64) = (0 : Int64)))), .val (.ref aF), .val (.ref lF)] [(.int (1 : Int32))])
      refine Goes.go (fun _ => XS.goto S.here B.x rfl (pc0 := 133) (pc' := 137) rfl (B.d at_133) (by decide) (by decide)) ?_
      show Goes _ _ _ _ T (mkF me_ 137 #[.val (.int p0), .val (.int p1), .val (.int p2), .val (.int (bi (¬ ((p2 &&& (1 : Int32)) = (0 : Int32))))), .val (.int g), .val (.ref aF), .val (.ref aF), .val (.int (bi ((g.toInt64 - p0.toInt64) = (0 : Int64)))), .val (.ref aF), .val (.ref lF)] [(.int (1 : Int32))])
      exact own_retNW S B hSin hn1 (by simp) at_137 (by decide) (by decide) rfl
    · skip
      show Goes _ _ _ _ T (mkF me_ 25 #[.val (.int p0), .val (.int p1), .val (.int p2), .val (.int (bi (¬ ((p2 &&& (1 : Int32)) = (0 : Int32))))), .val (.int g), .unset, .unset, .unset, .unset, .unset] [])
      refine Goes.go (fun _ => XS.iloadN S.here B.x rfl (B.d at_25) rfl) ?_
      show Goes _ _ _ _ T (mkF me_ 26 #[.val (.int p0), .val (.int p1), .val (.int p2), .val (.int (bi (¬ ((p2 &&& (1 : Int32)) = (0 : Int32))))), .val (.int g), .unset, .unset, .unset, .unset, .unset] [(.int p0)])
      refine Goes.go (fun _ => XS.iload S.here B.x rfl (B.d at_26) rfl) ?_
      show Goes _ _ _ _ T (mkF me_ 28 #[.val (.int p0), .val (.int p1), .val (.int p2), .val (.int (bi (¬ ((p2 &&& (1 : Int32)) = (0 : Int32))))), .val (.int g), .unset, .unset, .unset, .unset, .unset] [(.int g), (.int p0)])
      refine Goes.go (fun _ => XS.iloadN S.here B.x rfl (B.d at_28) rfl) ?_
      show Goes _ _ _ _ T (mkF me_ 29 #[.val (.int p0), .val (.int p1), .val (.int p2), .val (.int (bi (¬ ((p2 &&& (1 : Int32)) = (0 : Int32))))), .val (.int g), .unset, .unset, .unset, .unset, .unset] [(.int (bi (¬ ((p2 &&& (1 : Int32)) = (0 : Int32))))), (.int g), (.int p0)])
      refine Goes.callS (argsL := [(.int p0), (.int g), (.int (bi (¬ ((p2 &&& (1 : Int32)) = (0 : Int32)))))]) (rest := []) (W := 0) S B (rm_of l Z aw hw p0 g (bi (¬ ((p2 &&& (1 : Int32)) = (0 : Int32)))) aO aF aE _ Z.heap.size S_OPEN S_FINISHED S_EXPIRED) (w0 hw) (w1 hw) (w2 hw) (w3 hw) (by decide) (by decide) (by decide) (by decide) (by decide) rfl (lenOf pd_1 rfl) rfl (Nat.le_of_eq rfl) at_29 ?_
      intro v T h S hQ
      obtain ⟨rfl, hh⟩ := hQ
      replace hh := hh.symm
      subst hh
      show Goes _ _ _ _ T (mkF me_ 32 #[.val (.int p0), .val (.int p1), .val (.int p2), .val (.int (bi (¬ ((p2 &&& (1 : Int32)) = (0 : Int32))))), .val (.int g), .unset, .unset, .unset, .unset, .unset] [(.ref (own_of p0 g (bi (¬ ((p2 &&& (1 : Int32)) = (0 : Int32)))) aO aF aE))])
      rw [show (own_of p0 g (bi (¬ ((p2 &&& (1 : Int32)) = (0 : Int32)))) aO aF aE) = aO from own_ofO hP hg]
      show Goes _ _ _ _ T (mkF me_ 32 #[.val (.int p0), .val (.int p1), .val (.int p2), .val (.int (bi (¬ ((p2 &&& (1 : Int32)) = (0 : Int32))))), .val (.int g), .unset, .unset, .unset, .unset, .unset] [(.ref aO)])
      refine Goes.go (fun _ => XS.astore S.here B.x rfl (B.d at_32) rfl rfl (l' := #[.val (.int p0), .val (.int p1), .val (.int p2), .val (.int (bi (¬ ((p2 &&& (1 : Int32)) = (0 : Int32))))), .val (.int g), .val (.ref aO), .unset, .unset, .unset, .unset]) rfl) ?_
      show Goes _ _ _ _ T (mkF me_ 34 #[.val (.int p0), .val (.int p1), .val (.int p2), .val (.int (bi (¬ ((p2 &&& (1 : Int32)) = (0 : Int32))))), .val (.int g), .val (.ref aO), .unset, .unset, .unset, .unset] [])
      refine Goes.go (fun _ => XS.iload S.here B.x rfl (B.d at_34) rfl) ?_
      show Goes _ _ _ _ T (mkF me_ 36 #[.val (.int p0), .val (.int p1), .val (.int p2), .val (.int (bi (¬ ((p2 &&& (1 : Int32)) = (0 : Int32))))), .val (.int g), .val (.ref aO), .unset, .unset, .unset, .unset] [(.int g)])
      refine Goes.go (fun _ => XS.iloadN S.here B.x rfl (B.d at_36) rfl) ?_
      show Goes _ _ _ _ T (mkF me_ 37 #[.val (.int p0), .val (.int p1), .val (.int p2), .val (.int (bi (¬ ((p2 &&& (1 : Int32)) = (0 : Int32))))), .val (.int g), .val (.ref aO), .unset, .unset, .unset, .unset] [(.int p0), (.int g)])
      refine Goes.go (fun _ => XS.iloadN S.here B.x rfl (B.d at_37) rfl) ?_
      show Goes _ _ _ _ T (mkF me_ 38 #[.val (.int p0), .val (.int p1), .val (.int p2), .val (.int (bi (¬ ((p2 &&& (1 : Int32)) = (0 : Int32))))), .val (.int g), .val (.ref aO), .unset, .unset, .unset, .unset] [(.int (bi (¬ ((p2 &&& (1 : Int32)) = (0 : Int32))))), (.int p0), (.int g)])
      refine Goes.callS (argsL := [(.int g), (.int p0), (.int (bi (¬ ((p2 &&& (1 : Int32)) = (0 : Int32)))))]) (rest := []) (W := 0) S B (rm_of l Z aw hw g p0 (bi (¬ ((p2 &&& (1 : Int32)) = (0 : Int32)))) aO aF aE _ Z.heap.size S_OPEN S_FINISHED S_EXPIRED) (w0 hw) (w1 hw) (w2 hw) (w3 hw) (by decide) (by decide) (by decide) (by decide) (by decide) rfl (lenOf pd_1 rfl) rfl (Nat.le_of_eq rfl) at_38 ?_
      intro v T h S hQ
      obtain ⟨rfl, hh⟩ := hQ
      replace hh := hh.symm
      subst hh
      show Goes _ _ _ _ T (mkF me_ 41 #[.val (.int p0), .val (.int p1), .val (.int p2), .val (.int (bi (¬ ((p2 &&& (1 : Int32)) = (0 : Int32))))), .val (.int g), .val (.ref aO), .unset, .unset, .unset, .unset] [(.ref (own_of g p0 (bi (¬ ((p2 &&& (1 : Int32)) = (0 : Int32)))) aO aF aE))])
      rw [show (own_of g p0 (bi (¬ ((p2 &&& (1 : Int32)) = (0 : Int32)))) aO aF aE) = aO from own_ofO hP (fun q => hg q.symm)]
      show Goes _ _ _ _ T (mkF me_ 41 #[.val (.int p0), .val (.int p1), .val (.int p2), .val (.int (bi (¬ ((p2 &&& (1 : Int32)) = (0 : Int32))))), .val (.int g), .val (.ref aO), .unset, .unset, .unset, .unset] [(.ref aO)])
      refine Goes.go (fun _ => XS.astore S.here B.x rfl (B.d at_41) rfl rfl (l' := #[.val (.int p0), .val (.int p1), .val (.int p2), .val (.int (bi (¬ ((p2 &&& (1 : Int32)) = (0 : Int32))))), .val (.int g), .val (.ref aO), .val (.ref aO), .unset, .unset, .unset]) rfl) ?_
      show Goes _ _ _ _ T (mkF me_ 43 #[.val (.int p0), .val (.int p1), .val (.int p2), .val (.int (bi (¬ ((p2 &&& (1 : Int32)) = (0 : Int32))))), .val (.int g), .val (.ref aO), .val (.ref aO), .unset, .unset, .unset] [])
      refine Goes.go (fun _ => XS.aload S.here B.x rfl (B.d at_43) rfl rfl) ?_
      show Goes _ _ _ _ T (mkF me_ 45 #[.val (.int p0), .val (.int p1), .val (.int p2), .val (.int (bi (¬ ((p2 &&& (1 : Int32)) = (0 : Int32))))), .val (.int g), .val (.ref aO), .val (.ref aO), .unset, .unset, .unset] [(.ref aO)])
      refine Goes.go (fun _ => XS.aload S.here B.x rfl (B.d at_45) rfl rfl) ?_
      show Goes _ _ _ _ T (mkF me_ 47 #[.val (.int p0), .val (.int p1), .val (.int p2), .val (.int (bi (¬ ((p2 &&& (1 : Int32)) = (0 : Int32))))), .val (.int g), .val (.ref aO), .val (.ref aO), .unset, .unset, .unset] [(.ref aO), (.ref aO)])
      refine Goes.acmp (x := (.ref aO)) (y := (.ref aO)) S B rfl rfl (pc' := 52) (same := true) at_47 (decide_eq_true rfl) (by decide) (by decide) ?_
      show Goes _ _ _ _ T (mkF me_ 52 #[.val (.int p0), .val (.int p1), .val (.int p2), .val (.int (bi (¬ ((p2 &&& (1 : Int32)) = (0 : Int32))))), .val (.int g), .val (.ref aO), .val (.ref aO), .unset, .unset, .unset] [])
      refine Goes.go (fun _ => XS.iload S.here B.x rfl (B.d at_52) rfl) ?_
      show Goes _ _ _ _ T (mkF me_ 54 #[.val (.int p0), .val (.int p1), .val (.int p2), .val (.int (bi (¬ ((p2 &&& (1 : Int32)) = (0 : Int32))))), .val (.int g), .val (.ref aO), .val (.ref aO), .unset, .unset, .unset] [(.int g)])
      refine Goes.go (fun _ => XS.i2l S.here B.x rfl (B.d at_54) rfl) ?_
      show Goes _ _ _ _ T (mkF me_ 55 #[.val (.int p0), .val (.int p1), .val (.int p2), .val (.int (bi (¬ ((p2 &&& (1 : Int32)) = (0 : Int32))))), .val (.int g), .val (.ref aO), .val (.ref aO), .unset, .unset, .unset] [(.long g.toInt64)])
      refine Goes.go (fun _ => XS.iloadN S.here B.x rfl (B.d at_55) rfl) ?_
      show Goes _ _ _ _ T (mkF me_ 56 #[.val (.int p0), .val (.int p1), .val (.int p2), .val (.int (bi (¬ ((p2 &&& (1 : Int32)) = (0 : Int32))))), .val (.int g), .val (.ref aO), .val (.ref aO), .unset, .unset, .unset] [(.int p0), (.long g.toInt64)])
      refine Goes.go (fun _ => XS.i2l S.here B.x rfl (B.d at_56) rfl) ?_
      show Goes _ _ _ _ T (mkF me_ 57 #[.val (.int p0), .val (.int p1), .val (.int p2), .val (.int (bi (¬ ((p2 &&& (1 : Int32)) = (0 : Int32))))), .val (.int g), .val (.ref aO), .val (.ref aO), .unset, .unset, .unset] [(.long p0.toInt64), (.long g.toInt64)])
      refine Goes.go (fun _ => XS.lsub S.here B.x rfl (B.d at_57) rfl) ?_
      show Goes _ _ _ _ T (mkF me_ 58 #[.val (.int p0), .val (.int p1), .val (.int p2), .val (.int (bi (¬ ((p2 &&& (1 : Int32)) = (0 : Int32))))), .val (.int g), .val (.ref aO), .val (.ref aO), .unset, .unset, .unset] [(.long (g.toInt64 - p0.toInt64))])
      refine Goes.go (fun _ => XS.lconst S.here B.x rfl (B.d at_58)) ?_
      show Goes _ _ _ _ T (mkF me_ 59 #[.val (.int p0), .val (.int p1), .val (.int p2), .val (.int (bi (¬ ((p2 &&& (1 : Int32)) = (0 : Int32))))), .val (.int g), .val (.ref aO), .val (.ref aO), .unset, .unset, .unset] [(.long (0 : Int64)), (.long (g.toInt64 - p0.toInt64))])
      refine Goes.go (fun _ => XS.lcmp S.here B.x rfl (B.d at_59) rfl) ?_
      show Goes _ _ _ _ T (mkF me_ 60 #[.val (.int p0), .val (.int p1), .val (.int p2), .val (.int (bi (¬ ((p2 &&& (1 : Int32)) = (0 : Int32))))), .val (.int g), .val (.ref aO), .val (.ref aO), .unset, .unset, .unset] [(.int (lcmpW (g.toInt64 - p0.toInt64) (0 : Int64)))])
      refine Goes.dia (P := (g.toInt64 - p0.toInt64) = (0 : Int64)) (mk := fun z => (mkF me_ 68 #[.val (.int p0), .val (.int p1), .val (.int p2), .val (.int (bi (¬ ((p2 &&& (1 : Int32)) = (0 : Int32))))), .val (.int g), .val (.ref aO), .val (.ref aO), .unset, .unset, .unset] [(.int z)])) (fun hc60 kk => ?_) (fun hc60 kk => ?_) ?_
      · skip
        refine Goes.go (fun _ => XS.ifNo S.here B.x rfl (B.d at_60) rfl ((if0 _ _).trans (teq ((lw_eq (g.toInt64 - p0.toInt64) (0 : Int64)).mpr hc60)).2)) ?_
        show Goes _ _ _ _ T (mkF me_ 63 #[.val (.int p0), .val (.int p1), .val (.int p2), .val (.int (bi (¬ ((p2 &&& (1 : Int32)) = (0 : Int32))))), .val (.int g), .val (.ref aO), .val (.ref aO), .unset, .unset, .unset] [])
        refine Goes.go (fun _ => XS.iconst S.here B.x rfl (B.d at_63)) ?_
        show Goes _ _ _ _ T (mkF me_ 64 #[.val (.int p0), .val (.int p1), .val (.int p2), .val (.int (bi (¬ ((p2 &&& (1 : Int32)) = (0 : Int32))))), .val (.int g), .val (.ref aO), .val (.ref aO), .unset, .unset, .unset] [(.int (1 : Int32))])
        refine Goes.go (fun _ => XS.goto S.here B.x rfl (pc0 := 64) (pc' := 68) rfl (B.d at_64) (by decide) (by decide)) ?_
        show Goes _ _ _ _ T (mkF me_ 68 #[.val (.int p0), .val (.int p1), .val (.int p2), .val (.int (bi (¬ ((p2 &&& (1 : Int32)) = (0 : Int32))))), .val (.int g), .val (.ref aO), .val (.ref aO), .unset, .unset, .unset] [(.int (1 : Int32))])
        exact kk
      · skip
        refine Goes.go (fun _ => XS.ifYes S.here B.x rfl (pc0 := 60) (pc' := 67) rfl (B.d at_60) rfl ((if0 _ _).trans (feq (mt (lw_eq (g.toInt64 - p0.toInt64) (0 : Int64)).mp hc60)).2) (by decide) (by decide)) ?_
        show Goes _ _ _ _ T (mkF me_ 67 #[.val (.int p0), .val (.int p1), .val (.int p2), .val (.int (bi (¬ ((p2 &&& (1 : Int32)) = (0 : Int32))))), .val (.int g), .val (.ref aO), .val (.ref aO), .unset, .unset, .unset] [])
        refine Goes.go (fun _ => XS.iconst S.here B.x rfl (B.d at_67)) ?_
        show Goes _ _ _ _ T (mkF me_ 68 #[.val (.int p0), .val (.int p1), .val (.int p2), .val (.int (bi (¬ ((p2 &&& (1 : Int32)) = (0 : Int32))))), .val (.int g), .val (.ref aO), .val (.ref aO), .unset, .unset, .unset] [(.int (0 : Int32))])
        exact kk
      show Goes _ _ _ _ T (mkF me_ 68 #[.val (.int p0), .val (.int p1), .val (.int p2), .val (.int (bi (¬ ((p2 &&& (1 : Int32)) = (0 : Int32))))), .val (.int g), .val (.ref aO), .val (.ref aO), .unset, .unset, .unset] [(.int (bi ((g.toInt64 - p0.toInt64) = (0 : Int64))))])
      refine Goes.go (fun _ => XS.istore S.here B.x rfl (B.d at_68) rfl (l' := #[.val (.int p0), .val (.int p1), .val (.int p2), .val (.int (bi (¬ ((p2 &&& (1 : Int32)) = (0 : Int32))))), .val (.int g), .val (.ref aO), .val (.ref aO), .val (.int (bi ((g.toInt64 - p0.toInt64) = (0 : Int64)))), .unset, .unset]) rfl) ?_
      show Goes _ _ _ _ T (mkF me_ 70 #[.val (.int p0), .val (.int p1), .val (.int p2), .val (.int (bi (¬ ((p2 &&& (1 : Int32)) = (0 : Int32))))), .val (.int g), .val (.ref aO), .val (.ref aO), .val (.int (bi ((g.toInt64 - p0.toInt64) = (0 : Int64)))), .unset, .unset] [])
      refine Goes.go (fun _ => XS.iloadN S.here B.x rfl (B.d at_70) rfl) ?_
      show Goes _ _ _ _ T (mkF me_ 71 #[.val (.int p0), .val (.int p1), .val (.int p2), .val (.int (bi (¬ ((p2 &&& (1 : Int32)) = (0 : Int32))))), .val (.int g), .val (.ref aO), .val (.ref aO), .val (.int (bi ((g.toInt64 - p0.toInt64) = (0 : Int64)))), .unset, .unset] [(.int (bi (¬ ((p2 &&& (1 : Int32)) = (0 : Int32)))))])
      refine Goes.go (fun _ => XS.ifYes S.here B.x rfl (pc0 := 71) (pc' := 86) rfl (B.d at_71) rfl ((if0 _ _).trans (teq (bi_neg (show ¬ (¬ ((p2 &&& (1 : Int32)) = (0 : Int32))) from hP))).1) (by decide) (by decide)) ?_
      show Goes _ _ _ _ T (mkF me_ 86 #[.val (.int p0), .val (.int p1), .val (.int p2), .val (.int (bi (¬ ((p2 &&& (1 : Int32)) = (0 : Int32))))), .val (.int g), .val (.ref aO), .val (.ref aO), .val (.int (bi ((g.toInt64 - p0.toInt64) = (0 : Int64)))), .unset, .unset] [])
      refine Goes.go (fun _ => XS.iload S.here B.x rfl (B.d at_86) rfl) ?_
      show Goes _ _ _ _ T (mkF me_ 88 #[.val (.int p0), .val (.int p1), .val (.int p2), .val (.int (bi (¬ ((p2 &&& (1 : Int32)) = (0 : Int32))))), .val (.int g), .val (.ref aO), .val (.ref aO), .val (.int (bi ((g.toInt64 - p0.toInt64) = (0 : Int64)))), .unset, .unset] [(.int (bi ((g.toInt64 - p0.toInt64) = (0 : Int64))))])
      refine Goes.go (fun _ => XS.ifYes S.here B.x rfl (pc0 := 88) (pc' := 103) rfl (B.d at_88) rfl ((if0 _ _).trans (teq (bi_neg (show ¬ ((g.toInt64 - p0.toInt64) = (0 : Int64)) from own_s1 hg))).1) (by decide) (by decide)) ?_
      show Goes _ _ _ _ T (mkF me_ 103 #[.val (.int p0), .val (.int p1), .val (.int p2), .val (.int (bi (¬ ((p2 &&& (1 : Int32)) = (0 : Int32))))), .val (.int g), .val (.ref aO), .val (.ref aO), .val (.int (bi ((g.toInt64 - p0.toInt64) = (0 : Int64)))), .unset, .unset] [])
      refine own_getS S B (w42 hw) S_OPEN at_103 ?_
      intro T S
      show Goes _ _ _ _ T (mkF me_ 106 #[.val (.int p0), .val (.int p1), .val (.int p2), .val (.int (bi (¬ ((p2 &&& (1 : Int32)) = (0 : Int32))))), .val (.int g), .val (.ref aO), .val (.ref aO), .val (.int (bi ((g.toInt64 - p0.toInt64) = (0 : Int64)))), .unset, .unset] [(.ref aO)])
      refine Goes.go (fun _ => XS.astore S.here B.x rfl (B.d at_106) rfl rfl (l' := #[.val (.int p0), .val (.int p1), .val (.int p2), .val (.int (bi (¬ ((p2 &&& (1 : Int32)) = (0 : Int32))))), .val (.int g), .val (.ref aO), .val (.ref aO), .val (.int (bi ((g.toInt64 - p0.toInt64) = (0 : Int64)))), .val (.ref aO), .unset]) rfl) ?_
      show Goes _ _ _ _ T (mkF me_ 108 #[.val (.int p0), .val (.int p1), .val (.int p2), .val (.int (bi (¬ ((p2 &&& (1 : Int32)) = (0 : Int32))))), .val (.int g), .val (.ref aO), .val (.ref aO), .val (.int (bi ((g.toInt64 - p0.toInt64) = (0 : Int64)))), .val (.ref aO), .unset] [])
      refine own_ldcT (n := 40) (z := (4 : Int32)) (vs := own_cs_open.map Value.int) S B (w43 hw) wS hh27 hcw ⟨by decide, by decide +kernel⟩ (by decide) (by decide) at_108 (by decide) (by decide) (by decide) (by decide) ?_
      intro T h vm1 n1 lO lOb lk S B hSin hn1 Ex E_lO F_lO_coder F_lO_value V_lOb
      have A_lOb := own_ary (n := 4) V_lOb (by decide) (by decide)
      replace S_OPEN := S_OPEN.ext Ex
      replace E_aO := E_aO.ext Ex
      replace F_aO_code := F_aO_code.ext Ex
      replace E_cO := E_cO.ext Ex
      replace F_cO_coder := F_cO_coder.ext Ex
      replace F_cO_value := F_cO_value.ext Ex
      replace A_bO := A_bO.ext Ex
      replace S_FINISHED := S_FINISHED.ext Ex
      replace E_aF := E_aF.ext Ex
      replace F_aF_code := F_aF_code.ext Ex
      replace E_cF := E_cF.ext Ex
      replace F_cF_coder := F_cF_coder.ext Ex
      replace F_cF_value := F_cF_value.ext Ex
      replace A_bF := A_bF.ext Ex
      replace S_EXPIRED := S_EXPIRED.ext Ex
      replace E_aE := E_aE.ext Ex
      replace F_aE_code := F_aE_code.ext Ex
      replace E_cE := E_cE.ext Ex
      replace F_cE_coder := F_cE_coder.ext Ex
      replace F_cE_value := F_cE_value.ext Ex
      replace A_bE := A_bE.ext Ex
      replace S_COMPACT_STRINGS := S_COMPACT_STRINGS.ext Ex
      show Goes _ _ _ _ T (mkF me_ 110 #[.val (.int p0), .val (.int p1), .val (.int p2), .val (.int (bi (¬ ((p2 &&& (1 : Int32)) = (0 : Int32))))), .val (.int g), .val (.ref aO), .val (.ref aO), .val (.int (bi ((g.toInt64 - p0.toInt64) = (0 : Int64)))), .val (.ref aO), .unset] [(.ref lO)])
      refine Goes.go (fun _ => XS.astore S.here B.x rfl (B.d at_110) rfl rfl (l' := #[.val (.int p0), .val (.int p1), .val (.int p2), .val (.int (bi (¬ ((p2 &&& (1 : Int32)) = (0 : Int32))))), .val (.int g), .val (.ref aO), .val (.ref aO), .val (.int (bi ((g.toInt64 - p0.toInt64) = (0 : Int64)))), .val (.ref aO), .val (.ref lO)]) rfl) ?_
      show Goes _ _ _ _ T (mkF me_ 112 #[.val (.int p0), .val (.int p1), .val (.int p2), .val (.int (bi (¬ ((p2 &&& (1 : Int32)) = (0 : Int32))))), .val (.int g), .val (.ref aO), .val (.ref aO), .val (.int (bi ((g.toInt64 - p0.toInt64) = (0 : Int64)))), .val (.ref aO), .val (.ref lO)] [])
      refine Goes.go (fun _ => XS.aload S.here B.x rfl (B.d at_112) rfl rfl) ?_
      show Goes _ _ _ _ T (mkF me_ 114 #[.val (.int p0), .val (.int p1), .val (.int p2), .val (.int (bi (¬ ((p2 &&& (1 : Int32)) = (0 : Int32))))), .val (.int g), .val (.ref aO), .val (.ref aO), .val (.int (bi ((g.toInt64 - p0.toInt64) = (0 : Int64)))), .val (.ref aO), .val (.ref lO)] [(.ref aO)])
      refine Goes.go (fun _ => XS.aload S.here B.x rfl (B.d at_114) rfl rfl) ?_
      show Goes _ _ _ _ T (mkF me_ 116 #[.val (.int p0), .val (.int p1), .val (.int p2), .val (.int (bi (¬ ((p2 &&& (1 : Int32)) = (0 : Int32))))), .val (.int g), .val (.ref aO), .val (.ref aO), .val (.int (bi ((g.toInt64 - p0.toInt64) = (0 : Int64)))), .val (.ref aO), .val (.ref lO)] [(.ref aO), (.ref aO)])
      refine Goes.acmp (x := (.ref aO)) (y := (.ref aO)) S B rfl rfl (pc' := 119) (same := true) at_116 (decide_eq_true rfl) (by decide) (by decide) ?_
      show Goes _ _ _ _ T (mkF me_ 119 #[.val (.int p0), .val (.int p1), .val (.int p2), .val (.int (bi (¬ ((p2 &&& (1 : Int32)) = (0 : Int32))))), .val (.int g), .val (.ref aO), .val (.ref aO), .val (.int (bi ((g.toInt64 - p0.toInt64) = (0 : Int64)))), .val (.ref aO), .val (.ref lO)] [])
      refine Goes.go (fun _ => XS.aload S.here B.x rfl (B.d at_119) rfl rfl) ?_
      show Goes _ _ _ _ T (mkF me_ 121 #[.val (.int p0), .val (.int p1), .val (.int p2), .val (.int (bi (¬ ((p2 &&& (1 : Int32)) = (0 : Int32))))), .val (.int g), .val (.ref aO), .val (.ref aO), .val (.int (bi ((g.toInt64 - p0.toInt64) = (0 : Int64)))), .val (.ref aO), .val (.ref lO)] [(.ref aO)])
      refine Goes.callV (argsL := []) (rest := []) (W := 0) S B (rm_code l Z aw hw aO cO _ Z.heap.size F_aO_code) E_aO (w15 hw) (w16 hw) (w18 hw) (w17 hw) (w2 hw) (w19 hw) (by decide) (by decide) (by decide) (by decide) (by decide) rfl (lenOf pd_2 rfl) rfl (Nat.le_of_eq rfl) at_121 ?_
      intro v T h S hQ
      obtain ⟨rfl, hh⟩ := hQ
      replace hh := hh.symm
      subst hh
      show Goes _ _ _ _ T (mkF me_ 124 #[.val (.int p0), .val (.int p1), .val (.int p2), .val (.int (bi (¬ ((p2 &&& (1 : Int32)) = (0 : Int32))))), .val (.int g), .val (.ref aO), .val (.ref aO), .val (.int (bi ((g.toInt64 - p0.toInt64) = (0 : Int64)))), .val (.ref aO), .val (.ref lO)] [(.ref cO)])
      refine Goes.go (fun _ => XS.aload S.here B.x rfl (B.d at_124) rfl rfl) ?_
      show Goes _ _ _ _ T (mkF me_ 126 #[.val (.int p0), .val (.int p1), .val (.int p2), .val (.int (bi (¬ ((p2 &&& (1 : Int32)) = (0 : Int32))))), .val (.int g), .val (.ref aO), .val (.ref aO), .val (.int (bi ((g.toInt64 - p0.toInt64) = (0 : Int64)))), .val (.ref aO), .val (.ref lO)] [(.ref lO), (.ref cO)])
      refine Goes.callV (argsL := [(.ref lO)]) (rest := []) (W := 0) S B (rm_seq l Z aw hw cO lO bO lOb 4 (own_g own_cs_open) gz _ Z.heap.size E_cO E_lO F_cO_coder F_lO_coder F_cO_value F_lO_value A_bO A_lOb S_COMPACT_STRINGS hgz (by decide)) E_cO (w22 hw) (w23 hw) (w25 hw) (w24 hw) (w8 hw) (w26 hw) (by decide) (by decide) (by decide) (by decide) (by decide) rfl (lenOf pd_3 rfl) rfl (Nat.le_of_eq rfl) at_126 ?_
      intro v T h S hQ
      obtain ⟨rfl, hh⟩ := hQ
      replace hh := hh.symm
      subst hh
      show Goes _ _ _ _ T (mkF me_ 129 #[.val (.int p0), .val (.int p1), .val (.int p2), .val (.int (bi (¬ ((p2 &&& (1 : Int32)) = (0 : Int32))))), .val (.int g), .val (.ref aO), .val (.ref aO), .val (.int (bi ((g.toInt64 - p0.toInt64) = (0 : Int64)))), .val (.ref aO), .val (.ref lO)] [(.int (1 : Int32))])
      refine Goes.go (fun _ => XS.ifNo S.here B.x rfl (B.d at_129) rfl (by decide)) ?_
      show Goes _ _ _ _ T (mkF me_ 132 #[.val (.int p0), .val (.int p1), .val (.int p2), .val (.int (bi (¬ ((p2 &&& (1 : Int32)) = (0 : Int32))))), .val (.int g), .val (.ref aO), .val (.ref aO), .val (.int (bi ((g.toInt64 - p0.toInt64) = (0 : Int64)))), .val (.ref aO), .val (.ref lO)] [])
      refine Goes.go (fun _ => XS.iconst S.here B.x rfl (B.d at_132)) ?_
      show Goes _ _ _ _ T (mkF me_ 133 #[.val (.int p0), .val (.int p1), .val (.int p2), .val (.int (bi (¬ ((p2 &&& (1 : Int32)) = (0 : Int32))))), .val (.int g), .val (.ref aO), .val (.ref aO), .val (.int (bi ((g.toInt64 - p0.toInt64) = (0 : Int64)))), .val (.ref aO), .val (.ref lO)] [(.int (1 : Int32))])
      refine Goes.go (fun _ => XS.goto S.here B.x rfl (pc0 := 133) (pc' := 137) rfl (B.d at_133) (by decide) (by decide)) ?_
      show Goes _ _ _ _ T (mkF me_ 137 #[.val (.int p0), .val (.int p1), .val (.int p2), .val (.int (bi (¬ ((p2 &&& (1 : Int32)) = (0 : Int32))))), .val (.int g), .val (.ref aO), .val (.ref aO), .val (.int (bi ((g.toInt64 - p0.toInt64) = (0 : Int64)))), .val (.ref aO), .val (.ref lO)] [(.int (1 : Int32))])
      exact own_retNW S B hSin hn1 (by simp) at_137 (by decide) (by decide) rfl
  refine Goes.go (fun _ => XS.iloadN S.here B.x rfl (B.d at_12) rfl) ?_
  show Goes _ _ _ _ T (mkF me_ 13 #[.val (.int p0), .val (.int p1), .val (.int p2), .val (.int (bi (¬ ((p2 &&& (1 : Int32)) = (0 : Int32))))), .unset, .unset, .unset, .unset, .unset, .unset] [(.int p2)])
  refine Goes.go (fun _ => XS.iconst S.here B.x rfl (B.d at_13)) ?_
  show Goes _ _ _ _ T (mkF me_ 14 #[.val (.int p0), .val (.int p1), .val (.int p2), .val (.int (bi (¬ ((p2 &&& (1 : Int32)) = (0 : Int32))))), .unset, .unset, .unset, .unset, .unset, .unset] [(.int (2 : Int32)), (.int p2)])
  refine Goes.go (fun _ => XS.iand S.here B.x rfl (B.d at_14) rfl) ?_
  show Goes _ _ _ _ T (mkF me_ 15 #[.val (.int p0), .val (.int p1), .val (.int p2), .val (.int (bi (¬ ((p2 &&& (1 : Int32)) = (0 : Int32))))), .unset, .unset, .unset, .unset, .unset, .unset] [(.int (p2 &&& (2 : Int32)))])
  by_cases hc15 : (p2 &&& (2 : Int32)) = (0 : Int32)
  · skip
    refine Goes.go (fun _ => XS.ifYes S.here B.x rfl (pc0 := 15) (pc' := 22) rfl (B.d at_15) rfl ((if0 _ _).trans (teq hc15).1) (by decide) (by decide)) ?_
    show Goes _ _ _ _ T (mkF me_ 22 #[.val (.int p0), .val (.int p1), .val (.int p2), .val (.int (bi (¬ ((p2 &&& (1 : Int32)) = (0 : Int32))))), .unset, .unset, .unset, .unset, .unset, .unset] [])
    refine Goes.go (fun _ => XS.iloadN S.here B.x rfl (B.d at_22) rfl) ?_
    show Goes _ _ _ _ T (mkF me_ 23 #[.val (.int p0), .val (.int p1), .val (.int p2), .val (.int (bi (¬ ((p2 &&& (1 : Int32)) = (0 : Int32))))), .unset, .unset, .unset, .unset, .unset, .unset] [(.int p1)])
    exact J1 T p1 S
  · skip
    refine Goes.go (fun _ => XS.ifNo S.here B.x rfl (B.d at_15) rfl ((if0 _ _).trans (feq hc15).1)) ?_
    show Goes _ _ _ _ T (mkF me_ 18 #[.val (.int p0), .val (.int p1), .val (.int p2), .val (.int (bi (¬ ((p2 &&& (1 : Int32)) = (0 : Int32))))), .unset, .unset, .unset, .unset, .unset, .unset] [])
    refine Goes.go (fun _ => XS.iloadN S.here B.x rfl (B.d at_18) rfl) ?_
    show Goes _ _ _ _ T (mkF me_ 19 #[.val (.int p0), .val (.int p1), .val (.int p2), .val (.int (bi (¬ ((p2 &&& (1 : Int32)) = (0 : Int32))))), .unset, .unset, .unset, .unset, .unset, .unset] [(.int p0)])
    refine Goes.go (fun _ => XS.goto S.here B.x rfl (pc0 := 19) (pc' := 23) rfl (B.d at_19) (by decide) (by decide)) ?_
    show Goes _ _ _ _ T (mkF me_ 23 #[.val (.int p0), .val (.int p1), .val (.int p2), .val (.int (bi (¬ ((p2 &&& (1 : Int32)) = (0 : Int32))))), .unset, .unset, .unset, .unset, .unset, .unset] [(.int p0)])
    exact J1 T p0 S
set_option maxRecDepth 65536 in
set_option maxHeartbeats 40000000 in
theorem comes_1 {Post : Tables → Env → Array Value → State → Outcome → State → Prop} (hpost : ∀ tb e args s v u, (limb_1_1.after args s (.returned v) u = true ∧ limb_1_2.after args s (.returned v) u = true ∧ True) → FramedW s (.returned v) u (Jvm.fieldLocs frame_1_writes args s ++ Jvm.arrayLocs frame_1_arrays args s ++ Jvm.staticLocs frame_1_statics s) 8 3136 → Post tb e args s (.returned v) u) :
    ArmFor flags0 classFile x code maxLocals ret World_1 tables_1 room_1 Calls_1 rest_1 Pre_1 Post := by
  intro l hfl _ _ p e ha hc hk s m args below hf hA hF happ hP
  obtain ⟨hcalls, hrest, hpre⟩ := hP
  obtain ⟨-, -, -, hnamed, -, -, -, hat⟩ := (Spec.applies_iff hf).mp happ
  obtain ⟨hg, hn⟩ := and_e (Cond.before_iff.mp (show (Jvm.Cond.and given_1 narrow_1).before args s = true from hpre))
  obtain ⟨g0, k0⟩ := and_e hg
  obtain ⟨g1, k1⟩ := and_e k0
  obtain ⟨g2, g3⟩ := and_e k1
  obtain ⟨w0, w1, w2, rfl⟩ : ∃ w0 w1 w2 : Value, args = #[w0, w1, w2] := by
    have hs : args.size = 3 := by simpa [Cond.value, given_1] using g0
    obtain ⟨L⟩ := args
    match L, hs with
    | [w0, w1, w2], _ => exact ⟨w0, w1, w2, rfl⟩
  have hw := fun d (hd : d ∈ tables_1) => atoms_spec (ws := Jvm.Cond.code x code maxLocals ret :: tables_1) hat d (List.mem_cons_of_mem _ hd)
  obtain ⟨hsets, hown0⟩ := atoms_of _ (rest_1_c_eq ▸ (show rest_1_c.before _ s = true from hrest))
  have hfit : Fit s := fun {y c} hc i hi => by
    obtain ⟨ha, rfl⟩ := Array.getElem?_eq_some_iff.mp hc
    have q := List.all_eq_true.mp ((Array.all_eq_true_iff_forall_mem.mp hF) _ (Array.getElem_mem ha)) i (List.mem_range.mpr hi)
    simpa [Array.getElem?_eq_getElem hi] using q
  obtain ⟨i0, ei0⟩ := is_v g1
  obtain rfl : w0 = (.int i0) := Option.some.inj ei0
  obtain ⟨i1, ei1⟩ := is_v g2
  obtain rfl : w1 = (.int i1) := Option.some.inj ei1
  obtain ⟨i2, ei2⟩ := is_v g3
  obtain rfl : w2 = (.int i2) := Option.some.inj ei2
  have n3 := not_v (Cond.before_iff.mp (hsets _ (List.mem_of_getElem? (i := 2) rfl)))
  obtain ⟨i7, e6⟩ := is_v (Cond.before_iff.mp (hsets _ (List.mem_of_getElem? (i := 1) rfl)))
  have S8 : Sta s s.heap "java/lang/String" "COMPACT_STRINGS" "Z" (.int i7) := Sta.start e6 (Or.inl (hsets _ (List.mem_of_getElem? (i := 0) rfl)))
  have c13 : ¬ (i7 = (0 : Int32)) := gotF (Cond.eq_ints e6 (Term.int_eval (0))) n3
  obtain ⟨q0, r0⟩ := and_e hn
  obtain ⟨q1, r1⟩ := and_e r0
  obtain ⟨q2, r2⟩ := and_e r1
  obtain ⟨q3, r3⟩ := and_e r2
  obtain ⟨q4, r4⟩ := and_e r3
  obtain ⟨q5, r5⟩ := and_e r4
  obtain ⟨q6, r6⟩ := and_e r5
  obtain ⟨q7, r7⟩ := and_e r6
  obtain ⟨q8, r8⟩ := and_e r7
  obtain ⟨q9, r9⟩ := and_e r8
  obtain ⟨q10, r10⟩ := and_e r9
  obtain ⟨q11, r11⟩ := and_e r10
  obtain ⟨q12, r12⟩ := and_e r11
  obtain ⟨q13, r13⟩ := and_e r12
  obtain ⟨q14, r14⟩ := and_e r13
  obtain ⟨q15, r15⟩ := and_e r14
  obtain ⟨q16, r16⟩ := and_e r15
  obtain ⟨q17, r17⟩ := and_e r16
  obtain ⟨q18, r18⟩ := and_e r17
  obtain ⟨q19, r19⟩ := and_e r18
  obtain ⟨q20, r20⟩ := and_e r19
  obtain ⟨q21, r21⟩ := and_e r20
  obtain ⟨q22, r22⟩ := and_e r21
  obtain ⟨q23, r23⟩ := and_e r22
  obtain ⟨q24, r24⟩ := and_e r23
  obtain ⟨q25, r25⟩ := and_e r24
  obtain ⟨q26, r26⟩ := and_e r25
  obtain ⟨q27, r27⟩ := and_e r26
  obtain ⟨q28, r28⟩ := and_e r27
  obtain ⟨q29, r29⟩ := and_e r28
  obtain ⟨q30, r30⟩ := and_e r29
  obtain ⟨q31, r31⟩ := and_e r30
  obtain ⟨q32, r32⟩ := and_e r31
  have q33 := r32
  obtain ⟨aO, cO, bO, P1_aO, P2_aO, P3_aO, P4_aO, P5_aO, P6_aO, P7_aO⟩ := own_pin (cs := own_cs_open) (n := 4) hfit (w2 hw) (w41 hw) q10 q11 q12 q13 q14 ⟨q15, q16, q17, q18, trivial⟩ (by decide) (by decide) (by decide) rfl
  obtain ⟨aF, cF, bF, P1_aF, P2_aF, P3_aF, P4_aF, P5_aF, P6_aF, P7_aF⟩ := own_pin (cs := own_cs_finished) (n := 8) hfit (w2 hw) (w5 hw) q0 q1 q2 q3 q4 ⟨q19, q20, q21, q22, q23, q24, q25, q26, trivial⟩ (by decide) (by decide) (by decide) rfl
  obtain ⟨aE, cE, bE, P1_aE, P2_aE, P3_aE, P4_aE, P5_aE, P6_aE, P7_aE⟩ := own_pin (cs := own_cs_expired) (n := 7) hfit (w2 hw) (w37 hw) q5 q6 q7 q8 q9 ⟨q27, q28, q29, q30, q31, q32, q33, trivial⟩ (by decide) (by decide) (by decide) rfl
  have wS : ∀ d ∈ Bundle.stringAtoms, d.before _ s = true := fun d hd => hw d ((by decide +kernel : ∀ d ∈ Bundle.stringAtoms, d ∈ tables_1) d hd)
  have hh17 : Jvm.Lit.constHeld s "com/example/sum_to_shares/sumtoshares/engine/PacketStateOfPinLaw" 17 := hcalls.1 ("com/example/sum_to_shares/sumtoshares/engine/PacketStateOfPinLaw", 17) (by simp [consts_1])
  have hh22 : Jvm.Lit.constHeld s "com/example/sum_to_shares/sumtoshares/engine/PacketStateOfPinLaw" 22 := hcalls.1 ("com/example/sum_to_shares/sumtoshares/engine/PacketStateOfPinLaw", 22) (by simp [consts_1])
  have hh27 : Jvm.Lit.constHeld s "com/example/sum_to_shares/sumtoshares/engine/PacketStateOfPinLaw" 27 := hcalls.1 ("com/example/sum_to_shares/sumtoshares/engine/PacketStateOfPinLaw", 27) (by simp [consts_1])
  obtain ⟨n, o, h1, h2, h3, _, L, rfl, ⟨N, rfl⟩, hq⟩ := rm0 l s _ hw i0 i1 i2 aO cO bO aF cF bF aE cE bE i7 P1_aO P2_aO P3_aO P4_aO P5_aO P6_aO P7_aO P1_aF P2_aF P3_aF P4_aF P5_aF P6_aF P7_aF P1_aE P2_aE P3_aE P4_aE P5_aE P6_aE P7_aE S8 c13 wS (hsets _ (List.mem_of_getElem? (i := 2) rfl)) hh17 hh22 hh27 tables_1 p e ha hc hk s m _ below hf ((Spec.applies_iff_loose hf).mp happ).1 ⟨rfl, rfl⟩ trivial
  refine ⟨n, _, h1, h2, h3, hpost _ _ _ _ _ _ ⟨Cond.after_iff.mpr rfl, Cond.after_iff.mpr (eq_i res_at (Term.int_eval (1)) rfl), trivial⟩ ⟨hq.1, hq.2.1, hq.2.2.1, (hq.2.2.2.sift fun y hy => Or.inr (N y hy)).mono (by decide) (by decide)⟩⟩
theorem main_1_1 : Claimed_1_1 := comes_1 fun _ _ _ _ _ _ h hF => ⟨h.1, hF⟩
theorem main_1_2 : Claimed_1_2 := comes_1 fun _ _ _ _ _ _ h hF => ⟨h.2.1, hF⟩
end Jvm.Pilot.@@N@@
namespace Jvm.Pilot.@@N@@
open Jvm Jvm.ClassFile Sem Op Lib Jvm.Free Jvm.Stand Jvm.Pilot.@@N@@.Jvm.D
/-! MADE BY PROGRAM (witnessworld.py) out of the Statement's table words and the real class files: 16 classes; the members and pool entries that the words name. The judged class is class 1, her method 1. -/
namespace start1
open Jvm.ClassFile
def u (s : String) : CpInfo := .utf8 (stringToUtf16 s)
/-- a pool by its gaps: so many unusable entries, then the entry; so many at the end -/
def gap : Nat → List CpInfo → List CpInfo
  | 0, r => r
  | n + 1, r => .unusable :: gap n r
def poolList (es : List (Nat × CpInfo)) (last : Nat) : List CpInfo := es.foldr (fun e r => gap e.1 (e.2 :: r)) (gap last [])
def pool (es : List (Nat × CpInfo)) (last : Nat) : Array CpInfo := ⟨poolList es last⟩
def fileOf (pool : Array CpInfo) (this : Nat) (attrs : Array Attribute := #[]) (ms : Array MethodInfo := #[]) (fl : Nat := 33) (sup : Nat := 0) (ifs : Array Nat := #[]) (fds : Array FieldInfo := #[]) : ClassFile where
  minorVersion := 0
  majorVersion := 65
  constantPool := pool
  accessFlags := fl
  thisClass := this
  superClass := sup
  interfaces := ifs
  fields := fds
  methods := ms
  attributes := attrs
def plain (name : String) (sup : Option ClassId) : Class where
  name := name
  kind := .ordinary
  loader := none
  accessFlags := 33
  super := sup
  interfaces := #[]
  cf := none
  fields := #[]
  methods := #[]
  instanceTypes := #[]
  staticTypes := #[]
  resolved := #[]
  callSites := []
  init := .initialized
  statics := none
  mirror := none

def pool0 : Array CpInfo := pool [(5, u "<init>"), (0, u "()V"), (1, .class_ 10), (1, u "java/lang/Object")] 113

def k0m0 : Method := { name := "<init>", desc := "()V", sig := { parameters := [], returnType := none }, accessFlags := 1, code := none }
/-- java/lang/Object -/
def k0 : Class := { plain "java/lang/Object" none with
  accessFlags := 33
  interfaces := #[]
  cf := some (fileOf pool0 8 #[] #[{ accessFlags := 1, nameIndex := 5, descriptorIndex := 6, attributes := #[] }] 33 0 #[] #[])
  fields := #[]
  methods := #[k0m0]
  instanceTypes := #[]
  staticTypes := #[]
  resolved := Array.replicate 124 none
  statics := none }

def pool1 : Array CpInfo := pool [(2, .class_ 4), (1, u "java/lang/Object"), (0, u "<init>"), (0, u "()V"), (0, .methodref 8 9), (0, .class_ 10), (0, .nameAndType 11 12), (0, u "com/example/sum_to_shares/sumtoshares/engine/PacketState"), (0, u "of"), (0, u "(IIZ)Lcom/example/sum_to_shares/sumtoshares/engine/PacketState;"), (0, .fieldref 8 14), (0, .nameAndType 15 16), (0, u "EXPIRED"), (0, u "Lcom/example/sum_to_shares/sumtoshares/engine/PacketState;"), (0, .string 18), (0, u "expired"), (0, .fieldref 8 20), (0, .nameAndType 21 16), (0, u "FINISHED"), (0, .string 23), (0, u "finished"), (0, .fieldref 8 25), (0, .nameAndType 26 16), (0, u "OPEN"), (0, .string 28), (0, u "open"), (0, .methodref 8 30), (0, .nameAndType 31 32), (0, u "code"), (0, u "()Ljava/lang/String;"), (0, .methodref 34 35), (0, .class_ 36), (0, .nameAndType 37 38), (0, u "java/lang/String"), (0, u "equals"), (0, u "(Ljava/lang/Object;)Z"), (0, .class_ 40), (0, u "com/example/sum_to_shares/sumtoshares/engine/PacketStateOfPinLaw"), (2, u "law"), (0, u "(III)Z")] 3

def k1m0 : Method := { name := "<init>", desc := "()V", sig := { parameters := [], returnType := none }, accessFlags := 1, code := none }
def k1c1 : Code := { maxStack := 4, maxLocals := 10, code := code, exceptionTable := #[], attributes := #[] }
def k1m1 : Method := { name := "law", desc := "(III)Z", sig := { parameters := [.int, .int, .int], returnType := some .boolean }, accessFlags := 9, code := some k1c1 }
/-- com/example/sum_to_shares/sumtoshares/engine/PacketStateOfPinLaw -/
def k1 : Class := { plain "com/example/sum_to_shares/sumtoshares/engine/PacketStateOfPinLaw" (some 0) with
  accessFlags := 49
  interfaces := #[]
  cf := some (fileOf pool1 39 #[] #[{ accessFlags := 1, nameIndex := 5, descriptorIndex := 6, attributes := #[] }, { accessFlags := 9, nameIndex := 43, descriptorIndex := 44, attributes := #[] }] 49 2 #[] #[])
  fields := #[]
  methods := #[k1m0, k1m1]
  instanceTypes := #[]
  staticTypes := #[]
  resolved := Array.replicate 48 none
  statics := none }

def pool2 : Array CpInfo := pool [(1, .class_ 2), (0, u "java/lang/constant/Constable"), (0, .class_ 4), (0, u "java/lang/Object")] 6

/-- java/lang/constant/Constable -/
def k2 : Class := { plain "java/lang/constant/Constable" (some 0) with
  accessFlags := 1537
  interfaces := #[]
  cf := some (fileOf pool2 1 #[] #[] 1537 3 #[] #[])
  fields := #[]
  methods := #[]
  instanceTypes := #[]
  staticTypes := #[]
  resolved := Array.replicate 11 none
  statics := none }

def pool3 : Array CpInfo := pool [(1, .class_ 2), (0, u "java/lang/Comparable"), (0, .class_ 4), (0, u "java/lang/Object")] 7

/-- java/lang/Comparable -/
def k3 : Class := { plain "java/lang/Comparable" (some 0) with
  accessFlags := 1537
  interfaces := #[]
  cf := some (fileOf pool3 1 #[] #[] 1537 3 #[] #[])
  fields := #[]
  methods := #[]
  instanceTypes := #[]
  staticTypes := #[]
  resolved := Array.replicate 12 none
  statics := none }

def pool4 : Array CpInfo := pool [(1, .class_ 2), (0, u "java/io/Serializable"), (0, .class_ 4), (0, u "java/lang/Object")] 2

/-- java/io/Serializable -/
def k4 : Class := { plain "java/io/Serializable" (some 0) with
  accessFlags := 1537
  interfaces := #[]
  cf := some (fileOf pool4 1 #[] #[] 1537 3 #[] #[])
  fields := #[]
  methods := #[]
  instanceTypes := #[]
  staticTypes := #[]
  resolved := Array.replicate 7 none
  statics := none }

def pool5 : Array CpInfo := pool [(2, .class_ 4), (1, u "java/lang/Enum"), (0, u "name"), (0, u "Ljava/lang/String;"), (2, u "ordinal"), (0, u "I"), (1, .class_ 14), (1, u "java/lang/Object"), (4, u "hash"), (86, .class_ 108), (1, u "java/lang/Enum$EnumDesc"), (2, .class_ 112), (0, u "java/lang/constant/Constable"), (0, .class_ 114), (0, u "java/lang/Comparable"), (0, .class_ 116), (0, u "java/io/Serializable")] 87

/-- java/lang/Enum -/
def k5 : Class := { plain "java/lang/Enum" (some 0) with
  accessFlags := 1057
  interfaces := #[2, 3, 4]
  cf := some (fileOf pool5 2 #[.nestMembers #[106]] #[] 1057 12 #[111, 113, 115] #[{ accessFlags := 18, nameIndex := 5, descriptorIndex := 6, attributes := #[] }, { accessFlags := 18, nameIndex := 9, descriptorIndex := 10, attributes := #[] }, { accessFlags := 2, nameIndex := 19, descriptorIndex := 10, attributes := #[] }])
  fields := #[{ name := "name", type := (.object "java/lang/String"), accessFlags := 18, slot := 0, constantValue := 0 }, { name := "ordinal", type := .int, accessFlags := 18, slot := 1, constantValue := 0 }, { name := "hash", type := .int, accessFlags := 2, slot := 2, constantValue := 0 }]
  methods := #[]
  instanceTypes := #[(.object "java/lang/String"), .int, .int]
  staticTypes := #[]
  resolved := Array.replicate 204 none
  statics := none }

def pool6 : Array CpInfo := pool [(1, .class_ 2), (0, u "com/example/sum_to_shares/sumtoshares/engine/PacketState"), (0, .fieldref 1 4), (0, .nameAndType 5 6), (0, u "OPEN"), (0, u "Lcom/example/sum_to_shares/sumtoshares/engine/PacketState;"), (0, .fieldref 1 8), (0, .nameAndType 9 6), (0, u "FINISHED"), (0, .fieldref 1 11), (0, .nameAndType 12 6), (0, u "EXPIRED"), (2, u "$VALUES"), (0, u "[Lcom/example/sum_to_shares/sumtoshares/engine/PacketState;"), (6, .class_ 25), (1, u "java/lang/Enum"), (6, .fieldref 1 33), (0, .nameAndType 34 35), (0, u "code"), (0, u "Ljava/lang/String;"), (23, u "of"), (0, u "(IIZ)Lcom/example/sum_to_shares/sumtoshares/engine/PacketState;"), (1, u "()Ljava/lang/String;")] 5

def k6c0 : Code := { maxStack := 2, maxLocals := 4, code := prog_16_method_4_code, exceptionTable := #[], attributes := #[] }
def k6m0 : Method := { name := "of", desc := "(IIZ)Lcom/example/sum_to_shares/sumtoshares/engine/PacketState;", sig := { parameters := [.int, .int, .boolean], returnType := some (.object "com/example/sum_to_shares/sumtoshares/engine/PacketState") }, accessFlags := 8, code := some k6c0 }
def k6c1 : Code := { maxStack := 1, maxLocals := 1, code := prog_16_method_5_code, exceptionTable := #[], attributes := #[] }
def k6m1 : Method := { name := "code", desc := "()Ljava/lang/String;", sig := { parameters := [], returnType := some (.object "java/lang/String") }, accessFlags := 1, code := some k6c1 }
/-- com/example/sum_to_shares/sumtoshares/engine/PacketState -/
def k6 : Class := { plain "com/example/sum_to_shares/sumtoshares/engine/PacketState" (some 5) with
  accessFlags := 16433
  interfaces := #[]
  cf := some (fileOf pool6 1 #[] #[{ accessFlags := 8, nameIndex := 59, descriptorIndex := 60, attributes := #[] }, { accessFlags := 1, nameIndex := 34, descriptorIndex := 62, attributes := #[] }] 16433 23 #[] #[{ accessFlags := 16409, nameIndex := 5, descriptorIndex := 6, attributes := #[] }, { accessFlags := 16409, nameIndex := 9, descriptorIndex := 6, attributes := #[] }, { accessFlags := 16409, nameIndex := 12, descriptorIndex := 6, attributes := #[] }, { accessFlags := 18, nameIndex := 34, descriptorIndex := 35, attributes := #[] }, { accessFlags := 4122, nameIndex := 15, descriptorIndex := 16, attributes := #[] }])
  fields := #[{ name := "OPEN", type := (.object "com/example/sum_to_shares/sumtoshares/engine/PacketState"), accessFlags := 16409, slot := 0, constantValue := 0 }, { name := "FINISHED", type := (.object "com/example/sum_to_shares/sumtoshares/engine/PacketState"), accessFlags := 16409, slot := 1, constantValue := 0 }, { name := "EXPIRED", type := (.object "com/example/sum_to_shares/sumtoshares/engine/PacketState"), accessFlags := 16409, slot := 2, constantValue := 0 }, { name := "code", type := (.object "java/lang/String"), accessFlags := 18, slot := 3, constantValue := 0 }, { name := "$VALUES", type := (.array (.object "com/example/sum_to_shares/sumtoshares/engine/PacketState")), accessFlags := 4122, slot := 3, constantValue := 0 }]
  methods := #[k6m0, k6m1]
  instanceTypes := #[(.object "java/lang/String"), .int, .int, (.object "java/lang/String")]
  staticTypes := #[(.object "com/example/sum_to_shares/sumtoshares/engine/PacketState"), (.object "com/example/sum_to_shares/sumtoshares/engine/PacketState"), (.object "com/example/sum_to_shares/sumtoshares/engine/PacketState"), (.array (.object "com/example/sum_to_shares/sumtoshares/engine/PacketState"))]
  resolved := Array.replicate 68 none
  statics := some 0 }

def pool7 : Array CpInfo := pool [(2, .class_ 4), (1, u "java/lang/CharSequence"), (42, .class_ 48), (0, u "java/lang/CharSequence$1CodePointIterator"), (10, .class_ 60), (0, u "java/lang/CharSequence$1CharIterator"), (5, .class_ 67), (0, u "java/lang/Object")] 63

/-- java/lang/CharSequence -/
def k7 : Class := { plain "java/lang/CharSequence" (some 0) with
  accessFlags := 1537
  interfaces := #[]
  cf := some (fileOf pool7 2 #[.nestMembers #[47, 59]] #[] 1537 66 #[] #[])
  fields := #[]
  methods := #[]
  instanceTypes := #[]
  staticTypes := #[]
  resolved := Array.replicate 131 none
  statics := none }

def pool8 : Array CpInfo := pool [(1, .class_ 2), (0, u "java/lang/constant/ConstantDesc"), (0, .class_ 4), (0, u "java/lang/Object")] 32

/-- java/lang/constant/ConstantDesc -/
def k8 : Class := { plain "java/lang/constant/ConstantDesc" (some 0) with
  accessFlags := 1537
  interfaces := #[]
  cf := some (fileOf pool8 1 #[] #[] 1537 3 #[] #[])
  fields := #[]
  methods := #[]
  instanceTypes := #[]
  staticTypes := #[]
  resolved := Array.replicate 37 none
  statics := none }

def pool9 : Array CpInfo := pool [(2, .class_ 4), (1, u "java/lang/Object"), (0, u "<init>"), (0, u "()V"), (2, .fieldref 10 11), (0, .class_ 12), (0, .nameAndType 13 14), (0, u "java/lang/String"), (0, u "value"), (0, u "[B"), (0, .fieldref 10 16), (0, .nameAndType 17 18), (0, u "coder"), (0, u "B"), (2, u "hash"), (0, u "I"), (2, u "hashIsZero"), (0, u "Z"), (11, .fieldref 10 39), (0, .nameAndType 40 26), (0, u "COMPACT_STRINGS"), (66, .class_ 109), (1, u "java/lang/StringLatin1"), (431, .methodref 107 542), (0, .nameAndType 543 544), (0, u "equals"), (0, u "([B[B)Z"), (28, u "(Ljava/lang/Object;)Z"), (1, .class_ 576), (0, u "java/lang/CharSequence"), (22, u "CASE_INSENSITIVE_ORDER"), (0, u "Ljava/util/Comparator;"), (500, u "serialPersistentFields"), (0, u "[Ljava/io/ObjectStreamField;"), (0, .class_ 1104), (0, u "java/lang/String$CaseInsensitiveComparator"), (1, .class_ 1107), (0, u "java/io/Serializable"), (0, .class_ 1109), (0, u "java/lang/Comparable"), (0, .class_ 1111), (0, u "java/lang/constant/Constable"), (0, .class_ 1113), (0, u "java/lang/constant/ConstantDesc"), (2, u "serialVersionUID"), (0, u "J"), (3, u "REPL"), (0, u "C"), (2, u "LATIN1"), (1, u "UTF16")] 323

def k9m0 : Method := { name := "<init>", desc := "()V", sig := { parameters := [], returnType := none }, accessFlags := 1, code := none }
def k9c1 : Code := { maxStack := 2, maxLocals := 3, code := jdk_42_method_66_code, exceptionTable := #[], attributes := #[] }
def k9m1 : Method := { name := "equals", desc := "(Ljava/lang/Object;)Z", sig := { parameters := [(.object "java/lang/Object")], returnType := some .boolean }, accessFlags := 1, code := some k9c1 }
/-- java/lang/String -/
def k9 : Class := { plain "java/lang/String" (some 0) with
  accessFlags := 49
  interfaces := #[4, 3, 7, 2, 8]
  cf := some (fileOf pool9 10 #[.nestMembers #[1103]] #[{ accessFlags := 1, nameIndex := 5, descriptorIndex := 6, attributes := #[] }, { accessFlags := 1, nameIndex := 543, descriptorIndex := 573, attributes := #[] }] 49 2 #[1106, 1108, 575, 1110, 1112] #[{ accessFlags := 18, nameIndex := 13, descriptorIndex := 14, attributes := #[] }, { accessFlags := 18, nameIndex := 17, descriptorIndex := 18, attributes := #[] }, { accessFlags := 2, nameIndex := 21, descriptorIndex := 22, attributes := #[] }, { accessFlags := 2, nameIndex := 25, descriptorIndex := 26, attributes := #[] }, { accessFlags := 26, nameIndex := 1116, descriptorIndex := 1117, attributes := #[] }, { accessFlags := 24, nameIndex := 40, descriptorIndex := 26, attributes := #[] }, { accessFlags := 26, nameIndex := 1101, descriptorIndex := 1102, attributes := #[] }, { accessFlags := 26, nameIndex := 1121, descriptorIndex := 1122, attributes := #[] }, { accessFlags := 25, nameIndex := 599, descriptorIndex := 600, attributes := #[] }, { accessFlags := 24, nameIndex := 1125, descriptorIndex := 18, attributes := #[] }, { accessFlags := 24, nameIndex := 1127, descriptorIndex := 18, attributes := #[] }])
  fields := #[{ name := "value", type := (.array .byte), accessFlags := 18, slot := 0, constantValue := 0 }, { name := "coder", type := .byte, accessFlags := 18, slot := 1, constantValue := 0 }, { name := "hash", type := .int, accessFlags := 2, slot := 2, constantValue := 0 }, { name := "hashIsZero", type := .boolean, accessFlags := 2, slot := 3, constantValue := 0 }, { name := "serialVersionUID", type := .long, accessFlags := 26, slot := 0, constantValue := 0 }, { name := "COMPACT_STRINGS", type := .boolean, accessFlags := 24, slot := 1, constantValue := 0 }, { name := "serialPersistentFields", type := (.array (.object "java/io/ObjectStreamField")), accessFlags := 26, slot := 2, constantValue := 0 }, { name := "REPL", type := .char, accessFlags := 26, slot := 3, constantValue := 0 }, { name := "CASE_INSENSITIVE_ORDER", type := (.object "java/util/Comparator"), accessFlags := 25, slot := 4, constantValue := 0 }, { name := "LATIN1", type := .byte, accessFlags := 24, slot := 5, constantValue := 0 }, { name := "UTF16", type := .byte, accessFlags := 24, slot := 6, constantValue := 0 }]
  methods := #[k9m0, k9m1]
  instanceTypes := #[(.array .byte), .byte, .int, .boolean]
  staticTypes := #[.long, .boolean, (.array (.object "java/io/ObjectStreamField")), .char, (.object "java/util/Comparator"), .byte, .byte]
  resolved := Array.replicate 1451 none
  statics := some 1 }

def pool10 : Array CpInfo := pool [(4, .class_ 6), (1, u "java/lang/Object"), (0, u "<init>"), (0, u "()V"), (5, .class_ 16), (1, u "java/lang/StringLatin1"), (104, u "$assertionsDisabled"), (0, u "Z"), (98, .class_ 223), (1, u "java/lang/StringLatin1$LinesSpliterator"), (57, u "equals"), (0, u "([B[B)Z"), (107, .class_ 391), (0, u "java/lang/StringLatin1$CharsSpliterator")] 3

def k10m0 : Method := { name := "<init>", desc := "()V", sig := { parameters := [], returnType := none }, accessFlags := 0, code := none }
def k10c1 : Code := { maxStack := 3, maxLocals := 3, code := jdk_43_method_13_code, exceptionTable := #[], attributes := #[] }
def k10m1 : Method := { name := "equals", desc := "([B[B)Z", sig := { parameters := [(.array .byte), (.array .byte)], returnType := some .boolean }, accessFlags := 9, code := some k10c1 }
/-- java/lang/StringLatin1 -/
def k10 : Class := { plain "java/lang/StringLatin1" (some 0) with
  accessFlags := 48
  interfaces := #[]
  cf := some (fileOf pool10 14 #[.nestMembers #[390, 221]] #[{ accessFlags := 0, nameIndex := 7, descriptorIndex := 8, attributes := #[] }, { accessFlags := 9, nameIndex := 281, descriptorIndex := 282, attributes := #[] }] 48 4 #[] #[{ accessFlags := 4120, nameIndex := 121, descriptorIndex := 122, attributes := #[] }])
  fields := #[{ name := "$assertionsDisabled", type := .boolean, accessFlags := 4120, slot := 0, constantValue := 0 }]
  methods := #[k10m0, k10m1]
  instanceTypes := #[]
  staticTypes := #[.boolean]
  resolved := Array.replicate 395 none
  statics := none }

def pool11 : Array CpInfo := pool [(2, .class_ 4), (1, u "java/lang/Object"), (0, u "<init>"), (0, u "()V"), (17, .class_ 26), (1, u "jdk/internal/util/Preconditions"), (28, .class_ 56), (0, u "jdk/internal/util/Preconditions$4"), (57, .class_ 115), (0, u "jdk/internal/util/Preconditions$1"), (7, u "SIOOBE_FORMATTER"), (0, u "Ljava/util/function/BiFunction;"), (0, .class_ 126), (0, u "jdk/internal/util/Preconditions$2"), (3, u "AIOOBE_FORMATTER"), (0, .class_ 132), (0, u "jdk/internal/util/Preconditions$3"), (3, u "IOOBE_FORMATTER")] 57

def k11m0 : Method := { name := "<init>", desc := "()V", sig := { parameters := [], returnType := none }, accessFlags := 1, code := none }
/-- jdk/internal/util/Preconditions -/
def k11 : Class := { plain "jdk/internal/util/Preconditions" (some 0) with
  accessFlags := 33
  interfaces := #[]
  cf := some (fileOf pool11 24 #[.nestMembers #[55, 131, 125, 114]] #[{ accessFlags := 1, nameIndex := 5, descriptorIndex := 6, attributes := #[] }] 33 2 #[] #[{ accessFlags := 25, nameIndex := 123, descriptorIndex := 124, attributes := #[] }, { accessFlags := 25, nameIndex := 130, descriptorIndex := 124, attributes := #[] }, { accessFlags := 25, nameIndex := 136, descriptorIndex := 124, attributes := #[] }])
  fields := #[{ name := "SIOOBE_FORMATTER", type := (.object "java/util/function/BiFunction"), accessFlags := 25, slot := 0, constantValue := 0 }, { name := "AIOOBE_FORMATTER", type := (.object "java/util/function/BiFunction"), accessFlags := 25, slot := 1, constantValue := 0 }, { name := "IOOBE_FORMATTER", type := (.object "java/util/function/BiFunction"), accessFlags := 25, slot := 2, constantValue := 0 }]
  methods := #[k11m0]
  instanceTypes := #[]
  staticTypes := #[(.object "java/util/function/BiFunction"), (.object "java/util/function/BiFunction"), (.object "java/util/function/BiFunction")]
  resolved := Array.replicate 194 none
  statics := some 2 }

def pool12 : Array CpInfo := pool [(9, u "<init>"), (6, .class_ 18), (1, u "java/lang/Object"), (0, u "()V"), (1, .class_ 23), (1, u "jdk/internal/util/ArraysSupport"), (0, u "LOG2_ARRAY_LONG_INDEX_SCALE"), (0, u "I"), (2, u "U"), (0, u "Ljdk/internal/misc/Unsafe;"), (8, u "BIG_ENDIAN"), (0, u "Z"), (8, u "LOG2_BYTE_BIT_SIZE"), (4, u "LOG2_ARRAY_INT_INDEX_SCALE"), (54, u "JLA"), (0, u "Ljdk/internal/access/JavaLangAccess;"), (11, u "LOG2_ARRAY_BOOLEAN_INDEX_SCALE"), (9, u "LOG2_ARRAY_BYTE_INDEX_SCALE"), (5, u "LOG2_ARRAY_CHAR_INDEX_SCALE"), (5, u "LOG2_ARRAY_SHORT_INDEX_SCALE"), (18, u "LOG2_ARRAY_FLOAT_INDEX_SCALE"), (24, u "LOG2_ARRAY_DOUBLE_INDEX_SCALE"), (89, u "T_BOOLEAN"), (2, u "T_CHAR"), (1, u "T_FLOAT"), (1, u "T_DOUBLE"), (1, u "T_BYTE"), (1, u "T_SHORT"), (1, u "T_INT"), (1, u "T_LONG"), (1, u "SOFT_MAX_ARRAY_LENGTH")] 83

def k12m0 : Method := { name := "<init>", desc := "()V", sig := { parameters := [], returnType := none }, accessFlags := 2, code := none }
/-- jdk/internal/util/ArraysSupport -/
def k12 : Class := { plain "jdk/internal/util/ArraysSupport" (some 0) with
  accessFlags := 33
  interfaces := #[]
  cf := some (fileOf pool12 21 #[] #[{ accessFlags := 2, nameIndex := 9, descriptorIndex := 19, attributes := #[] }] 33 16 #[] #[{ accessFlags := 24, nameIndex := 28, descriptorIndex := 29, attributes := #[] }, { accessFlags := 26, nameIndex := 38, descriptorIndex := 39, attributes := #[] }, { accessFlags := 25, nameIndex := 121, descriptorIndex := 25, attributes := #[] }, { accessFlags := 25, nameIndex := 131, descriptorIndex := 25, attributes := #[] }, { accessFlags := 25, nameIndex := 137, descriptorIndex := 25, attributes := #[] }, { accessFlags := 25, nameIndex := 143, descriptorIndex := 25, attributes := #[] }, { accessFlags := 25, nameIndex := 53, descriptorIndex := 25, attributes := #[] }, { accessFlags := 25, nameIndex := 24, descriptorIndex := 25, attributes := #[] }, { accessFlags := 25, nameIndex := 162, descriptorIndex := 25, attributes := #[] }, { accessFlags := 25, nameIndex := 187, descriptorIndex := 25, attributes := #[] }, { accessFlags := 26, nameIndex := 48, descriptorIndex := 25, attributes := #[] }, { accessFlags := 25, nameIndex := 277, descriptorIndex := 25, attributes := #[] }, { accessFlags := 25, nameIndex := 280, descriptorIndex := 25, attributes := #[] }, { accessFlags := 25, nameIndex := 282, descriptorIndex := 25, attributes := #[] }, { accessFlags := 25, nameIndex := 284, descriptorIndex := 25, attributes := #[] }, { accessFlags := 25, nameIndex := 286, descriptorIndex := 25, attributes := #[] }, { accessFlags := 25, nameIndex := 288, descriptorIndex := 25, attributes := #[] }, { accessFlags := 25, nameIndex := 290, descriptorIndex := 25, attributes := #[] }, { accessFlags := 25, nameIndex := 292, descriptorIndex := 25, attributes := #[] }, { accessFlags := 26, nameIndex := 108, descriptorIndex := 109, attributes := #[] }, { accessFlags := 25, nameIndex := 294, descriptorIndex := 25, attributes := #[] }])
  fields := #[{ name := "U", type := (.object "jdk/internal/misc/Unsafe"), accessFlags := 24, slot := 0, constantValue := 0 }, { name := "BIG_ENDIAN", type := .boolean, accessFlags := 26, slot := 1, constantValue := 0 }, { name := "LOG2_ARRAY_BOOLEAN_INDEX_SCALE", type := .int, accessFlags := 25, slot := 2, constantValue := 0 }, { name := "LOG2_ARRAY_BYTE_INDEX_SCALE", type := .int, accessFlags := 25, slot := 3, constantValue := 0 }, { name := "LOG2_ARRAY_CHAR_INDEX_SCALE", type := .int, accessFlags := 25, slot := 4, constantValue := 0 }, { name := "LOG2_ARRAY_SHORT_INDEX_SCALE", type := .int, accessFlags := 25, slot := 5, constantValue := 0 }, { name := "LOG2_ARRAY_INT_INDEX_SCALE", type := .int, accessFlags := 25, slot := 6, constantValue := 0 }, { name := "LOG2_ARRAY_LONG_INDEX_SCALE", type := .int, accessFlags := 25, slot := 7, constantValue := 0 }, { name := "LOG2_ARRAY_FLOAT_INDEX_SCALE", type := .int, accessFlags := 25, slot := 8, constantValue := 0 }, { name := "LOG2_ARRAY_DOUBLE_INDEX_SCALE", type := .int, accessFlags := 25, slot := 9, constantValue := 0 }, { name := "LOG2_BYTE_BIT_SIZE", type := .int, accessFlags := 26, slot := 10, constantValue := 0 }, { name := "T_BOOLEAN", type := .int, accessFlags := 25, slot := 11, constantValue := 0 }, { name := "T_CHAR", type := .int, accessFlags := 25, slot := 12, constantValue := 0 }, { name := "T_FLOAT", type := .int, accessFlags := 25, slot := 13, constantValue := 0 }, { name := "T_DOUBLE", type := .int, accessFlags := 25, slot := 14, constantValue := 0 }, { name := "T_BYTE", type := .int, accessFlags := 25, slot := 15, constantValue := 0 }, { name := "T_SHORT", type := .int, accessFlags := 25, slot := 16, constantValue := 0 }, { name := "T_INT", type := .int, accessFlags := 25, slot := 17, constantValue := 0 }, { name := "T_LONG", type := .int, accessFlags := 25, slot := 18, constantValue := 0 }, { name := "JLA", type := (.object "jdk/internal/access/JavaLangAccess"), accessFlags := 26, slot := 19, constantValue := 0 }, { name := "SOFT_MAX_ARRAY_LENGTH", type := .int, accessFlags := 25, slot := 20, constantValue := 0 }]
  methods := #[k12m0]
  instanceTypes := #[]
  staticTypes := #[(.object "jdk/internal/misc/Unsafe"), .boolean, .int, .int, .int, .int, .int, .int, .int, .int, .int, .int, .int, .int, .int, .int, .int, .int, .int, (.object "jdk/internal/access/JavaLangAccess"), .int]
  resolved := Array.replicate 378 none
  statics := none }

def pool13 : Array CpInfo := pool [(1, u "java/lang/Cloneable"), (0, .class_ 1), (0, u "java/lang/Object"), (0, .class_ 3)] 3

/-- java/lang/Cloneable -/
def k13 : Class := { plain "java/lang/Cloneable" (some 0) with
  accessFlags := 1537
  interfaces := #[]
  cf := some (fileOf pool13 2 #[] #[] 1537 4 #[] #[])
  fields := #[]
  methods := #[]
  instanceTypes := #[]
  staticTypes := #[]
  resolved := Array.replicate 8 none
  statics := none }

/-- the primitive byte -/
def k14 : Class := { plain "byte" none with kind := .primitive 'B', accessFlags := 0x411 }
/-- [B -/
def k15 : Class := { plain "[B" (some 0) with kind := .array 14 .byte, interfaces := #[13, 4], accessFlags := 1041 }

def heap : Heap := #[{ cls := 6, slots := #[.ref 9, .ref 10, .ref 11, .null], vm := .statics 6 },
  { cls := 9, slots := #[.long 0, .int 1, .null, .int 0, .null, .int 0, .int 0], vm := .statics 9 },
  { cls := 11, slots := #[.null, .null, .null], vm := .statics 11 },
  { cls := 15, slots := #[.int 111, .int 112, .int 101, .int 110], vm := .none },
  { cls := 15, slots := #[.int 102, .int 105, .int 110, .int 105, .int 115, .int 104, .int 101, .int 100], vm := .none },
  { cls := 15, slots := #[.int 101, .int 120, .int 112, .int 105, .int 114, .int 101, .int 100], vm := .none },
  { cls := 9, slots := #[.ref 3, .int 0, .int 0, .int 0], vm := .none },
  { cls := 9, slots := #[.ref 4, .int 0, .int 0, .int 0], vm := .none },
  { cls := 9, slots := #[.ref 5, .int 0, .int 0, .int 0], vm := .none },
  { cls := 6, slots := #[.null, .int 0, .int 0, .ref 6], vm := .none },
  { cls := 6, slots := #[.null, .int 1, .int 0, .ref 7], vm := .none },
  { cls := 6, slots := #[.null, .int 2, .int 0, .ref 8], vm := .none }]
def classes : Array Class := #[k0, k1, k2, k3, k4, k5, k6, k7, k8, k9, k10, k11, k12, k13, k14, k15]
def interned : List (Array UInt16 × Addr) := []
def slotsUsed : Nat := 57
def theMethod : MethodId := ⟨1, 1⟩
def args0 : Array Value := #[.int 5, .int 3, .int 0]
def aboutOver (below : List Frame) : State where
  vm := { classes := classes, interned := interned.toArray }
  heap := heap
  slotsUsed := slotsUsed
  threads := #[{ frames := .invoking theMethod args0 :: below }]
def below0 : List Frame := [.native { method := ⟨0, 0⟩, args := #[] }]
def about1 : State := aboutOver below0
def p0 : Program := .bare "" "" ""
def e0 : Env := launch0.env 0 0 0
theorem w_frames : about1.frames = Frame.invoking theMethod args0 :: below0 := rfl
set_option maxRecDepth 65536 in
theorem w_args : argsFit about1.vm theMethod args0 = true := by decide +kernel
set_option maxRecDepth 65536 in
theorem w_heap : heapFits about1 = true := by decide +kernel
set_option maxRecDepth 65536 in
theorem w_runnable : about1.curStatus? = some .runnable := by decide +kernel
set_option maxRecDepth 65536 in
theorem w_alone : about1.alone = true := by decide +kernel
set_option maxRecDepth 65536 in
theorem w_named : about1.methodNamed? x = some theMethod := by decide +kernel
set_option maxRecDepth 65536 in
theorem w_hears : about1.hears theMethod below0 = true := by decide +kernel
set_option maxRecDepth 65536 in
theorem w_ripe : about1.ripe theMethod args0 below0 = true := by decide +kernel
theorem w_running : about1.status = .running := rfl
set_option maxRecDepth 65536 in
theorem w_room : about1.hasRoom e0.platform room_1 = true :=
  launch0.hasRoom_least _ room_1 (by decide +kernel) (by decide +kernel) (by decide +kernel) (by decide +kernel) (by decide +kernel) (by decide +kernel)
theorem allAtoms_all (ts : List Jvm.Cond) (a : Array Jvm.Value) (st : Jvm.State) : (allAtoms ts).before a st = ts.all (fun c => c.before a st) := by
  induction ts with
  | nil => rfl
  | cons c t ih =>
    show (Jvm.Cond.and c (allAtoms t)).before a st = _
    rw [Jvm.Cond.before_and, ih, List.all_cons]
def words1 : List Jvm.Cond := Jvm.Cond.code x code maxLocals ret :: tables_1
/-- a 'code' word, met by the world's own term for the bytes: nothing is compared byte by byte -/
theorem code_word {y : MethodName} {bytes : ByteArray} {mx : Nat} {rt : Option FieldType} {a : Array Value} {s : State} {m : MethodId} {meth : Method} {c : Code} (h1 : s.methodNamed? y = some m) (h2 : s.vm.method? m = some meth) (h3 : meth.code = some c) (h4 : c.code = bytes)
    (h5 : (c.maxLocals == mx && c.exceptionTable.isEmpty && decide (c.maxStack ≤ mostOperands) && decide (meth.sig.returnType = rt) && !meth.locks && decide (parseMethodDescriptor y.desc = some meth.sig)) = true) : (Jvm.Cond.code y bytes mx rt).before a s = true := by
  simp only [Bool.and_eq_true, beq_iff_eq, Bool.not_eq_true', decide_eq_true_eq] at h5
  obtain ⟨⟨⟨⟨⟨g1, g2⟩, g3⟩, g4⟩, g5⟩, g6⟩ := h5
  simp [Cond.before, Cond.holds, Cond.value, h1, h2, h3, h4, g1, g2, g3, g4, g5, g6]
def isCode : Jvm.Cond → Bool
  | .code _ _ _ _ => true
  | _ => false
theorem all_split {L : List Jvm.Cond} {P : Jvm.Cond → Bool} (h1 : L.all (fun c => isCode c || P c) = true) (h2 : ∀ c ∈ L.filter isCode, P c = true) : L.all P = true := by
  refine List.all_eq_true.mpr fun c hc => ?_
  have h := List.all_eq_true.mp h1 c hc
  rcases Bool.eq_false_or_eq_true (isCode c) with hi | hi
  · exact h2 c (List.mem_filter.mpr ⟨hc, hi⟩)
  · simpa [hi] using h
set_option maxRecDepth 65536 in
theorem w_c0 : (Jvm.Cond.code x code maxLocals ret).before args0 about1 = true := code_word (m := ⟨1, 1⟩) (meth := k1m1) (c := k1c1) (by decide +kernel) rfl rfl rfl (by decide +kernel)
set_option maxRecDepth 65536 in
theorem w_c1 : (Jvm.Cond.code ({ cls := "com/example/sum_to_shares/sumtoshares/engine/PacketState", name := "of", desc := "(IIZ)Lcom/example/sum_to_shares/sumtoshares/engine/PacketState;" } : Jvm.MethodName) prog_16_method_4_code (4 : Nat) (Option.some (Jvm.ClassFile.FieldType.object "com/example/sum_to_shares/sumtoshares/engine/PacketState"))).before args0 about1 = true := code_word (m := ⟨6, 0⟩) (meth := k6m0) (c := k6c0) (by decide +kernel) rfl rfl rfl (by decide +kernel)
set_option maxRecDepth 65536 in
theorem w_c2 : (Jvm.Cond.code ({ cls := "com/example/sum_to_shares/sumtoshares/engine/PacketState", name := "code", desc := "()Ljava/lang/String;" } : Jvm.MethodName) prog_16_method_5_code (1 : Nat) (Option.some (Jvm.ClassFile.FieldType.object "java/lang/String"))).before args0 about1 = true := code_word (m := ⟨6, 1⟩) (meth := k6m1) (c := k6c1) (by decide +kernel) rfl rfl rfl (by decide +kernel)
set_option maxRecDepth 65536 in
theorem w_c3 : (Jvm.Cond.code ({ cls := "java/lang/String", name := "equals", desc := "(Ljava/lang/Object;)Z" } : Jvm.MethodName) jdk_42_method_66_code (3 : Nat) (Option.some Jvm.ClassFile.FieldType.boolean)).before args0 about1 = true := code_word (m := ⟨9, 1⟩) (meth := k9m1) (c := k9c1) (by decide +kernel) rfl rfl rfl (by decide +kernel)
set_option maxRecDepth 65536 in
theorem w_c4 : (Jvm.Cond.code ({ cls := "java/lang/StringLatin1", name := "equals", desc := "([B[B)Z" } : Jvm.MethodName) jdk_43_method_13_code (3 : Nat) (Option.some Jvm.ClassFile.FieldType.boolean)).before args0 about1 = true := code_word (m := ⟨10, 1⟩) (meth := k10m1) (c := k10c1) (by decide +kernel) rfl rfl rfl (by decide +kernel)
def codes1 : List Jvm.Cond := [Jvm.Cond.code x code maxLocals ret, Jvm.Cond.code ({ cls := "com/example/sum_to_shares/sumtoshares/engine/PacketState", name := "of", desc := "(IIZ)Lcom/example/sum_to_shares/sumtoshares/engine/PacketState;" } : Jvm.MethodName) prog_16_method_4_code (4 : Nat) (Option.some (Jvm.ClassFile.FieldType.object "com/example/sum_to_shares/sumtoshares/engine/PacketState")), Jvm.Cond.code ({ cls := "com/example/sum_to_shares/sumtoshares/engine/PacketState", name := "code", desc := "()Ljava/lang/String;" } : Jvm.MethodName) prog_16_method_5_code (1 : Nat) (Option.some (Jvm.ClassFile.FieldType.object "java/lang/String")), Jvm.Cond.code ({ cls := "java/lang/String", name := "equals", desc := "(Ljava/lang/Object;)Z" } : Jvm.MethodName) jdk_42_method_66_code (3 : Nat) (Option.some Jvm.ClassFile.FieldType.boolean), Jvm.Cond.code ({ cls := "java/lang/StringLatin1", name := "equals", desc := "([B[B)Z" } : Jvm.MethodName) jdk_43_method_13_code (3 : Nat) (Option.some Jvm.ClassFile.FieldType.boolean)]
set_option maxRecDepth 65536 in
theorem codes_eq : words1.filter isCode = codes1 := rfl
theorem w_codes : ∀ c ∈ words1.filter isCode, c.before args0 about1 = true := by
  rw [codes_eq]
  intro c hc
  simp only [codes1, List.mem_cons, List.not_mem_nil, or_false] at hc
  rcases hc with rfl | rfl | rfl | rfl | rfl
  · exact w_c0
  · exact w_c1
  · exact w_c2
  · exact w_c3
  · exact w_c4
set_option maxRecDepth 65536 in
theorem w_t1 : (words1.take 24).all (fun c => isCode c || c.before args0 about1) = true := by decide +kernel
set_option maxRecDepth 65536 in
theorem w_t2 : (words1.drop 24).all (fun c => isCode c || c.before args0 about1) = true := by decide +kernel
theorem w_tables : (allAtoms (Jvm.Cond.code x code maxLocals ret :: tables_1)).before args0 about1 = true := by
  rw [allAtoms_all]
  show words1.all (fun c => c.before args0 about1) = true
  refine all_split ?_ w_codes
  rw [← List.take_append_drop 24 words1, List.all_append, w_t1, w_t2]
  rfl
set_option maxRecDepth 65536 in
theorem w_rest : rest_1_c.before args0 about1 = true := by decide +kernel
set_option maxRecDepth 65536 in
theorem w_case : (Jvm.Cond.and given_1 narrow_1).before args0 about1 = true := by decide +kernel
set_option maxRecDepth 65536 in
theorem w_consts : constsHeld consts_1 about1 := Jvm.Lit.constsHeldB_iff.mp (by decide +kernel)
theorem w_applies : (headSpec (Jvm.Cond.code x code maxLocals ret :: tables_1) room_1).applies x e0.platform about1 = true :=
  (Spec.applies_iff w_frames).mpr ⟨w_running, w_runnable, w_alone, w_named, w_hears, w_ripe, w_room, w_tables⟩
theorem atStart : AtStart classFile x code maxLocals ret World_1 tables_1 room_1 Calls_1 rest_1 Pre_1 launch0 p0 e0 about1 theMethod args0 below0 :=
  ⟨lists_1, trivial, launch0.admits_env _ _ _, launch0.least_env, fairChoices_fair.cas, fairChoices_fair.clock, w_frames, w_args, w_heap, w_applies, ⟨w_consts, trivial⟩, w_rest, w_case⟩
end start1
theorem witness_1 : WitnessClaimed_1 := ⟨start1.p0, start1.e0, start1.about1, start1.theMethod, start1.args0, start1.below0, start1.atStart⟩
end Jvm.Pilot.@@N@@
