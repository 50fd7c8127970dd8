import JvmDerived
import JvmDerived.Pilot.@@N@@Statement
import JvmDerived.Pilot.@@N@@Code
set_option linter.unusedVariables false
set_option linter.unusedSimpArgs false
namespace Jvm.RoadKit
open Sem ClassFile Op Lib Jvm.Stand Jvm.Free Jvm.LawKit
section New
variable {p : Program} {l : Launch} {e : Env} {R : Room} {s : State} {m : MethodId} {args : Array Value} {below : List Frame} {meth : Method} {c : Code} {T : State} {locs : List Loc} {cells slots : Nat}
theorem retI (X : Stand p l e R s m args below meth c T locs cells slots) (hx : p.tables.exec = Jvm.exec) {pc : Nat} {Ls : Array Slot} {z : Int32} {rest : List Value} (hret : meth.sig.returnType = some .int) (hd : decode c.code pc = .ok (.ireturn, 1)) {fs : List Frame}
    (hl : ∀ (f : JFrame) (acts : List Action), f.method = m → f.locked = none → f.entered = [] → (doReturn e (T.setTop f) acts (some (.int z))).1 = T.setFrames fs) : Steps p.tables e below (T.setTop (mkF m pc Ls (.int z :: rest))) (T.setFrames fs) := by
  have hm' : T.vm.method? m = some meth := X.method'
  have hn : narrow .int (.int z) = .int z := rfl
  show Steps p.tables e below (T.setTop { method := m, pc := pc, locals := Ls, stack := _ :: rest, locked := none }) _
  jvm_step X.here [X.here.top, hx, hd, hm', hret, hn]
  first | (intro acts; rw [hl _ acts rfl rfl rfl]) | rw [hl _ _ rfl rfl rfl]
  exact Steps.refl _
end New
end Jvm.RoadKit
namespace Jvm.Pilot.@@N@@
open Jvm Jvm.ClassFile Sem Op Lib Jvm.Free Jvm.Stand Jvm.LawKit Jvm.RoadKit Bundle Jvm.Pilot.@@N@@.Jvm.D
section Own
variable {p : Program} {l : Launch} {e : Env} {R : Room} {s : State} {m : MethodId} {args : Array Value} {below : List Frame} {meth : Method} {c : Code} {T : State} {locs : List Loc} {cells slots : Nat}
/-- from the state G the run comes to an end with an outcome of which Φ holds -/
def own_Gs (p : Program) (e : Env) (below : List Frame) (Φ : Outcome → State → Prop) (G : State) : Prop :=
  ∃ (t : State) (o : Outcome), Steps p.tables e below G t ∧ t.status = .running ∧ Ended t below o ∧ Φ o t
theorem own_st {Φ : Outcome → State → Prop} {G G' : State} (k : ∀ t, Steps p.tables e below G' t → Steps p.tables e below G t) (h : own_Gs p e below Φ G') : own_Gs p e below Φ G := by
  obtain ⟨a, b, h1, h2⟩ := h
  exact ⟨a, b, k _ h1, h2⟩
theorem own_in {Φ : Outcome → State → Prop} {g g' : JFrame} (q : g = g') (h : own_Gs p e below Φ (T.setTop g')) : ∃ (t : State) (o : Outcome), Steps p.tables e below (T.setTop g) t ∧ t.status = .running ∧ Ended t below o ∧ Φ o t := by
  subst q; exact h
theorem own_ret (X : Stand p l e R s m args below meth c T locs cells slots) {v : Option Value} (hv : meth.sig.returnType = none → v = none) (hlk : meth.locks = false) {G : State}
    (k : ∀ fs, (∀ (f : JFrame) (acts : List Action), f.method = m → f.locked = none → f.entered = [] → (doReturn e (T.setTop f) acts v).1 = T.setFrames fs) → Steps p.tables e below G (T.setFrames fs))
    {Q : Option Value → Heap → List Loc → Prop} {h : Heap} (eT : T.heap = h) (hQ : Q v h locs) {cc ss : Nat} (hc : cells ≤ cc) (hs : slots ≤ ss) :
    own_Gs p e below (fun o t => ∃ v L, o = .returned v ∧ Q v t.heap L ∧ FrameEnd s o t L cc ss) G := by
  obtain ⟨fs, hr, hrun, hended, hW, hsame⟩ := X.leave (v := v) hv hlk
  subst eT
  exact ⟨_, _, k fs hr, hrun, hended, _, _, rfl, hQ, ⟨_, rfl⟩, hW, hsame.mono hc hs⟩
theorem own_retI (X : Stand p l e R s m args below meth c T locs cells slots) (hx : p.tables.exec = Jvm.exec) {pc : Nat} {Ls : Array Slot} {z : Int32} {rest : List Value} (hret : meth.sig.returnType = some .int) (hd : decode c.code pc = .ok (.ireturn, 1)) (hlk : meth.locks = false)
    {Q : Option Value → Heap → List Loc → Prop} {h : Heap} (eT : T.heap = h) (hQ : Q (some (.int z)) h locs) {cc ss : Nat} (hc : cells ≤ cc) (hs : slots ≤ ss) :
    own_Gs p e below (fun o t => ∃ v L, o = .returned v ∧ Q v t.heap L ∧ FrameEnd s o t L cc ss) (T.setTop (mkF m pc Ls (.int z :: rest))) :=
  own_ret X (fun h => by rw [hret] at h; cases h) hlk (fun fs hr => retI X hx hret hd hr) eT hQ hc hs
theorem own_retN (X : Stand p l e R s m args below meth c T locs cells slots) (hx : p.tables.exec = Jvm.exec) {pc : Nat} {Ls : Array Slot} {z : Int32} {t : FieldType} {rest : List Value} (hret : meth.sig.returnType = some t) (ht : t = .boolean ∨ t = .byte ∨ t = .char ∨ t = .short) (hd : decode c.code pc = .ok (.ireturn, 1)) (hlk : meth.locks = false)
    {Q : Option Value → Heap → List Loc → Prop} {h : Heap} (eT : T.heap = h) (hQ : Q (some (.int (nar t z))) h locs) {cc ss : Nat} (hc : cells ≤ cc) (hs : slots ≤ ss) :
    own_Gs p e below (fun o t => ∃ v L, o = .returned v ∧ Q v t.heap L ∧ FrameEnd s o t L cc ss) (T.setTop (mkF m pc Ls (.int z :: rest))) :=
  own_ret X (fun h => by rw [hret] at h; cases h) hlk (fun fs hr => retN X hx hret ht hd hr) eT hQ hc hs
theorem own_retL (X : Stand p l e R s m args below meth c T locs cells slots) (hx : p.tables.exec = Jvm.exec) {pc : Nat} {Ls : Array Slot} {z : Int64} {rest : List Value} (hret : meth.sig.returnType = some .long) (hd : decode c.code pc = .ok (.lreturn, 1)) (hlk : meth.locks = false)
    {Q : Option Value → Heap → List Loc → Prop} {h : Heap} (eT : T.heap = h) (hQ : Q (some (.long z)) h locs) {cc ss : Nat} (hc : cells ≤ cc) (hs : slots ≤ ss) :
    own_Gs p e below (fun o t => ∃ v L, o = .returned v ∧ Q v t.heap L ∧ FrameEnd s o t L cc ss) (T.setTop (mkF m pc Ls (.long z :: rest))) :=
  own_ret X (fun h => by rw [hret] at h; cases h) hlk (fun fs hr => retOut X hx hret rfl (Or.inr (Or.inl ⟨rfl, rfl, z, rfl⟩)) hd hr) eT hQ hc hs
theorem own_retA (X : Stand p l e R s m args below meth c T locs cells slots) (hx : p.tables.exec = Jvm.exec) {pc : Nat} {Ls : Array Slot} {z : Value} {t : FieldType} {rest : List Value} (hret : meth.sig.returnType = some t) (ht : t.isReference = true) (hz : z.isRef = true) (hd : decode c.code pc = .ok (.areturn, 1)) (hlk : meth.locks = false)
    {Q : Option Value → Heap → List Loc → Prop} {h : Heap} (eT : T.heap = h) (hQ : Q (some z) h locs) {cc ss : Nat} (hc : cells ≤ cc) (hs : slots ≤ ss) :
    own_Gs p e below (fun o t => ∃ v L, o = .returned v ∧ Q v t.heap L ∧ FrameEnd s o t L cc ss) (T.setTop (mkF m pc Ls (z :: rest))) :=
  own_ret X (fun h => by rw [hret] at h; cases h) hlk (fun fs hr => retOut X hx hret (by cases t <;> first | rfl | (cases z <;> first | rfl | (simp [Value.isRef] at hz) | (simp [FieldType.isReference] at ht))) (Or.inr (Or.inr (Or.inr (Or.inr ⟨rfl, ht, hz⟩)))) hd hr) eT hQ hc hs
theorem own_retV (X : Stand p l e R s m args below meth c T locs cells slots) (hx : p.tables.exec = Jvm.exec) {pc : Nat} {Ls : Array Slot} (hret : meth.sig.returnType = none) (hd : decode c.code pc = .ok (.return_, 1)) (hlk : meth.locks = false)
    {Q : Option Value → Heap → List Loc → Prop} {h : Heap} (eT : T.heap = h) (hQ : Q none h locs) {cc ss : Nat} (hc : cells ≤ cc) (hs : slots ≤ ss) :
    own_Gs p e below (fun o t => ∃ v L, o = .returned v ∧ Q v t.heap L ∧ FrameEnd s o t L cc ss) (T.setTop (mkF m pc Ls [])) :=
  own_ret X (fun _ => rfl) hlk (fun fs hr => X.returnOut hx hret hd hr) eT hQ hc hs
theorem own_retNW {vm0 : Vm} {k0 : Nat} (X : Stand p l e R (s.setVm vm0) m args below meth c T locs cells slots) (hS : s.Since vm0 k0) {h : Heap} (hk : k0 ≤ h.size) (hx : p.tables.exec = Jvm.exec) {pc : Nat} {Ls : Array Slot} {z : Int32} {t : FieldType} {rest : List Value} (hret : meth.sig.returnType = some t) (ht : t = .boolean ∨ t = .byte ∨ t = .char ∨ t = .short) (hd : decode c.code pc = .ok (.ireturn, 1)) (hlk : meth.locks = false)
    {Q : Option Value → Heap → List Loc → Prop} (eT : T.heap = h) (hQ : Q (some (.int (nar t z))) h locs) {cc ss : Nat} (hc : cells ≤ cc) (hs : slots ≤ ss) :
    own_Gs p e below (fun o t => ∃ v L, o = .returned v ∧ Q v t.heap L ∧ ReturnedEndW s o t L cc ss) (T.setTop (mkF m pc Ls (.int z :: rest))) := by
  subst eT
  obtain ⟨fs, hr, hrun, hended, h1, h2, h3, h4⟩ := X.leaveW hS hk (v := some (.int (nar t z))) (fun h => by rw [hret] at h; cases h) hlk
  exact ⟨_, _, retN X hx hret ht hd hr, hrun, hended, _, _, rfl, hQ, h1, h2, h3, h4.mono hc hs⟩
-- steps
theorem own_iloadN {Φ : Outcome → State → Prop} (X : Stand p l e R s m args below meth c T locs cells slots) (hx : p.tables.exec = Jvm.exec) {pc : Nat} (pc' : Nat) {Ls : Array Slot} {S : List Value} {k : Fin 4} {v : Int32} (hd : decode c.code pc = .ok (.iload_n k, 1)) (hl : Ls[k.val]? = some (.val (.int v))) (h : own_Gs p e below Φ (T.setTop (mkF m pc' Ls (.int v :: S)))) (hp : pc + 1 = pc' := by rfl) : own_Gs p e below Φ (T.setTop (mkF m pc Ls (S))) := by
  subst hp; exact own_st (fun t k => XS.iloadN X.here hx rfl hd hl k) h
theorem own_iload {Φ : Outcome → State → Prop} (X : Stand p l e R s m args below meth c T locs cells slots) (hx : p.tables.exec = Jvm.exec) {pc : Nat} (pc' : Nat) {Ls : Array Slot} {S : List Value} {k : Nat} {v : Int32} (hd : decode c.code pc = .ok (.iload k, 2)) (hl : Ls[k]? = some (.val (.int v))) (h : own_Gs p e below Φ (T.setTop (mkF m pc' Ls (.int v :: S)))) (hp : pc + 2 = pc' := by rfl) : own_Gs p e below Φ (T.setTop (mkF m pc Ls (S))) := by
  subst hp; exact own_st (fun t k => XS.iload X.here hx rfl hd hl k) h
theorem own_lloadN {Φ : Outcome → State → Prop} (X : Stand p l e R s m args below meth c T locs cells slots) (hx : p.tables.exec = Jvm.exec) {pc : Nat} (pc' : Nat) {Ls : Array Slot} {S : List Value} {k : Fin 4} {v : Int64} (hd : decode c.code pc = .ok (.lload_n k, 1)) (hl : Ls[k.val]? = some (.val (.long v))) (h : own_Gs p e below Φ (T.setTop (mkF m pc' Ls (.long v :: S)))) (hp : pc + 1 = pc' := by rfl) : own_Gs p e below Φ (T.setTop (mkF m pc Ls (S))) := by
  subst hp; exact own_st (fun t k => XS.lloadN X.here hx rfl hd hl k) h
theorem own_lload {Φ : Outcome → State → Prop} (X : Stand p l e R s m args below meth c T locs cells slots) (hx : p.tables.exec = Jvm.exec) {pc : Nat} (pc' : Nat) {Ls : Array Slot} {S : List Value} {k : Nat} {v : Int64} (hd : decode c.code pc = .ok (.lload k, 2)) (hl : Ls[k]? = some (.val (.long v))) (h : own_Gs p e below Φ (T.setTop (mkF m pc' Ls (.long v :: S)))) (hp : pc + 2 = pc' := by rfl) : own_Gs p e below Φ (T.setTop (mkF m pc Ls (S))) := by
  subst hp; exact own_st (fun t k => XS.lload X.here hx rfl hd hl k) h
theorem own_aloadN {Φ : Outcome → State → Prop} (X : Stand p l e R s m args below meth c T locs cells slots) (hx : p.tables.exec = Jvm.exec) {pc : Nat} (pc' : Nat) {Ls : Array Slot} {S : List Value} {k : Fin 4} {v : Value} (hd : decode c.code pc = .ok (.aload_n k, 1)) (hl : Ls[k.val]? = some (.val v)) (hv : v.isRef = true) (h : own_Gs p e below Φ (T.setTop (mkF m pc' Ls (v :: S)))) (hp : pc + 1 = pc' := by rfl) : own_Gs p e below Φ (T.setTop (mkF m pc Ls (S))) := by
  subst hp; exact own_st (fun t k => XS.aloadN X.here hx rfl hd hl hv k) h
theorem own_aload {Φ : Outcome → State → Prop} (X : Stand p l e R s m args below meth c T locs cells slots) (hx : p.tables.exec = Jvm.exec) {pc : Nat} (pc' : Nat) {Ls : Array Slot} {S : List Value} {k : Nat} {v : Value} (hd : decode c.code pc = .ok (.aload k, 2)) (hl : Ls[k]? = some (.val v)) (hv : v.isRef = true) (h : own_Gs p e below Φ (T.setTop (mkF m pc' Ls (v :: S)))) (hp : pc + 2 = pc' := by rfl) : own_Gs p e below Φ (T.setTop (mkF m pc Ls (S))) := by
  subst hp; exact own_st (fun t k => XS.aload X.here hx rfl hd hl hv k) h
theorem own_istoreN {Φ : Outcome → State → Prop} (X : Stand p l e R s m args below meth c T locs cells slots) (hx : p.tables.exec = Jvm.exec) {pc : Nat} (pc' : Nat) {Ls : Array Slot} {S : List Value} {k : Fin 4} {v : Int32} (l' : Array Slot) (hd : decode c.code pc = .ok (.istore_n k, 1)) (hl : storeLocals Ls k.val (.int v) = some l') (h : own_Gs p e below Φ (T.setTop (mkF m pc' l' (S)))) (hp : pc + 1 = pc' := by rfl) : own_Gs p e below Φ (T.setTop (mkF m pc Ls (.int v :: S))) := by
  subst hp; exact own_st (fun t k => XS.istoreN X.here hx rfl hd rfl hl k) h
theorem own_istore {Φ : Outcome → State → Prop} (X : Stand p l e R s m args below meth c T locs cells slots) (hx : p.tables.exec = Jvm.exec) {pc : Nat} (pc' : Nat) {Ls : Array Slot} {S : List Value} {k : Nat} {v : Int32} (l' : Array Slot) (hd : decode c.code pc = .ok (.istore k, 2)) (hl : storeLocals Ls k (.int v) = some l') (h : own_Gs p e below Φ (T.setTop (mkF m pc' l' (S)))) (hp : pc + 2 = pc' := by rfl) : own_Gs p e below Φ (T.setTop (mkF m pc Ls (.int v :: S))) := by
  subst hp; exact own_st (fun t k => XS.istore X.here hx rfl hd rfl hl k) h
theorem own_lstoreN {Φ : Outcome → State → Prop} (X : Stand p l e R s m args below meth c T locs cells slots) (hx : p.tables.exec = Jvm.exec) {pc : Nat} (pc' : Nat) {Ls : Array Slot} {S : List Value} {k : Fin 4} {v : Int64} (l' : Array Slot) (hd : decode c.code pc = .ok (.lstore_n k, 1)) (hl : storeLocals Ls k.val (.long v) = some l') (h : own_Gs p e below Φ (T.setTop (mkF m pc' l' (S)))) (hp : pc + 1 = pc' := by rfl) : own_Gs p e below Φ (T.setTop (mkF m pc Ls (.long v :: S))) := by
  subst hp; exact own_st (fun t k => XS.lstoreN X.here hx rfl hd rfl hl k) h
theorem own_lstore {Φ : Outcome → State → Prop} (X : Stand p l e R s m args below meth c T locs cells slots) (hx : p.tables.exec = Jvm.exec) {pc : Nat} (pc' : Nat) {Ls : Array Slot} {S : List Value} {k : Nat} {v : Int64} (l' : Array Slot) (hd : decode c.code pc = .ok (.lstore k, 2)) (hl : storeLocals Ls k (.long v) = some l') (h : own_Gs p e below Φ (T.setTop (mkF m pc' l' (S)))) (hp : pc + 2 = pc' := by rfl) : own_Gs p e below Φ (T.setTop (mkF m pc Ls (.long v :: S))) := by
  subst hp; exact own_st (fun t k => XS.lstore X.here hx rfl hd rfl hl k) h
theorem own_astoreN {Φ : Outcome → State → Prop} (X : Stand p l e R s m args below meth c T locs cells slots) (hx : p.tables.exec = Jvm.exec) {pc : Nat} (pc' : Nat) {Ls : Array Slot} {S : List Value} {k : Fin 4} {v : Value} (l' : Array Slot) (hd : decode c.code pc = .ok (.astore_n k, 1)) (hv : v.isRef = true) (hl : storeLocals Ls k.val v = some l') (h : own_Gs p e below Φ (T.setTop (mkF m pc' l' (S)))) (hp : pc + 1 = pc' := by rfl) : own_Gs p e below Φ (T.setTop (mkF m pc Ls (v :: S))) := by
  subst hp; exact own_st (fun t k => XS.astoreN X.here hx rfl hd rfl hv hl k) h
theorem own_astore {Φ : Outcome → State → Prop} (X : Stand p l e R s m args below meth c T locs cells slots) (hx : p.tables.exec = Jvm.exec) {pc : Nat} (pc' : Nat) {Ls : Array Slot} {S : List Value} {k : Nat} {v : Value} (l' : Array Slot) (hd : decode c.code pc = .ok (.astore k, 2)) (hv : v.isRef = true) (hl : storeLocals Ls k v = some l') (h : own_Gs p e below Φ (T.setTop (mkF m pc' l' (S)))) (hp : pc + 2 = pc' := by rfl) : own_Gs p e below Φ (T.setTop (mkF m pc Ls (v :: S))) := by
  subst hp; exact own_st (fun t k => XS.astore X.here hx rfl hd rfl hv hl k) h
theorem own_iconst {Φ : Outcome → State → Prop} (X : Stand p l e R s m args below meth c T locs cells slots) (hx : p.tables.exec = Jvm.exec) {pc : Nat} (pc' : Nat) {Ls : Array Slot} {S : List Value} {i : Int} (z : Int32) (hd : decode c.code pc = .ok (.iconst i, 1)) (hz : Int32.ofInt i = z) (h : own_Gs p e below Φ (T.setTop (mkF m pc' Ls (.int z :: S)))) (hp : pc + 1 = pc' := by rfl) : own_Gs p e below Φ (T.setTop (mkF m pc Ls (S))) := by
  subst hp; exact own_st (fun t k => XS.iconst X.here hx rfl hd (hz ▸ k)) h
theorem own_bipush {Φ : Outcome → State → Prop} (X : Stand p l e R s m args below meth c T locs cells slots) (hx : p.tables.exec = Jvm.exec) {pc : Nat} (pc' : Nat) {Ls : Array Slot} {S : List Value} {i : Int} (z : Int32) (hd : decode c.code pc = .ok (.bipush i, 2)) (hz : (Int8.ofInt i).toInt32 = z) (h : own_Gs p e below Φ (T.setTop (mkF m pc' Ls (.int z :: S)))) (hp : pc + 2 = pc' := by rfl) : own_Gs p e below Φ (T.setTop (mkF m pc Ls (S))) := by
  subst hp; exact own_st (fun t k => XS.bipush X.here hx rfl hd (hz ▸ k)) h
theorem own_sipush {Φ : Outcome → State → Prop} (X : Stand p l e R s m args below meth c T locs cells slots) (hx : p.tables.exec = Jvm.exec) {pc : Nat} (pc' : Nat) {Ls : Array Slot} {S : List Value} {i : Int} (z : Int32) (hd : decode c.code pc = .ok (.sipush i, 3)) (hz : (Int16.ofInt i).toInt32 = z) (h : own_Gs p e below Φ (T.setTop (mkF m pc' Ls (.int z :: S)))) (hp : pc + 3 = pc' := by rfl) : own_Gs p e below Φ (T.setTop (mkF m pc Ls (S))) := by
  subst hp; exact own_st (fun t k => XS.sipush X.here hx rfl hd (hz ▸ k)) h
theorem own_lconst {Φ : Outcome → State → Prop} (X : Stand p l e R s m args below meth c T locs cells slots) (hx : p.tables.exec = Jvm.exec) {pc : Nat} (pc' : Nat) {Ls : Array Slot} {S : List Value} {i : Fin 2} (z : Int64) (hd : decode c.code pc = .ok (.lconst i, 1)) (hz : Int64.ofNat i = z) (h : own_Gs p e below Φ (T.setTop (mkF m pc' Ls (.long z :: S)))) (hp : pc + 1 = pc' := by rfl) : own_Gs p e below Φ (T.setTop (mkF m pc Ls (S))) := by
  subst hp; exact own_st (fun t k => XS.lconst X.here hx rfl hd (hz ▸ k)) h
theorem own_aconstNull {Φ : Outcome → State → Prop} (X : Stand p l e R s m args below meth c T locs cells slots) (hx : p.tables.exec = Jvm.exec) {pc : Nat} (pc' : Nat) {Ls : Array Slot} {S : List Value}  (hd : decode c.code pc = .ok (.aconst_null, 1)) (h : own_Gs p e below Φ (T.setTop (mkF m pc' Ls (.null :: S)))) (hp : pc + 1 = pc' := by rfl) : own_Gs p e below Φ (T.setTop (mkF m pc Ls (S))) := by
  subst hp; exact own_st (fun t k => XS.aconstNull X.here hx rfl hd k) h
theorem own_iadd {Φ : Outcome → State → Prop} (X : Stand p l e R s m args below meth c T locs cells slots) (hx : p.tables.exec = Jvm.exec) {pc : Nat} (pc' : Nat) {Ls : Array Slot} {S : List Value} {x y : Int32} (hd : decode c.code pc = .ok (.iadd, 1)) (h : own_Gs p e below Φ (T.setTop (mkF m pc' Ls (.int (x + y) :: S)))) (hp : pc + 1 = pc' := by rfl) : own_Gs p e below Φ (T.setTop (mkF m pc Ls (.int y :: .int x :: S))) := by
  subst hp; exact own_st (fun t k => XS.iadd X.here hx rfl hd rfl k) h
theorem own_ladd {Φ : Outcome → State → Prop} (X : Stand p l e R s m args below meth c T locs cells slots) (hx : p.tables.exec = Jvm.exec) {pc : Nat} (pc' : Nat) {Ls : Array Slot} {S : List Value} {x y : Int64} (hd : decode c.code pc = .ok (.ladd, 1)) (h : own_Gs p e below Φ (T.setTop (mkF m pc' Ls (.long (x + y) :: S)))) (hp : pc + 1 = pc' := by rfl) : own_Gs p e below Φ (T.setTop (mkF m pc Ls (.long y :: .long x :: S))) := by
  subst hp; exact own_st (fun t k => XS.ladd X.here hx rfl hd rfl k) h
theorem own_isub {Φ : Outcome → State → Prop} (X : Stand p l e R s m args below meth c T locs cells slots) (hx : p.tables.exec = Jvm.exec) {pc : Nat} (pc' : Nat) {Ls : Array Slot} {S : List Value} {x y : Int32} (hd : decode c.code pc = .ok (.isub, 1)) (h : own_Gs p e below Φ (T.setTop (mkF m pc' Ls (.int (x - y) :: S)))) (hp : pc + 1 = pc' := by rfl) : own_Gs p e below Φ (T.setTop (mkF m pc Ls (.int y :: .int x :: S))) := by
  subst hp; exact own_st (fun t k => XS.isub X.here hx rfl hd rfl k) h
theorem own_lsub {Φ : Outcome → State → Prop} (X : Stand p l e R s m args below meth c T locs cells slots) (hx : p.tables.exec = Jvm.exec) {pc : Nat} (pc' : Nat) {Ls : Array Slot} {S : List Value} {x y : Int64} (hd : decode c.code pc = .ok (.lsub, 1)) (h : own_Gs p e below Φ (T.setTop (mkF m pc' Ls (.long (x - y) :: S)))) (hp : pc + 1 = pc' := by rfl) : own_Gs p e below Φ (T.setTop (mkF m pc Ls (.long y :: .long x :: S))) := by
  subst hp; exact own_st (fun t k => XS.lsub X.here hx rfl hd rfl k) h
theorem own_imul {Φ : Outcome → State → Prop} (X : Stand p l e R s m args below meth c T locs cells slots) (hx : p.tables.exec = Jvm.exec) {pc : Nat} (pc' : Nat) {Ls : Array Slot} {S : List Value} {x y : Int32} (hd : decode c.code pc = .ok (.imul, 1)) (h : own_Gs p e below Φ (T.setTop (mkF m pc' Ls (.int (x * y) :: S)))) (hp : pc + 1 = pc' := by rfl) : own_Gs p e below Φ (T.setTop (mkF m pc Ls (.int y :: .int x :: S))) := by
  subst hp; exact own_st (fun t k => XS.imul X.here hx rfl hd rfl k) h
theorem own_lmul {Φ : Outcome → State → Prop} (X : Stand p l e R s m args below meth c T locs cells slots) (hx : p.tables.exec = Jvm.exec) {pc : Nat} (pc' : Nat) {Ls : Array Slot} {S : List Value} {x y : Int64} (hd : decode c.code pc = .ok (.lmul, 1)) (h : own_Gs p e below Φ (T.setTop (mkF m pc' Ls (.long (x * y) :: S)))) (hp : pc + 1 = pc' := by rfl) : own_Gs p e below Φ (T.setTop (mkF m pc Ls (.long y :: .long x :: S))) := by
  subst hp; exact own_st (fun t k => XS.lmul X.here hx rfl hd rfl k) h
theorem own_iand {Φ : Outcome → State → Prop} (X : Stand p l e R s m args below meth c T locs cells slots) (hx : p.tables.exec = Jvm.exec) {pc : Nat} (pc' : Nat) {Ls : Array Slot} {S : List Value} {x y : Int32} (hd : decode c.code pc = .ok (.iand, 1)) (h : own_Gs p e below Φ (T.setTop (mkF m pc' Ls (.int (x &&& y) :: S)))) (hp : pc + 1 = pc' := by rfl) : own_Gs p e below Φ (T.setTop (mkF m pc Ls (.int y :: .int x :: S))) := by
  subst hp; exact own_st (fun t k => XS.iand X.here hx rfl hd rfl k) h
theorem own_land {Φ : Outcome → State → Prop} (X : Stand p l e R s m args below meth c T locs cells slots) (hx : p.tables.exec = Jvm.exec) {pc : Nat} (pc' : Nat) {Ls : Array Slot} {S : List Value} {x y : Int64} (hd : decode c.code pc = .ok (.land, 1)) (h : own_Gs p e below Φ (T.setTop (mkF m pc' Ls (.long (x &&& y) :: S)))) (hp : pc + 1 = pc' := by rfl) : own_Gs p e below Φ (T.setTop (mkF m pc Ls (.long y :: .long x :: S))) := by
  subst hp; exact own_st (fun t k => XS.land X.here hx rfl hd rfl k) h
theorem own_ior {Φ : Outcome → State → Prop} (X : Stand p l e R s m args below meth c T locs cells slots) (hx : p.tables.exec = Jvm.exec) {pc : Nat} (pc' : Nat) {Ls : Array Slot} {S : List Value} {x y : Int32} (hd : decode c.code pc = .ok (.ior, 1)) (h : own_Gs p e below Φ (T.setTop (mkF m pc' Ls (.int (x ||| y) :: S)))) (hp : pc + 1 = pc' := by rfl) : own_Gs p e below Φ (T.setTop (mkF m pc Ls (.int y :: .int x :: S))) := by
  subst hp; exact own_st (fun t k => XS.ior X.here hx rfl hd rfl k) h
theorem own_lor {Φ : Outcome → State → Prop} (X : Stand p l e R s m args below meth c T locs cells slots) (hx : p.tables.exec = Jvm.exec) {pc : Nat} (pc' : Nat) {Ls : Array Slot} {S : List Value} {x y : Int64} (hd : decode c.code pc = .ok (.lor, 1)) (h : own_Gs p e below Φ (T.setTop (mkF m pc' Ls (.long (x ||| y) :: S)))) (hp : pc + 1 = pc' := by rfl) : own_Gs p e below Φ (T.setTop (mkF m pc Ls (.long y :: .long x :: S))) := by
  subst hp; exact own_st (fun t k => XS.lor X.here hx rfl hd rfl k) h
theorem own_ixor {Φ : Outcome → State → Prop} (X : Stand p l e R s m args below meth c T locs cells slots) (hx : p.tables.exec = Jvm.exec) {pc : Nat} (pc' : Nat) {Ls : Array Slot} {S : List Value} {x y : Int32} (hd : decode c.code pc = .ok (.ixor, 1)) (h : own_Gs p e below Φ (T.setTop (mkF m pc' Ls (.int (x ^^^ y) :: S)))) (hp : pc + 1 = pc' := by rfl) : own_Gs p e below Φ (T.setTop (mkF m pc Ls (.int y :: .int x :: S))) := by
  subst hp; exact own_st (fun t k => XS.ixor X.here hx rfl hd rfl k) h
theorem own_lxor {Φ : Outcome → State → Prop} (X : Stand p l e R s m args below meth c T locs cells slots) (hx : p.tables.exec = Jvm.exec) {pc : Nat} (pc' : Nat) {Ls : Array Slot} {S : List Value} {x y : Int64} (hd : decode c.code pc = .ok (.lxor, 1)) (h : own_Gs p e below Φ (T.setTop (mkF m pc' Ls (.long (x ^^^ y) :: S)))) (hp : pc + 1 = pc' := by rfl) : own_Gs p e below Φ (T.setTop (mkF m pc Ls (.long y :: .long x :: S))) := by
  subst hp; exact own_st (fun t k => XS.lxor X.here hx rfl hd rfl k) h
theorem own_idiv {Φ : Outcome → State → Prop} (X : Stand p l e R s m args below meth c T locs cells slots) (hx : p.tables.exec = Jvm.exec) {pc : Nat} (pc' : Nat) {Ls : Array Slot} {S : List Value} {x y : Int32} (hd : decode c.code pc = .ok (.idiv, 1)) (hy : y ≠ 0) (h : own_Gs p e below Φ (T.setTop (mkF m pc' Ls (.int (x / y) :: S)))) (hp : pc + 1 = pc' := by rfl) : own_Gs p e below Φ (T.setTop (mkF m pc Ls (.int y :: .int x :: S))) := by
  subst hp; exact own_st (fun t k => XS.idiv X.here hx rfl hd rfl hy k) h
theorem own_ldiv {Φ : Outcome → State → Prop} (X : Stand p l e R s m args below meth c T locs cells slots) (hx : p.tables.exec = Jvm.exec) {pc : Nat} (pc' : Nat) {Ls : Array Slot} {S : List Value} {x y : Int64} (hd : decode c.code pc = .ok (.ldiv, 1)) (hy : y ≠ 0) (h : own_Gs p e below Φ (T.setTop (mkF m pc' Ls (.long (x / y) :: S)))) (hp : pc + 1 = pc' := by rfl) : own_Gs p e below Φ (T.setTop (mkF m pc Ls (.long y :: .long x :: S))) := by
  subst hp; exact own_st (fun t k => XS.ldiv X.here hx rfl hd rfl hy k) h
theorem own_irem {Φ : Outcome → State → Prop} (X : Stand p l e R s m args below meth c T locs cells slots) (hx : p.tables.exec = Jvm.exec) {pc : Nat} (pc' : Nat) {Ls : Array Slot} {S : List Value} {x y : Int32} (hd : decode c.code pc = .ok (.irem, 1)) (hy : y ≠ 0) (h : own_Gs p e below Φ (T.setTop (mkF m pc' Ls (.int (x % y) :: S)))) (hp : pc + 1 = pc' := by rfl) : own_Gs p e below Φ (T.setTop (mkF m pc Ls (.int y :: .int x :: S))) := by
  subst hp; exact own_st (fun t k => iremM X hx rfl hd rfl hy k) h
theorem own_lrem {Φ : Outcome → State → Prop} (X : Stand p l e R s m args below meth c T locs cells slots) (hx : p.tables.exec = Jvm.exec) {pc : Nat} (pc' : Nat) {Ls : Array Slot} {S : List Value} {x y : Int64} (hd : decode c.code pc = .ok (.lrem, 1)) (hy : y ≠ 0) (h : own_Gs p e below Φ (T.setTop (mkF m pc' Ls (.long (x % y) :: S)))) (hp : pc + 1 = pc' := by rfl) : own_Gs p e below Φ (T.setTop (mkF m pc Ls (.long y :: .long x :: S))) := by
  subst hp; exact own_st (fun t k => XS.lrem X.here hx rfl hd rfl hy (by rw [lrem_mod]; exact k)) h
theorem own_ishl {Φ : Outcome → State → Prop} (X : Stand p l e R s m args below meth c T locs cells slots) (hx : p.tables.exec = Jvm.exec) {pc : Nat} (pc' : Nat) {Ls : Array Slot} {S : List Value} {x y : Int32} (hd : decode c.code pc = .ok (.ishl, 1)) (h : own_Gs p e below Φ (T.setTop (mkF m pc' Ls (.int (x <<< (y &&& 31)) :: S)))) (hp : pc + 1 = pc' := by rfl) : own_Gs p e below Φ (T.setTop (mkF m pc Ls (.int y :: .int x :: S))) := by
  subst hp; exact own_st (fun t k => XS.ishl X.here hx rfl hd rfl k) h
theorem own_ishr {Φ : Outcome → State → Prop} (X : Stand p l e R s m args below meth c T locs cells slots) (hx : p.tables.exec = Jvm.exec) {pc : Nat} (pc' : Nat) {Ls : Array Slot} {S : List Value} {x y : Int32} (hd : decode c.code pc = .ok (.ishr, 1)) (h : own_Gs p e below Φ (T.setTop (mkF m pc' Ls (.int (x >>> (y &&& 31)) :: S)))) (hp : pc + 1 = pc' := by rfl) : own_Gs p e below Φ (T.setTop (mkF m pc Ls (.int y :: .int x :: S))) := by
  subst hp; exact own_st (fun t k => XS.ishr X.here hx rfl hd rfl k) h
theorem own_iushr {Φ : Outcome → State → Prop} (X : Stand p l e R s m args below meth c T locs cells slots) (hx : p.tables.exec = Jvm.exec) {pc : Nat} (pc' : Nat) {Ls : Array Slot} {S : List Value} {x y : Int32} (hd : decode c.code pc = .ok (.iushr, 1)) (h : own_Gs p e below Φ (T.setTop (mkF m pc' Ls (.int ((x.toUInt32 >>> (y &&& 31).toUInt32).toInt32) :: S)))) (hp : pc + 1 = pc' := by rfl) : own_Gs p e below Φ (T.setTop (mkF m pc Ls (.int y :: .int x :: S))) := by
  subst hp; exact own_st (fun t k => XS.iushr X.here hx rfl hd rfl k) h
theorem own_lshl {Φ : Outcome → State → Prop} (X : Stand p l e R s m args below meth c T locs cells slots) (hx : p.tables.exec = Jvm.exec) {pc : Nat} (pc' : Nat) {Ls : Array Slot} {S : List Value} {x : Int64} {y : Int32} (hd : decode c.code pc = .ok (.lshl, 1)) (h : own_Gs p e below Φ (T.setTop (mkF m pc' Ls (.long (x <<< (y &&& 0x3f).toInt64) :: S)))) (hp : pc + 1 = pc' := by rfl) : own_Gs p e below Φ (T.setTop (mkF m pc Ls (.int y :: .long x :: S))) := by
  subst hp; exact own_st (fun t k => XS.lshl X.here hx rfl hd rfl k) h
theorem own_lshr {Φ : Outcome → State → Prop} (X : Stand p l e R s m args below meth c T locs cells slots) (hx : p.tables.exec = Jvm.exec) {pc : Nat} (pc' : Nat) {Ls : Array Slot} {S : List Value} {x : Int64} {y : Int32} (hd : decode c.code pc = .ok (.lshr, 1)) (h : own_Gs p e below Φ (T.setTop (mkF m pc' Ls (.long (x >>> (y &&& 0x3f).toInt64) :: S)))) (hp : pc + 1 = pc' := by rfl) : own_Gs p e below Φ (T.setTop (mkF m pc Ls (.int y :: .long x :: S))) := by
  subst hp; exact own_st (fun t k => XS.lshr X.here hx rfl hd rfl k) h
theorem own_lushr {Φ : Outcome → State → Prop} (X : Stand p l e R s m args below meth c T locs cells slots) (hx : p.tables.exec = Jvm.exec) {pc : Nat} (pc' : Nat) {Ls : Array Slot} {S : List Value} {x : Int64} {y : Int32} (hd : decode c.code pc = .ok (.lushr, 1)) (h : own_Gs p e below Φ (T.setTop (mkF m pc' Ls (.long ((x.toUInt64 >>> (y &&& 0x3f).toInt64.toUInt64).toInt64) :: S)))) (hp : pc + 1 = pc' := by rfl) : own_Gs p e below Φ (T.setTop (mkF m pc Ls (.int y :: .long x :: S))) := by
  subst hp; exact own_st (fun t k => XS.lushr X.here hx rfl hd rfl k) h
theorem own_ineg {Φ : Outcome → State → Prop} (X : Stand p l e R s m args below meth c T locs cells slots) (hx : p.tables.exec = Jvm.exec) {pc : Nat} (pc' : Nat) {Ls : Array Slot} {S : List Value} {x : Int32} (hd : decode c.code pc = .ok (.ineg, 1)) (h : own_Gs p e below Φ (T.setTop (mkF m pc' Ls (.int (-x) :: S)))) (hp : pc + 1 = pc' := by rfl) : own_Gs p e below Φ (T.setTop (mkF m pc Ls (.int x :: S))) := by
  subst hp; exact own_st (fun t k => XS.ineg X.here hx rfl hd rfl k) h
theorem own_lneg {Φ : Outcome → State → Prop} (X : Stand p l e R s m args below meth c T locs cells slots) (hx : p.tables.exec = Jvm.exec) {pc : Nat} (pc' : Nat) {Ls : Array Slot} {S : List Value} {x : Int64} (hd : decode c.code pc = .ok (.lneg, 1)) (h : own_Gs p e below Φ (T.setTop (mkF m pc' Ls (.long (-x) :: S)))) (hp : pc + 1 = pc' := by rfl) : own_Gs p e below Φ (T.setTop (mkF m pc Ls (.long x :: S))) := by
  subst hp; exact own_st (fun t k => XS.lneg X.here hx rfl hd rfl k) h
theorem own_i2l {Φ : Outcome → State → Prop} (X : Stand p l e R s m args below meth c T locs cells slots) (hx : p.tables.exec = Jvm.exec) {pc : Nat} (pc' : Nat) {Ls : Array Slot} {S : List Value} {x : Int32} (hd : decode c.code pc = .ok (.i2l, 1)) (h : own_Gs p e below Φ (T.setTop (mkF m pc' Ls (.long (x.toInt64) :: S)))) (hp : pc + 1 = pc' := by rfl) : own_Gs p e below Φ (T.setTop (mkF m pc Ls (.int x :: S))) := by
  subst hp; exact own_st (fun t k => XS.i2l X.here hx rfl hd rfl k) h
theorem own_l2i {Φ : Outcome → State → Prop} (X : Stand p l e R s m args below meth c T locs cells slots) (hx : p.tables.exec = Jvm.exec) {pc : Nat} (pc' : Nat) {Ls : Array Slot} {S : List Value} {x : Int64} (hd : decode c.code pc = .ok (.l2i, 1)) (h : own_Gs p e below Φ (T.setTop (mkF m pc' Ls (.int (x.toInt32) :: S)))) (hp : pc + 1 = pc' := by rfl) : own_Gs p e below Φ (T.setTop (mkF m pc Ls (.long x :: S))) := by
  subst hp; exact own_st (fun t k => XS.l2i X.here hx rfl hd rfl k) h
theorem own_i2b {Φ : Outcome → State → Prop} (X : Stand p l e R s m args below meth c T locs cells slots) (hx : p.tables.exec = Jvm.exec) {pc : Nat} (pc' : Nat) {Ls : Array Slot} {S : List Value} {x : Int32} (hd : decode c.code pc = .ok (.i2b, 1)) (h : own_Gs p e below Φ (T.setTop (mkF m pc' Ls (.int (x.toInt8.toInt32) :: S)))) (hp : pc + 1 = pc' := by rfl) : own_Gs p e below Φ (T.setTop (mkF m pc Ls (.int x :: S))) := by
  subst hp; exact own_st (fun t k => XS.i2b X.here hx rfl hd rfl k) h
theorem own_i2s {Φ : Outcome → State → Prop} (X : Stand p l e R s m args below meth c T locs cells slots) (hx : p.tables.exec = Jvm.exec) {pc : Nat} (pc' : Nat) {Ls : Array Slot} {S : List Value} {x : Int32} (hd : decode c.code pc = .ok (.i2s, 1)) (h : own_Gs p e below Φ (T.setTop (mkF m pc' Ls (.int (x.toInt16.toInt32) :: S)))) (hp : pc + 1 = pc' := by rfl) : own_Gs p e below Φ (T.setTop (mkF m pc Ls (.int x :: S))) := by
  subst hp; exact own_st (fun t k => XS.i2s X.here hx rfl hd rfl k) h
theorem own_i2c {Φ : Outcome → State → Prop} (X : Stand p l e R s m args below meth c T locs cells slots) (hx : p.tables.exec = Jvm.exec) {pc : Nat} (pc' : Nat) {Ls : Array Slot} {S : List Value} {x : Int32} (hd : decode c.code pc = .ok (.i2c, 1)) (h : own_Gs p e below Φ (T.setTop (mkF m pc' Ls (.int (x.toUInt32.toUInt16.toUInt32.toInt32) :: S)))) (hp : pc + 1 = pc' := by rfl) : own_Gs p e below Φ (T.setTop (mkF m pc Ls (.int x :: S))) := by
  subst hp; exact own_st (fun t k => XS.i2c X.here hx rfl hd rfl k) h
theorem own_lcmp {Φ : Outcome → State → Prop} (X : Stand p l e R s m args below meth c T locs cells slots) (hx : p.tables.exec = Jvm.exec) {pc : Nat} (pc' : Nat) {Ls : Array Slot} {S : List Value} {x y : Int64} (hd : decode c.code pc = .ok (.lcmp, 1)) (h : own_Gs p e below Φ (T.setTop (mkF m pc' Ls (.int (lcmpW x y) :: S)))) (hp : pc + 1 = pc' := by rfl) : own_Gs p e below Φ (T.setTop (mkF m pc Ls (.long y :: .long x :: S))) := by
  subst hp; exact own_st (fun t k => XS.lcmp X.here hx rfl hd rfl k) h
theorem own_iinc {Φ : Outcome → State → Prop} (X : Stand p l e R s m args below meth c T locs cells slots) (hx : p.tables.exec = Jvm.exec) {pc : Nat} (pc' : Nat) {Ls : Array Slot} {S : List Value} {i : Nat} {cst : Int} {x : Int32} (z : Int32) (l' : Array Slot) (hd : decode c.code pc = .ok (.iinc i cst, 3)) (hl : Ls[i]? = some (.val (.int x))) (hz : Int32.ofInt cst = z) (hl' : storeLocals Ls i (.int (x + z)) = some l') (h : own_Gs p e below Φ (T.setTop (mkF m pc' l' (S)))) (hp : pc + 3 = pc' := by rfl) : own_Gs p e below Φ (T.setTop (mkF m pc Ls (S))) := by
  subst hp; exact own_st (fun t k => XS.iinc X.here hx rfl hd hl (hz ▸ hl') k) h
theorem own_dup {Φ : Outcome → State → Prop} (X : Stand p l e R s m args below meth c T locs cells slots) (hx : p.tables.exec = Jvm.exec) {pc : Nat} (pc' : Nat) {Ls : Array Slot} {S : List Value} {v : Value} (hd : decode c.code pc = .ok (.dup, 1)) (hc : v.category = 1) (h : own_Gs p e below Φ (T.setTop (mkF m pc' Ls (v :: v :: S)))) (hp : pc + 1 = pc' := by rfl) : own_Gs p e below Φ (T.setTop (mkF m pc Ls (v :: S))) := by
  subst hp; exact own_st (fun t k => XS.dup X.here hx rfl hd rfl hc k) h
theorem own_pop {Φ : Outcome → State → Prop} (X : Stand p l e R s m args below meth c T locs cells slots) (hx : p.tables.exec = Jvm.exec) {pc : Nat} (pc' : Nat) {Ls : Array Slot} {S : List Value} {v : Value} (hd : decode c.code pc = .ok (.pop, 1)) (hc : v.category = 1) (h : own_Gs p e below Φ (T.setTop (mkF m pc' Ls (S)))) (hp : pc + 1 = pc' := by rfl) : own_Gs p e below Φ (T.setTop (mkF m pc Ls (v :: S))) := by
  subst hp; exact own_st (fun t k => XS.pop X.here hx rfl hd rfl hc k) h
theorem own_dupX1 {Φ : Outcome → State → Prop} (X : Stand p l e R s m args below meth c T locs cells slots) (hx : p.tables.exec = Jvm.exec) {pc : Nat} (pc' : Nat) {Ls : Array Slot} {S : List Value} {v w : Value} (hd : decode c.code pc = .ok (.dup_x1, 1)) (hc : v.category = 1) (hc' : w.category = 1) (h : own_Gs p e below Φ (T.setTop (mkF m pc' Ls (v :: w :: v :: S)))) (hp : pc + 1 = pc' := by rfl) : own_Gs p e below Φ (T.setTop (mkF m pc Ls (v :: w :: S))) := by
  subst hp; exact own_st (fun t k => XS.dupX1 X.here hx rfl hd rfl hc hc' k) h
theorem own_dup2 {Φ : Outcome → State → Prop} (X : Stand p l e R s m args below meth c T locs cells slots) (hx : p.tables.exec = Jvm.exec) {pc : Nat} (pc' : Nat) {Ls : Array Slot} {S : List Value} {v w : Value} (hd : decode c.code pc = .ok (.dup2, 1)) (hc : v.category = 1) (hc' : w.category = 1) (h : own_Gs p e below Φ (T.setTop (mkF m pc' Ls (v :: w :: v :: w :: S)))) (hp : pc + 1 = pc' := by rfl) : own_Gs p e below Φ (T.setTop (mkF m pc Ls (v :: w :: S))) := by
  subst hp; exact own_st (fun t k => Jvm.Free.XT.dup2 X.here hx rfl hd rfl hc hc' k) h
theorem own_dup2L {Φ : Outcome → State → Prop} (X : Stand p l e R s m args below meth c T locs cells slots) (hx : p.tables.exec = Jvm.exec) {pc : Nat} (pc' : Nat) {Ls : Array Slot} {S : List Value} {x : Int64} (hd : decode c.code pc = .ok (.dup2, 1)) (h : own_Gs p e below Φ (T.setTop (mkF m pc' Ls (.long x :: .long x :: S)))) (hp : pc + 1 = pc' := by rfl) : own_Gs p e below Φ (T.setTop (mkF m pc Ls (.long x :: S))) := by
  subst hp; exact own_st (fun t k => Jvm.Free.XT.dup2L X.here hx rfl hd rfl k) h
theorem own_goto {Φ : Outcome → State → Prop} (X : Stand p l e R s m args below meth c T locs cells slots) (hx : p.tables.exec = Jvm.exec) {pc : Nat} (pc' : Nat) {Ls : Array Slot} {S : List Value} {o : Int}  (hd : decode c.code pc = .ok (.goto o, 3)) (h : own_Gs p e below Φ (T.setTop (mkF m pc' Ls S))) (hp : decide (0 ≤ (pc : Int) + o ∧ ((pc : Int) + o).toNat = pc') = true := by rfl) : own_Gs p e below Φ (T.setTop (mkF m pc Ls (S))) := by
  have q := of_decide_eq_true hp; exact own_st (fun t k => XS.goto X.here hx rfl (pc0 := pc) (pc' := pc') rfl hd q.1 q.2 k) h
theorem own_ifYes {Φ : Outcome → State → Prop} (X : Stand p l e R s m args below meth c T locs cells slots) (hx : p.tables.exec = Jvm.exec) {pc : Nat} (pc' : Nat) {Ls : Array Slot} {S : List Value} {o : Int} {cd : ClassFile.Cond} {x : Int32} (hd : decode c.code pc = .ok (.ifCond cd o, 3)) (hc : if_icmp.holds cd x 0 = true) (h : own_Gs p e below Φ (T.setTop (mkF m pc' Ls S))) (hp : decide (0 ≤ (pc : Int) + o ∧ ((pc : Int) + o).toNat = pc') = true := by rfl) : own_Gs p e below Φ (T.setTop (mkF m pc Ls (.int x :: S))) := by
  have q := of_decide_eq_true hp; exact own_st (fun t k => XS.ifYes X.here hx rfl (pc0 := pc) (pc' := pc') rfl hd rfl ((if0 _ _).trans hc) q.1 q.2 k) h
theorem own_ifNo {Φ : Outcome → State → Prop} (X : Stand p l e R s m args below meth c T locs cells slots) (hx : p.tables.exec = Jvm.exec) {pc : Nat} (pc' : Nat) {Ls : Array Slot} {S : List Value} {o : Int} {cd : ClassFile.Cond} {x : Int32} (hd : decode c.code pc = .ok (.ifCond cd o, 3)) (hc : if_icmp.holds cd x 0 = false) (h : own_Gs p e below Φ (T.setTop (mkF m pc' Ls S))) (hp : pc + 3 = pc' := by rfl) : own_Gs p e below Φ (T.setTop (mkF m pc Ls (.int x :: S))) := by
  subst hp; exact own_st (fun t k => XS.ifNo X.here hx rfl hd rfl ((if0 _ _).trans hc) k) h
theorem own_icmpYes {Φ : Outcome → State → Prop} (X : Stand p l e R s m args below meth c T locs cells slots) (hx : p.tables.exec = Jvm.exec) {pc : Nat} (pc' : Nat) {Ls : Array Slot} {S : List Value} {o : Int} {cd : ClassFile.Cond} {x y : Int32} (hd : decode c.code pc = .ok (.if_icmp cd o, 3)) (hc : if_icmp.holds cd x y = true) (h : own_Gs p e below Φ (T.setTop (mkF m pc' Ls S))) (hp : decide (0 ≤ (pc : Int) + o ∧ ((pc : Int) + o).toNat = pc') = true := by rfl) : own_Gs p e below Φ (T.setTop (mkF m pc Ls (.int y :: .int x :: S))) := by
  have q := of_decide_eq_true hp; exact own_st (fun t k => XS.icmpYes X.here hx rfl (pc0 := pc) (pc' := pc') rfl hd rfl hc q.1 q.2 k) h
theorem own_icmpNo {Φ : Outcome → State → Prop} (X : Stand p l e R s m args below meth c T locs cells slots) (hx : p.tables.exec = Jvm.exec) {pc : Nat} (pc' : Nat) {Ls : Array Slot} {S : List Value} {o : Int} {cd : ClassFile.Cond} {x y : Int32} (hd : decode c.code pc = .ok (.if_icmp cd o, 3)) (hc : if_icmp.holds cd x y = false) (h : own_Gs p e below Φ (T.setTop (mkF m pc' Ls S))) (hp : pc + 3 = pc' := by rfl) : own_Gs p e below Φ (T.setTop (mkF m pc Ls (.int y :: .int x :: S))) := by
  subst hp; exact own_st (fun t k => XS.icmpNo X.here hx rfl hd rfl hc k) h
theorem own_ifnullYes {Φ : Outcome → State → Prop} (X : Stand p l e R s m args below meth c T locs cells slots) (hx : p.tables.exec = Jvm.exec) {pc : Nat} (pc' : Nat) {Ls : Array Slot} {S : List Value} {o : Int}  (hd : decode c.code pc = .ok (.ifnull o, 3)) (h : own_Gs p e below Φ (T.setTop (mkF m pc' Ls S))) (hp : decide (0 ≤ (pc : Int) + o ∧ ((pc : Int) + o).toNat = pc') = true := by rfl) : own_Gs p e below Φ (T.setTop (mkF m pc Ls (.null :: S))) := by
  have q := of_decide_eq_true hp; exact own_st (fun t k => XS.ifnullYes X.here hx rfl (pc0 := pc) (pc' := pc') rfl hd rfl q.1 q.2 k) h
theorem own_ifnullNo {Φ : Outcome → State → Prop} (X : Stand p l e R s m args below meth c T locs cells slots) (hx : p.tables.exec = Jvm.exec) {pc : Nat} (pc' : Nat) {Ls : Array Slot} {S : List Value} {o : Int} {b : Addr} (hd : decode c.code pc = .ok (.ifnull o, 3)) (h : own_Gs p e below Φ (T.setTop (mkF m pc' Ls S))) (hp : pc + 3 = pc' := by rfl) : own_Gs p e below Φ (T.setTop (mkF m pc Ls (.ref b :: S))) := by
  subst hp; exact own_st (fun t k => XS.ifnullNo X.here hx rfl hd rfl k) h
theorem own_ifnonnullYes {Φ : Outcome → State → Prop} (X : Stand p l e R s m args below meth c T locs cells slots) (hx : p.tables.exec = Jvm.exec) {pc : Nat} (pc' : Nat) {Ls : Array Slot} {S : List Value} {o : Int} {b : Addr} (hd : decode c.code pc = .ok (.ifnonnull o, 3)) (h : own_Gs p e below Φ (T.setTop (mkF m pc' Ls S))) (hp : decide (0 ≤ (pc : Int) + o ∧ ((pc : Int) + o).toNat = pc') = true := by rfl) : own_Gs p e below Φ (T.setTop (mkF m pc Ls (.ref b :: S))) := by
  have q := of_decide_eq_true hp; exact own_st (fun t k => XS.ifnonnullYes X.here hx rfl (pc0 := pc) (pc' := pc') rfl hd rfl q.1 q.2 k) h
theorem own_ifnonnullNo {Φ : Outcome → State → Prop} (X : Stand p l e R s m args below meth c T locs cells slots) (hx : p.tables.exec = Jvm.exec) {pc : Nat} (pc' : Nat) {Ls : Array Slot} {S : List Value} {o : Int}  (hd : decode c.code pc = .ok (.ifnonnull o, 3)) (h : own_Gs p e below Φ (T.setTop (mkF m pc' Ls S))) (hp : pc + 3 = pc' := by rfl) : own_Gs p e below Φ (T.setTop (mkF m pc Ls (.null :: S))) := by
  subst hp; exact own_st (fun t k => XS.ifnonnullNo X.here hx rfl hd rfl k) h
theorem own_acmp {Φ : Outcome → State → Prop} (X : Stand p l e R s m args below meth c T locs cells slots) (hx : p.tables.exec = Jvm.exec) {pc : Nat} (pc' : Nat) {Ls : Array Slot} {S : List Value} {o : Int} {cd : ACond} {v w : Value} (same : Bool) (hd : decode c.code pc = .ok (.if_acmp cd o, 3)) (h1 : v.isRef = true) (h2 : w.isRef = true) (hq : decide (v = w) = same) (h : own_Gs p e below Φ (T.setTop (mkF m pc' Ls S))) (hp : decide (0 ≤ (pc : Int) + o ∧ pc' = if acV cd same = true then ((pc : Int) + o).toNat else pc + 3) = true := by rfl) : own_Gs p e below Φ (T.setTop (mkF m pc Ls (w :: v :: S))) := by
  have q := of_decide_eq_true hp; exact own_st (fun t k => Jvm.RoadKit.acmp (g := mkF m pc Ls (w :: v :: S)) X hx rfl h1 h2 (pc0 := pc) (pc' := pc') (same := same) rfl hd rfl hq q.1 q.2 k) h
theorem own_ldcI {Φ : Outcome → State → Prop} (X : Stand p l e R s m args below meth c T locs cells slots) (hx : p.tables.exec = Jvm.exec) {pc : Nat} (pc' : Nat) {Ls : Array Slot} {S : List Value} {own : String} {index : Nat} {v : Int32} (hown : s.vm.findClass own = some m.cls) (hw : (Jvm.Cond.constant own index v).before args s = true) (hd : decode c.code pc = .ok (.ldc index, 2)) (h : own_Gs p e below Φ (T.setTop (mkF m pc' Ls (.int v :: S)))) (hp : pc + 2 = pc' := by rfl) : own_Gs p e below Φ (T.setTop (mkF m pc Ls S)) := by
  subst hp; exact own_st (fun t k => X.ldcInt hx hown hw (g := mkF m pc Ls S) rfl hd _ k) h
theorem own_ldcwI {Φ : Outcome → State → Prop} (X : Stand p l e R s m args below meth c T locs cells slots) (hx : p.tables.exec = Jvm.exec) {pc : Nat} (pc' : Nat) {Ls : Array Slot} {S : List Value} {own : String} {index : Nat} {v : Int32} (hown : s.vm.findClass own = some m.cls) (hw : (Jvm.Cond.constant own index v).before args s = true) (hd : decode c.code pc = .ok (.ldc_w index, 3)) (h : own_Gs p e below Φ (T.setTop (mkF m pc' Ls (.int v :: S)))) (hp : pc + 3 = pc' := by rfl) : own_Gs p e below Φ (T.setTop (mkF m pc Ls S)) := by
  subst hp; exact own_st (fun t k => X.ldcwInt hx hown hw (g := mkF m pc Ls S) rfl hd _ k) h
theorem own_ldcL {Φ : Outcome → State → Prop} (X : Stand p l e R s m args below meth c T locs cells slots) (hx : p.tables.exec = Jvm.exec) {pc : Nat} (pc' : Nat) {Ls : Array Slot} {S : List Value} {own : String} {index : Nat} {v : Int64} (hown : s.vm.findClass own = some m.cls) (hw : (Jvm.Cond.constantLong own index v).before args s = true) (hd : decode c.code pc = .ok (.ldc2_w index, 3)) (h : own_Gs p e below Φ (T.setTop (mkF m pc' Ls (.long v :: S)))) (hp : pc + 3 = pc' := by rfl) : own_Gs p e below Φ (T.setTop (mkF m pc Ls S)) := by
  subst hp; exact own_st (fun t k => X.ldc2Long hx hown hw (g := mkF m pc Ls S) rfl hd _ k) h
theorem own_pop2L {Φ : Outcome → State → Prop} (X : Stand p l e R s m args below meth c T locs cells slots) (hx : p.tables.exec = Jvm.exec) {pc : Nat} (pc' : Nat) {Ls : Array Slot} {S : List Value} {x : Int64} (hd : decode c.code pc = .ok (.pop2, 1)) (h : own_Gs p e below Φ (T.setTop (mkF m pc' Ls S))) (hp : pc + 1 = pc' := by rfl) : own_Gs p e below Φ (T.setTop (mkF m pc Ls (.long x :: S))) := by
  subst hp
  refine own_st (fun t k => ?_) h
  show Steps p.tables e below (T.setTop { method := m, pc := pc, locals := Ls, stack := .long x :: S, locked := none }) _
  jvm_step X.here [X.here.top, hx, hd, Value.category]
  exact k
-- end of steps
theorem own_leafI {z w : Int32} (h : z = w) : some (Value.int z) = some (Value.int w) := by rw [h]
theorem own_leafJ {z w : Int64} (h : z = w) : some (Value.long z) = some (Value.long w) := by rw [h]
theorem own_leafR {z w : Addr} (h : z = w) : some (Value.ref z) = some (Value.ref w) := by rw [h]
theorem own_selfsel {Z s : State} {a0 args : Array Value} {y : MethodName} {n : Nat} (hZ : Z.Warmed39 s.vm) (wi : (Jvm.Cond.instantiable y.cls n).before a0 Z = true) (wm : (Jvm.Cond.instanceMethod y).before a0 Z = true) (wp : (Jvm.Cond.privateMethod y).before a0 Z = true) (hy : y.cls ≠ "java/lang/invoke/MethodHandle" ∧ y.cls ≠ "java/lang/invoke/VarHandle") : (Jvm.Cond.selects y.cls y y).before args s = true := by
  have wi' : (Jvm.Cond.instantiable y.cls n).before args s = true := mvT hZ wi
  obtain ⟨c, k, h1, h2, h3, h4, h5, h6⟩ := Cond.instantiable_spec wi'
  exact selects_self_of_private h1 h2 (by simp only [Bool.or_eq_false_iff] at h4; exact h4.1) (Cond.privateMethod_at (mvP hZ wp (args := #[]))) (mvT hZ wm) hy
theorem own_sta {Z : State} {a0 : Array Value} {C n d K : String} (hx : (Jvm.Cond.exactly (Term.static C n d) K).value a0 Z none Z [] = some true) (hi : (Jvm.Cond.initializedFor C n d).before a0 Z = true ∨ ((Jvm.Cond.initialized C).before a0 Z = true ∧ (Jvm.Cond.laysStatic C n d).before a0 Z = true)) :
    ∃ a : Addr, (Term.static C n d).eval a0 Z none [] Z = some (.ref a) ∧ Sta Z Z.heap C n d (.ref a) ∧ Exa Z Z.heap a K := by
  obtain ⟨a, ha⟩ := exa_v hx
  exact ⟨a, ha, Sta.start ha hi, Exa.start ha hx⟩
theorem own_fldI {Z : State} {a0 : Array Value} {t : Term} {a : Addr} {C n d : String} {k : Int32} (ev : t.eval a0 Z none [] Z = some (.ref a)) (h : (Jvm.Cond.eq (Term.field t C n d) (Term.int k)).value a0 Z none Z [] = some true) : Fld Z Z.heap a C n d (.int k) := by
  refine Fld.start ?_
  rw [← fld_at (args := a0) (first := Z) (o := none) (idx := []) ev]
  obtain ⟨x, y, h1, h2, h3, h4⟩ := cmp_v (Or.inl h)
  rw [Term.int_eval] at h2
  cases h2
  obtain ⟨z, rfl⟩ := h4
  have q : (Jvm.Cond.eq (Term.field t C n d) (Term.int k)).value a0 Z none Z [] = some (decide (z = k)) := Cond.eq_ints h1 (Term.int_eval k)
  rw [h1, gotT q h]
end Own
theorem own_d6_0 : decode jdk_29_method_66_code 0 = .ok (.lload_n 0, 1) := by decide +kernel
theorem own_d6_1 : decode jdk_29_method_66_code 1 = .ok (.lload_n 2, 1) := by decide +kernel
theorem own_d6_2 : decode jdk_29_method_66_code 2 = .ok (.lcmp, 1) := by decide +kernel
theorem own_d6_3 : decode jdk_29_method_66_code 3 = .ok (.ifCond .lt 7, 3) := by decide +kernel
theorem own_d6_6 : decode jdk_29_method_66_code 6 = .ok (.lload_n 0, 1) := by decide +kernel
theorem own_d6_7 : decode jdk_29_method_66_code 7 = .ok (.goto 4, 3) := by decide +kernel
theorem own_d6_10 : decode jdk_29_method_66_code 10 = .ok (.lload_n 2, 1) := by decide +kernel
theorem own_d6_11 : decode jdk_29_method_66_code 11 = .ok (.lreturn, 1) := by decide +kernel
theorem own_ef6 (m : MethodId) (v0 : Int64) (v1 : Int64) : entryFrame m #[(.long v0), (.long v1)] 4 = mkF m 0 #[.val (.long v0), .second, .val (.long v1), .second] [] := by first | (simp [entryFrame, mkF, argsToLocals, Value.category]; done) | rfl
def own_max (v0 : Int64) (v1 : Int64) : Int64 := (if v0 < v1 then v1 else v0)
def own_Q6 (Z : State) (v0 : Int64) (v1 : Int64) (h0 : Heap) (n0 : Nat) (v : Option Value) (h : Heap) (L : List Loc) : Prop := v = some (.long (own_max v0 v1)) ∧ Fr n0 L ∧ h = h0
set_option maxRecDepth 65536 in
set_option maxHeartbeats 40000000 in
theorem own_rm6 (l : Launch) (Z : State) (a0 : Array Value) (hw : ∀ d ∈ tables_1, d.before a0 Z = true) (ws : List Jvm.Cond) (v0 : Int64) (v1 : Int64) (h0 : Heap) (n0 : Nat) (Z0 : n0 ≤ h0.size)  :
    MetFree l (⟨"java/lang/Math", "max", "(JJ)J"⟩ : MethodName) (head1 (Jvm.Cond.code (⟨"java/lang/Math", "max", "(JJ)J"⟩ : MethodName) jdk_29_method_66_code 4 (some .long) :: ws) ({ frames := 0, cells := 0, slots := 0, locals := 0 } : Room)) (fun a U => a = #[(.long v0), (.long v1)] ∧ Z.Warmed39 U.vm ∧ U.heap = h0) (fun _ _ _ _ _ => True) (fun _ U o U' => ∃ v L, o = .returned v ∧ own_Q6 Z v0 v1 h0 n0 v U'.heap L ∧ FrameEnd U o U' L ({ frames := 0, cells := 0, slots := 0, locals := 0 } : Room).cells ({ frames := 0, cells := 0, slots := 0, locals := 0 } : Room).slots) := by
  refine MetFree.of_bodySF (Jvm.Free.JP.mathPlain rfl (by decide +kernel)) hisR ?_
  intro p e s m args below meth c s₁ Bd hml0 hP hK
  obtain ⟨rfl, hZ, hh⟩ := hP
  have hx := Bd.exec
  have hby := Bd.bytes
  have hlk := Bd.notSynchronized
  have hrt := Bd.returns
  have hml : c.maxLocals = 4 := hml0
  have hown : s.vm.findClass "java/lang/Math" = some m.cls := findClass_of_methodNamed Bd.named
  have hnm := (name_of_methodNamed Bd.named Bd.method).1
  have X0 : Stand p l e ({ frames := 0, cells := 0, slots := 0, locals := 0 } : Room) s m #[(.long v0), (.long v1)] below meth c s₁ [] 0 0 := Stand.of_body Bd
  have e0 : s₁.heap = h0 := by rw [← hh, Bd.state]; rfl
  have N0 := Fr.nil n0
  refine own_in (own_ef6 m v0 v1) ?_
  refine own_lloadN X0 hx 1 (hb hby own_d6_0) rfl ?_
  refine own_lloadN X0 hx 2 (hb hby own_d6_1) rfl ?_
  refine own_lcmp X0 hx 3 (hb hby own_d6_2) ?_
  by_cases hc3_1 : v0 < v1
  · refine own_ifYes X0 hx 10 (hb hby own_d6_3) (tlt ((lw_lt _ _).mpr hc3_1)).1 ?_
    refine own_lloadN X0 hx 11 (hb hby own_d6_10) rfl ?_
    exact own_retL (z := v1) (Q := own_Q6 Z v0 v1 h0 n0) X0 hx hrt (hb hby own_d6_11) hlk e0 ⟨(own_leafJ (show v1 = own_max v0 v1 from by unfold own_max; rw [if_pos hc3_1])), N0, rfl⟩ (by decide) (by decide)
  · refine own_ifNo X0 hx 6 (hb hby own_d6_3) (flt (mt (lw_lt _ _).mp hc3_1)).1 ?_
    refine own_lloadN X0 hx 7 (hb hby own_d6_6) rfl ?_
    refine own_goto X0 hx 11 (hb hby own_d6_7) ?_
    exact own_retL (z := v0) (Q := own_Q6 Z v0 v1 h0 n0) X0 hx hrt (hb hby own_d6_11) hlk e0 ⟨(own_leafJ (show v0 = own_max v0 v1 from by unfold own_max; rw [if_neg hc3_1])), N0, rfl⟩ (by decide) (by decide)
theorem own_d7_0 : decode jdk_29_method_70_code 0 = .ok (.lload_n 0, 1) := by decide +kernel
theorem own_d7_1 : decode jdk_29_method_70_code 1 = .ok (.lload_n 2, 1) := by decide +kernel
theorem own_d7_2 : decode jdk_29_method_70_code 2 = .ok (.lcmp, 1) := by decide +kernel
theorem own_d7_3 : decode jdk_29_method_70_code 3 = .ok (.ifCond .gt 7, 3) := by decide +kernel
theorem own_d7_6 : decode jdk_29_method_70_code 6 = .ok (.lload_n 0, 1) := by decide +kernel
theorem own_d7_7 : decode jdk_29_method_70_code 7 = .ok (.goto 4, 3) := by decide +kernel
theorem own_d7_10 : decode jdk_29_method_70_code 10 = .ok (.lload_n 2, 1) := by decide +kernel
theorem own_d7_11 : decode jdk_29_method_70_code 11 = .ok (.lreturn, 1) := by decide +kernel
theorem own_ef7 (m : MethodId) (v0 : Int64) (v1 : Int64) : entryFrame m #[(.long v0), (.long v1)] 4 = mkF m 0 #[.val (.long v0), .second, .val (.long v1), .second] [] := by first | (simp [entryFrame, mkF, argsToLocals, Value.category]; done) | rfl
def own_min (v0 : Int64) (v1 : Int64) : Int64 := (if v1 < v0 then v1 else v0)
def own_Q7 (Z : State) (v0 : Int64) (v1 : Int64) (h0 : Heap) (n0 : Nat) (v : Option Value) (h : Heap) (L : List Loc) : Prop := v = some (.long (own_min v0 v1)) ∧ Fr n0 L ∧ h = h0
set_option maxRecDepth 65536 in
set_option maxHeartbeats 40000000 in
theorem own_rm7 (l : Launch) (Z : State) (a0 : Array Value) (hw : ∀ d ∈ tables_1, d.before a0 Z = true) (ws : List Jvm.Cond) (v0 : Int64) (v1 : Int64) (h0 : Heap) (n0 : Nat) (Z0 : n0 ≤ h0.size)  :
    MetFree l (⟨"java/lang/Math", "min", "(JJ)J"⟩ : MethodName) (head1 (Jvm.Cond.code (⟨"java/lang/Math", "min", "(JJ)J"⟩ : MethodName) jdk_29_method_70_code 4 (some .long) :: ws) ({ frames := 0, cells := 0, slots := 0, locals := 0 } : Room)) (fun a U => a = #[(.long v0), (.long v1)] ∧ Z.Warmed39 U.vm ∧ U.heap = h0) (fun _ _ _ _ _ => True) (fun _ U o U' => ∃ v L, o = .returned v ∧ own_Q7 Z v0 v1 h0 n0 v U'.heap L ∧ FrameEnd U o U' L ({ frames := 0, cells := 0, slots := 0, locals := 0 } : Room).cells ({ frames := 0, cells := 0, slots := 0, locals := 0 } : Room).slots) := by
  refine MetFree.of_bodySF (Jvm.Free.JP.mathPlain rfl (by decide +kernel)) hisR ?_
  intro p e s m args below meth c s₁ Bd hml0 hP hK
  obtain ⟨rfl, hZ, hh⟩ := hP
  have hx := Bd.exec
  have hby := Bd.bytes
  have hlk := Bd.notSynchronized
  have hrt := Bd.returns
  have hml : c.maxLocals = 4 := hml0
  have hown : s.vm.findClass "java/lang/Math" = some m.cls := findClass_of_methodNamed Bd.named
  have hnm := (name_of_methodNamed Bd.named Bd.method).1
  have X0 : Stand p l e ({ frames := 0, cells := 0, slots := 0, locals := 0 } : Room) s m #[(.long v0), (.long v1)] below meth c s₁ [] 0 0 := Stand.of_body Bd
  have e0 : s₁.heap = h0 := by rw [← hh, Bd.state]; rfl
  have N0 := Fr.nil n0
  refine own_in (own_ef7 m v0 v1) ?_
  refine own_lloadN X0 hx 1 (hb hby own_d7_0) rfl ?_
  refine own_lloadN X0 hx 2 (hb hby own_d7_1) rfl ?_
  refine own_lcmp X0 hx 3 (hb hby own_d7_2) ?_
  by_cases hc3_1 : v1 < v0
  · refine own_ifYes X0 hx 10 (hb hby own_d7_3) (tlt ((lw_gt _ _).mpr hc3_1)).2.2.1 ?_
    refine own_lloadN X0 hx 11 (hb hby own_d7_10) rfl ?_
    exact own_retL (z := v1) (Q := own_Q7 Z v0 v1 h0 n0) X0 hx hrt (hb hby own_d7_11) hlk e0 ⟨(own_leafJ (show v1 = own_min v0 v1 from by unfold own_min; rw [if_pos hc3_1])), N0, rfl⟩ (by decide) (by decide)
  · refine own_ifNo X0 hx 6 (hb hby own_d7_3) (flt (mt (lw_gt _ _).mp hc3_1)).2.2.1 ?_
    refine own_lloadN X0 hx 7 (hb hby own_d7_6) rfl ?_
    refine own_goto X0 hx 11 (hb hby own_d7_7) ?_
    exact own_retL (z := v0) (Q := own_Q7 Z v0 v1 h0 n0) X0 hx hrt (hb hby own_d7_11) hlk e0 ⟨(own_leafJ (show v0 = own_min v0 v1 from by unfold own_min; rw [if_neg hc3_1])), N0, rfl⟩ (by decide) (by decide)
theorem own_d5_0 : decode jdk_37_method_2_code 0 = .ok (.aload_n 0, 1) := by decide +kernel
theorem own_d5_1 : decode jdk_37_method_2_code 1 = .ok (.getfield 7, 3) := by decide +kernel
theorem own_d5_4 : decode jdk_37_method_2_code 4 = .ok (.ireturn, 1) := by decide +kernel
theorem own_pn0 : plainName "java/lang/Enum" = true := by first | (simp [plainName, overriddenIn]; done) | decide +kernel
theorem own_ef5 (m : MethodId) (o1 : Addr) : entryFrame m #[(.ref o1)] 1 = mkF m 0 #[.val (.ref o1)] [] := by first | (simp [entryFrame, mkF, argsToLocals, Value.category]; done) | rfl
def own_Q5 (Z : State) (o1 : Addr) (v1 : Int32) (h0 : Heap) (n0 : Nat) (v : Option Value) (h : Heap) (L : List Loc) : Prop := v = some (.int v1) ∧ Fr n0 L ∧ h = h0
set_option maxRecDepth 65536 in
set_option maxHeartbeats 40000000 in
theorem own_rm5 (l : Launch) (Z : State) (a0 : Array Value) (hw : ∀ d ∈ tables_1, d.before a0 Z = true) (ws : List Jvm.Cond) (o1 : Addr) (v1 : Int32) (h0 : Heap) (n0 : Nat) (Z0 : n0 ≤ h0.size) (pF1 : Fld Z h0 o1 "java/lang/Enum" "ordinal" "I" (.int v1)) :
    MetFree l (⟨"java/lang/Enum", "ordinal", "()I"⟩ : MethodName) (head1 (Jvm.Cond.code (⟨"java/lang/Enum", "ordinal", "()I"⟩ : MethodName) jdk_37_method_2_code 1 (some .int) :: ws) ({ frames := 0, cells := 0, slots := 0, locals := 0 } : Room)) (fun a U => a = #[(.ref o1)] ∧ Z.Warmed39 U.vm ∧ U.heap = h0) (fun _ _ _ _ _ => True) (fun _ U o U' => ∃ v L, o = .returned v ∧ own_Q5 Z o1 v1 h0 n0 v U'.heap L ∧ FrameEnd U o U' L ({ frames := 0, cells := 0, slots := 0, locals := 0 } : Room).cells ({ frames := 0, cells := 0, slots := 0, locals := 0 } : Room).slots) := by
  refine MetFree.of_bodySF (plainFor_of_name own_pn0) hisR ?_
  intro p e s m args below meth c s₁ Bd hml0 hP hK
  obtain ⟨rfl, hZ, hh⟩ := hP
  have hx := Bd.exec
  have hby := Bd.bytes
  have hlk := Bd.notSynchronized
  have hrt := Bd.returns
  have hml : c.maxLocals = 1 := hml0
  have hown : s.vm.findClass "java/lang/Enum" = some m.cls := findClass_of_methodNamed Bd.named
  have hnm := (name_of_methodNamed Bd.named Bd.method).1
  have X0 : Stand p l e ({ frames := 0, cells := 0, slots := 0, locals := 0 } : Room) s m #[(.ref o1)] below meth c s₁ [] 0 0 := Stand.of_body Bd
  have e0 : s₁.heap = h0 := by rw [← hh, Bd.state]; rfl
  have N0 := Fr.nil n0
  refine own_in (own_ef5 m o1) ?_
  refine own_aloadN X0 hx 1 (hb hby own_d5_0) rfl rfl ?_
  obtain ⟨T1, X1, e1, st1⟩ := getF X0 hx hZ hown (host := "") (Or.inl (hw _ (List.mem_of_getElem? (i := 35) rfl))) Via.refl e0 pF1 (g := (mkF m 1 #[.val (.ref o1)] [(.ref o1)])) rfl rfl (hb hby own_d5_1)
  refine own_st (G' := T1.setTop (mkF m 4 #[.val (.ref o1)] [(.int v1)])) st1 ?_
  exact own_retI (z := v1) (Q := own_Q5 Z o1 v1 h0 n0) X1 hx hrt (hb hby own_d5_4) hlk e1 ⟨rfl, N0, rfl⟩ (by decide) (by decide)
theorem own_d2_0 : decode jdk_30_method_1_code 0 = .ok (.aload_n 0, 1) := by decide +kernel
theorem own_d2_1 : decode jdk_30_method_1_code 1 = .ok (.invokespecial 1, 3) := by decide +kernel
theorem own_d2_4 : decode jdk_30_method_1_code 4 = .ok (.return_, 1) := by decide +kernel
theorem own_pn1 : plainName "java/lang/Record" = true := by first | (simp [plainName, overriddenIn]; done) | decide +kernel
theorem own_ef2 (m : MethodId) (o1 : Addr) : entryFrame m #[(.ref o1)] 1 = mkF m 0 #[.val (.ref o1)] [] := by first | (simp [entryFrame, mkF, argsToLocals, Value.category]; done) | rfl
def own_Q2 (Z : State) (o1 : Addr) (h0 : Heap) (n0 : Nat) (v : Option Value) (h : Heap) (L : List Loc) : Prop := v = none ∧ Fr n0 L ∧ h = h0
set_option maxRecDepth 65536 in
set_option maxHeartbeats 40000000 in
theorem own_rm2 (l : Launch) (Z : State) (a0 : Array Value) (hw : ∀ d ∈ tables_1, d.before a0 Z = true) (ws : List Jvm.Cond) (o1 : Addr) (h0 : Heap) (n0 : Nat) (Z0 : n0 ≤ h0.size)  :
    MetFree l (⟨"java/lang/Record", "<init>", "()V"⟩ : MethodName) (head1 (Jvm.Cond.code (⟨"java/lang/Record", "<init>", "()V"⟩ : MethodName) jdk_30_method_1_code 1 none :: ws) ({ frames := 1, cells := 0, slots := 0, locals := 12 } : Room)) (fun a U => a = #[(.ref o1)] ∧ Z.Warmed39 U.vm ∧ U.heap = h0) (fun _ _ _ _ _ => True) (fun _ U o U' => ∃ v L, o = .returned v ∧ own_Q2 Z o1 h0 n0 v U'.heap L ∧ FrameEnd U o U' L ({ frames := 1, cells := 0, slots := 0, locals := 12 } : Room).cells ({ frames := 1, cells := 0, slots := 0, locals := 12 } : Room).slots) := by
  refine MetFree.of_bodySF (plainFor_of_name own_pn1) hisR ?_
  intro p e s m args below meth c s₁ Bd hml0 hP hK
  obtain ⟨rfl, hZ, hh⟩ := hP
  have hx := Bd.exec
  have hby := Bd.bytes
  have hlk := Bd.notSynchronized
  have hrt := Bd.returns
  have hml : c.maxLocals = 1 := hml0
  have hown : s.vm.findClass "java/lang/Record" = some m.cls := findClass_of_methodNamed Bd.named
  have hnm := (name_of_methodNamed Bd.named Bd.method).1
  have X0 : Stand p l e ({ frames := 1, cells := 0, slots := 0, locals := 12 } : Room) s m #[(.ref o1)] below meth c s₁ [] 0 0 := Stand.of_body Bd
  have e0 : s₁.heap = h0 := by rw [← hh, Bd.state]; rfl
  have N0 := Fr.nil n0
  refine own_in (own_ef2 m o1) ?_
  refine own_aloadN X0 hx 1 (hb hby own_d2_0) rfl rfl ?_
  obtain ⟨T1, X1, e1, st1⟩ := initO X0 hx hZ hown (hw _ (List.mem_of_getElem? (i := 15) rfl)) (hw _ (List.mem_of_getElem? (i := 16) rfl)) (hw _ (List.mem_of_getElem? (i := 17) rfl)) e0 (g := (mkF m 1 #[.val (.ref o1)] [(.ref o1)])) rfl (by rw [hml]; rfl) rfl (hb hby own_d2_1) (by decide) (W := 0) (by show 2 * 0 + _ ≤ _; exact Nat.le_of_eq rfl) (by decide)
  refine own_st (G' := T1.setTop (mkF m 4 #[.val (.ref o1)] [])) st1 ?_
  exact own_retV (Q := own_Q2 Z o1 h0 n0) X1 hx hrt (hb hby own_d2_4) hlk e1 ⟨rfl, N0, rfl⟩ (by decide) (by decide)
theorem own_d1_0 : decode prog_20_method_1_code 0 = .ok (.aload_n 0, 1) := by decide +kernel
theorem own_d1_1 : decode prog_20_method_1_code 1 = .ok (.invokespecial 1, 3) := by decide +kernel
theorem own_d1_4 : decode prog_20_method_1_code 4 = .ok (.aload_n 1, 1) := by decide +kernel
theorem own_d1_5 : decode prog_20_method_1_code 5 = .ok (.ifnonnull 13, 3) := by decide +kernel
theorem own_d1_18 : decode prog_20_method_1_code 18 = .ok (.aload_n 1, 1) := by decide +kernel
theorem own_d1_19 : decode prog_20_method_1_code 19 = .ok (.getstatic 14, 3) := by decide +kernel
theorem own_d1_22 : decode prog_20_method_1_code 22 = .ok (.if_acmp .ne 19, 3) := by decide +kernel
theorem own_d1_25 : decode prog_20_method_1_code 25 = .ok (.lload_n 2, 1) := by decide +kernel
theorem own_d1_26 : decode prog_20_method_1_code 26 = .ok (.lconst 0, 1) := by decide +kernel
theorem own_d1_27 : decode prog_20_method_1_code 27 = .ok (.lcmp, 1) := by decide +kernel
theorem own_d1_28 : decode prog_20_method_1_code 28 = .ok (.ifCond .eq 13, 3) := by decide +kernel
theorem own_d1_41 : decode prog_20_method_1_code 41 = .ok (.aload_n 0, 1) := by decide +kernel
theorem own_d1_42 : decode prog_20_method_1_code 42 = .ok (.aload_n 1, 1) := by decide +kernel
theorem own_d1_43 : decode prog_20_method_1_code 43 = .ok (.putfield 25, 3) := by decide +kernel
theorem own_d1_46 : decode prog_20_method_1_code 46 = .ok (.aload_n 0, 1) := by decide +kernel
theorem own_d1_47 : decode prog_20_method_1_code 47 = .ok (.lload_n 2, 1) := by decide +kernel
theorem own_d1_48 : decode prog_20_method_1_code 48 = .ok (.putfield 29, 3) := by decide +kernel
theorem own_d1_51 : decode prog_20_method_1_code 51 = .ok (.return_, 1) := by decide +kernel
theorem own_pn2 : plainName "com/example/tallybound/tallybound/counter/Bound" = true := by first | (simp [plainName, overriddenIn]; done) | decide +kernel
theorem own_pd0 : parseMethodDescriptor "()V" = some ⟨[], none⟩ := by decide +kernel
theorem own_ef1 (m : MethodId) (o1 : Addr) (o2 : Addr) (q1 : Int64) : entryFrame m #[(.ref o1), (.ref o2), (.long q1)] 4 = mkF m 0 #[.val (.ref o1), .val (.ref o2), .val (.long q1), .second] [] := by first | (simp [entryFrame, mkF, argsToLocals, Value.category]; done) | rfl
def own_Q1 (Z : State) (w_NONE : Addr) (w_FLOOR : Addr) (w_CEILING : Addr) (S_w_NONE : Sta Z Z.heap "com/example/tallybound/tallybound/counter/Bound$Kind" "NONE" "Lcom/example/tallybound/tallybound/counter/Bound$Kind;" (.ref w_NONE)) (S_w_FLOOR : Sta Z Z.heap "com/example/tallybound/tallybound/counter/Bound$Kind" "FLOOR" "Lcom/example/tallybound/tallybound/counter/Bound$Kind;" (.ref w_FLOOR)) (S_w_CEILING : Sta Z Z.heap "com/example/tallybound/tallybound/counter/Bound$Kind" "CEILING" "Lcom/example/tallybound/tallybound/counter/Bound$Kind;" (.ref w_CEILING)) (E_w_NONE : Exa Z Z.heap w_NONE "com/example/tallybound/tallybound/counter/Bound$Kind") (F_ordinal_w_NONE : Fld Z Z.heap w_NONE "java/lang/Enum" "ordinal" "I" (.int (0 : Int32))) (E_w_FLOOR : Exa Z Z.heap w_FLOOR "com/example/tallybound/tallybound/counter/Bound$Kind") (F_ordinal_w_FLOOR : Fld Z Z.heap w_FLOOR "java/lang/Enum" "ordinal" "I" (.int (1 : Int32))) (E_w_CEILING : Exa Z Z.heap w_CEILING "com/example/tallybound/tallybound/counter/Bound$Kind") (F_ordinal_w_CEILING : Fld Z Z.heap w_CEILING "java/lang/Enum" "ordinal" "I" (.int (2 : Int32))) (ne_w_NONE_w_FLOOR : w_NONE ≠ w_FLOOR) (ne_w_NONE_w_CEILING : w_NONE ≠ w_CEILING) (ne_w_FLOOR_w_CEILING : w_FLOOR ≠ w_CEILING) (o1 : Addr) (o2 : Addr) (q1 : Int64) (h0 : Heap) (n0 : Nat) (v : Option Value) (h : Heap) (L : List Loc) : Prop := v = none ∧ Fr n0 L ∧ Keep h0 h [o1] ∧ Exa Z h o1 "com/example/tallybound/tallybound/counter/Bound" ∧ Fld Z h o1 "com/example/tallybound/tallybound/counter/Bound" "kind" "Lcom/example/tallybound/tallybound/counter/Bound$Kind;" (.ref o2) ∧ Fld Z h o1 "com/example/tallybound/tallybound/counter/Bound" "limit" "J" (.long q1)
set_option maxRecDepth 65536 in
set_option maxHeartbeats 40000000 in
theorem own_rm1 (l : Launch) (Z : State) (a0 : Array Value) (hw : ∀ d ∈ tables_1, d.before a0 Z = true) (ws : List Jvm.Cond) (w_NONE : Addr) (w_FLOOR : Addr) (w_CEILING : Addr) (S_w_NONE : Sta Z Z.heap "com/example/tallybound/tallybound/counter/Bound$Kind" "NONE" "Lcom/example/tallybound/tallybound/counter/Bound$Kind;" (.ref w_NONE)) (S_w_FLOOR : Sta Z Z.heap "com/example/tallybound/tallybound/counter/Bound$Kind" "FLOOR" "Lcom/example/tallybound/tallybound/counter/Bound$Kind;" (.ref w_FLOOR)) (S_w_CEILING : Sta Z Z.heap "com/example/tallybound/tallybound/counter/Bound$Kind" "CEILING" "Lcom/example/tallybound/tallybound/counter/Bound$Kind;" (.ref w_CEILING)) (E_w_NONE : Exa Z Z.heap w_NONE "com/example/tallybound/tallybound/counter/Bound$Kind") (F_ordinal_w_NONE : Fld Z Z.heap w_NONE "java/lang/Enum" "ordinal" "I" (.int (0 : Int32))) (E_w_FLOOR : Exa Z Z.heap w_FLOOR "com/example/tallybound/tallybound/counter/Bound$Kind") (F_ordinal_w_FLOOR : Fld Z Z.heap w_FLOOR "java/lang/Enum" "ordinal" "I" (.int (1 : Int32))) (E_w_CEILING : Exa Z Z.heap w_CEILING "com/example/tallybound/tallybound/counter/Bound$Kind") (F_ordinal_w_CEILING : Fld Z Z.heap w_CEILING "java/lang/Enum" "ordinal" "I" (.int (2 : Int32))) (ne_w_NONE_w_FLOOR : w_NONE ≠ w_FLOOR) (ne_w_NONE_w_CEILING : w_NONE ≠ w_CEILING) (ne_w_FLOOR_w_CEILING : w_FLOOR ≠ w_CEILING) (o1 : Addr) (o2 : Addr) (q1 : Int64) (h0 : Heap) (n0 : Nat) (Z0 : n0 ≤ h0.size) (pE1 : Exa Z h0 o1 "com/example/tallybound/tallybound/counter/Bound") (pF2 : Fld Z h0 o1 "com/example/tallybound/tallybound/counter/Bound" "kind" "Lcom/example/tallybound/tallybound/counter/Bound$Kind;" .null) (pF3 : Fld Z h0 o1 "com/example/tallybound/tallybound/counter/Bound" "limit" "J" (.long (0 : Int64))) (pG4 : n0 ≤ o1) (O0 : Old Z n0 h0) (hN : o2 = w_NONE → q1 = (0 : Int64)) :
    MetFree l (⟨"com/example/tallybound/tallybound/counter/Bound", "<init>", "(Lcom/example/tallybound/tallybound/counter/Bound$Kind;J)V"⟩ : MethodName) (head1 (Jvm.Cond.code (⟨"com/example/tallybound/tallybound/counter/Bound", "<init>", "(Lcom/example/tallybound/tallybound/counter/Bound$Kind;J)V"⟩ : MethodName) prog_20_method_1_code 4 none :: ws) ({ frames := 2, cells := 0, slots := 0, locals := 24 } : Room)) (fun a U => a = #[(.ref o1), (.ref o2), (.long q1)] ∧ Z.Warmed39 U.vm ∧ U.heap = h0) (fun _ _ _ _ _ => True) (fun _ U o U' => ∃ v L, o = .returned v ∧ own_Q1 Z w_NONE w_FLOOR w_CEILING S_w_NONE S_w_FLOOR S_w_CEILING E_w_NONE F_ordinal_w_NONE E_w_FLOOR F_ordinal_w_FLOOR E_w_CEILING F_ordinal_w_CEILING ne_w_NONE_w_FLOOR ne_w_NONE_w_CEILING ne_w_FLOOR_w_CEILING o1 o2 q1 h0 n0 v U'.heap L ∧ FrameEnd U o U' L ({ frames := 2, cells := 0, slots := 0, locals := 24 } : Room).cells ({ frames := 2, cells := 0, slots := 0, locals := 24 } : Room).slots) := by
  refine MetFree.of_bodySF (plainFor_of_name own_pn2) hisR ?_
  intro p e s m args below meth c s₁ Bd hml0 hP hK
  obtain ⟨rfl, hZ, hh⟩ := hP
  have hx := Bd.exec
  have hby := Bd.bytes
  have hlk := Bd.notSynchronized
  have hrt := Bd.returns
  have hml : c.maxLocals = 4 := hml0
  have hown : s.vm.findClass "com/example/tallybound/tallybound/counter/Bound" = some m.cls := findClass_of_methodNamed Bd.named
  have hnm := (name_of_methodNamed Bd.named Bd.method).1
  have X0 : Stand p l e ({ frames := 2, cells := 0, slots := 0, locals := 24 } : Room) s m #[(.ref o1), (.ref o2), (.long q1)] below meth c s₁ [] 0 0 := Stand.of_body Bd
  have e0 : s₁.heap = h0 := by rw [← hh, Bd.state]; rfl
  have N0 := Fr.nil n0
  have KC0 := Keep.refl h0 [o1]
  refine own_in (own_ef1 m o1 o2 q1) ?_
  refine own_aloadN X0 hx 1 (hb hby own_d1_0) rfl rfl ?_
  obtain ⟨_, _, ⟨T1, Lx1, kc1, nc1⟩, -, X1, ⟨Lc1, hQ1, lq1, yq1, zq1⟩, st1⟩ := X0.specialBack hx (y := (⟨"java/lang/Record", "<init>", "()V"⟩ : MethodName)) rfl hown (mvT hZ (hw _ (List.mem_of_getElem? (i := 10) rfl))) (mvT hZ (hw _ (List.mem_of_getElem? (i := 11) rfl))) (mvT hZ (hw _ (List.mem_of_getElem? (i := 14) rfl))) (by decide) (backOf (W := 0) (own_rm2 l Z a0 hw [] o1 h0 n0 Z0 ) hZ (hw _ (List.mem_of_getElem? (i := 14) rfl)) (hw _ (List.mem_of_getElem? (i := 13) rfl)) (by decide) (by decide)) (g := (mkF m 1 #[.val (.ref o1), .val (.ref o2), .val (.long q1), .second] [(.ref o1)])) rfl (by rw [hml]; rfl) (Steps.refl _) (a := o1) (argsL := []) (rest := []) (lenOf own_pd0 rfl) rfl (by show 2 * 0 + _ ≤ _; exact Nat.le_of_eq rfl) (hb hby own_d1_1) (fun _ _ => ⟨rfl, e0, (by decide : 0 + 0 ≤ _), (by decide : 0 + 0 ≤ _)⟩)
  dsimp only [Pt.U, Pt.locs, Pt.cells, Pt.slots] at X1 lq1 yq1 zq1 st1 hQ1
  subst lq1 yq1 zq1
  obtain ⟨rfl, Nq1, eh1⟩ := hQ1
  have N1 := Fr.app N0 Nq1
  refine own_st (G' := T1.setTop (mkF m 4 #[.val (.ref o1), .val (.ref o2), .val (.long q1), .second] [])) (fun t k => st1.trans k) ?_
  refine own_aloadN X1 hx 5 (hb hby own_d1_4) rfl rfl ?_
  refine own_ifnonnullYes X1 hx 18 (hb hby own_d1_5) ?_
  refine own_aloadN X1 hx 19 (hb hby own_d1_18) rfl rfl ?_
  obtain ⟨T2, X2, e2, st2⟩ := getS2 X1 hx hZ hown (host := "") (Or.inl (hw _ (List.mem_of_getElem? (i := 18) rfl))) Via.refl eh1 (S_w_NONE.ext O0.2) (g := (mkF m 19 #[.val (.ref o1), .val (.ref o2), .val (.long q1), .second] [(.ref o2)])) rfl (hb hby own_d1_19)
  refine own_st (G' := T2.setTop (mkF m 22 #[.val (.ref o1), .val (.ref o2), .val (.long q1), .second] [(.ref w_NONE), (.ref o2)])) st2 ?_
  by_cases hc22_3 : o2 = w_NONE
  · refine own_acmp X2 hx 25 true (hb hby own_d1_22) rfl rfl (decide_eq_true (congrArg Value.ref hc22_3)) ?_
    refine own_lloadN X2 hx 26 (hb hby own_d1_25) rfl ?_
    refine own_lconst X2 hx 27 (0 : Int64) (hb hby own_d1_26) rfl ?_
    refine own_lcmp X2 hx 28 (hb hby own_d1_27) ?_
    refine own_ifYes X2 hx 41 (hb hby own_d1_28) (teq ((lw_eq _ _).mpr (hN hc22_3 : q1 = (0 : Int64)))).1 ?_
    refine own_aloadN X2 hx 42 (hb hby own_d1_41) rfl rfl ?_
    refine own_aloadN X2 hx 43 (hb hby own_d1_42) rfl rfl ?_
    obtain ⟨T4, h4, X4, e4, W4, st4⟩ := putF X2 hx hZ hown (host := "") (Or.inl (hw _ (List.mem_of_getElem? (i := 19) rfl))) Via.refl e2 pF2 pE1 (Or.inr ⟨(hw _ (List.mem_of_getElem? (i := 20) rfl)), rfl, hnm⟩) (hw _ (List.mem_of_getElem? (i := 5) rfl)) (v := (.ref o2)) (ty := (.object "com/example/tallybound/tallybound/counter/Bound$Kind")) (by decide) rfl rfl (g := (mkF m 43 #[.val (.ref o1), .val (.ref o2), .val (.long q1), .second] [(.ref o2), (.ref o1)])) rfl rfl (hb hby own_d1_43)
    have Fw4 := pF2.same W4
    have N4 := Fr.snoc X4 N1 pG4
    have O5 := O0.wr W4 pG4
    have KC6 := KC0.wr W4 (Or.inl (List.mem_of_getElem? (i := 0) rfl))
    have Z7 := Nat.le_trans Z0 (Nat.le_of_eq W4.size.symm)
    refine own_st (G' := T4.setTop (mkF m 46 #[.val (.ref o1), .val (.ref o2), .val (.long q1), .second] [])) st4 ?_
    refine own_aloadN X4 hx 47 (hb hby own_d1_46) rfl rfl ?_
    refine own_lloadN X4 hx 48 (hb hby own_d1_47) rfl ?_
    have f8 := (pF3.other W4 (Or.inr (slot_ne (Or.inr (hw _ (List.mem_of_getElem? (i := 22) rfl))) (Or.inr (hw _ (List.mem_of_getElem? (i := 20) rfl))) (by decide) (t := .long) (t' := (.object "com/example/tallybound/tallybound/counter/Bound$Kind")) (by decide) (by decide))))
    have f9 := (pE1.wr W4)
    obtain ⟨T10, h10, X10, e10, W10, st10⟩ := putF X4 hx hZ hown (host := "") (Or.inl (hw _ (List.mem_of_getElem? (i := 21) rfl))) Via.refl e4 f8 f9 (Or.inr ⟨(hw _ (List.mem_of_getElem? (i := 22) rfl)), rfl, hnm⟩) (hw _ (List.mem_of_getElem? (i := 5) rfl)) (v := (.long q1)) (ty := .long) (by decide) rfl rfl (g := (mkF m 48 #[.val (.ref o1), .val (.ref o2), .val (.long q1), .second] [(.long q1), (.ref o1)])) rfl rfl (hb hby own_d1_48)
    have Fw10 := f8.same W10
    have N10 := Fr.snoc X10 N4 pG4
    have O11 := O5.wr W10 pG4
    have KC12 := KC6.wr W10 (Or.inl (List.mem_of_getElem? (i := 0) rfl))
    have Z13 := Nat.le_trans Z7 (Nat.le_of_eq W10.size.symm)
    refine own_st (G' := T10.setTop (mkF m 51 #[.val (.ref o1), .val (.ref o2), .val (.long q1), .second] [])) st10 ?_
    have f14 := (f9.wr W10)
    have f15 := (Fw4.other W10 (Or.inr (slot_ne (Or.inr (hw _ (List.mem_of_getElem? (i := 20) rfl))) (Or.inr (hw _ (List.mem_of_getElem? (i := 22) rfl))) (by decide) (t := (.object "com/example/tallybound/tallybound/counter/Bound$Kind")) (t' := .long) (by decide) (by decide))))
    exact own_retV (Q := own_Q1 Z w_NONE w_FLOOR w_CEILING S_w_NONE S_w_FLOOR S_w_CEILING E_w_NONE F_ordinal_w_NONE E_w_FLOOR F_ordinal_w_FLOOR E_w_CEILING F_ordinal_w_CEILING ne_w_NONE_w_FLOOR ne_w_NONE_w_CEILING ne_w_FLOOR_w_CEILING o1 o2 q1 h0 n0) X10 hx hrt (hb hby own_d1_51) hlk e10 ⟨rfl, N10, KC12, f14, f15, Fw10⟩ (by decide) (by decide)
  · refine own_acmp X2 hx 41 false (hb hby own_d1_22) rfl rfl (decide_eq_false fun q => hc22_3 (Value.ref.inj q)) ?_
    refine own_aloadN X2 hx 42 (hb hby own_d1_41) rfl rfl ?_
    refine own_aloadN X2 hx 43 (hb hby own_d1_42) rfl rfl ?_
    obtain ⟨T16, h16, X16, e16, W16, st16⟩ := putF X2 hx hZ hown (host := "") (Or.inl (hw _ (List.mem_of_getElem? (i := 19) rfl))) Via.refl e2 pF2 pE1 (Or.inr ⟨(hw _ (List.mem_of_getElem? (i := 20) rfl)), rfl, hnm⟩) (hw _ (List.mem_of_getElem? (i := 5) rfl)) (v := (.ref o2)) (ty := (.object "com/example/tallybound/tallybound/counter/Bound$Kind")) (by decide) rfl rfl (g := (mkF m 43 #[.val (.ref o1), .val (.ref o2), .val (.long q1), .second] [(.ref o2), (.ref o1)])) rfl rfl (hb hby own_d1_43)
    have Fw16 := pF2.same W16
    have N16 := Fr.snoc X16 N1 pG4
    have O17 := O0.wr W16 pG4
    have KC18 := KC0.wr W16 (Or.inl (List.mem_of_getElem? (i := 0) rfl))
    have Z19 := Nat.le_trans Z0 (Nat.le_of_eq W16.size.symm)
    refine own_st (G' := T16.setTop (mkF m 46 #[.val (.ref o1), .val (.ref o2), .val (.long q1), .second] [])) st16 ?_
    refine own_aloadN X16 hx 47 (hb hby own_d1_46) rfl rfl ?_
    refine own_lloadN X16 hx 48 (hb hby own_d1_47) rfl ?_
    have f20 := (pF3.other W16 (Or.inr (slot_ne (Or.inr (hw _ (List.mem_of_getElem? (i := 22) rfl))) (Or.inr (hw _ (List.mem_of_getElem? (i := 20) rfl))) (by decide) (t := .long) (t' := (.object "com/example/tallybound/tallybound/counter/Bound$Kind")) (by decide) (by decide))))
    have f21 := (pE1.wr W16)
    obtain ⟨T22, h22, X22, e22, W22, st22⟩ := putF X16 hx hZ hown (host := "") (Or.inl (hw _ (List.mem_of_getElem? (i := 21) rfl))) Via.refl e16 f20 f21 (Or.inr ⟨(hw _ (List.mem_of_getElem? (i := 22) rfl)), rfl, hnm⟩) (hw _ (List.mem_of_getElem? (i := 5) rfl)) (v := (.long q1)) (ty := .long) (by decide) rfl rfl (g := (mkF m 48 #[.val (.ref o1), .val (.ref o2), .val (.long q1), .second] [(.long q1), (.ref o1)])) rfl rfl (hb hby own_d1_48)
    have Fw22 := f20.same W22
    have N22 := Fr.snoc X22 N16 pG4
    have O23 := O17.wr W22 pG4
    have KC24 := KC18.wr W22 (Or.inl (List.mem_of_getElem? (i := 0) rfl))
    have Z25 := Nat.le_trans Z19 (Nat.le_of_eq W22.size.symm)
    refine own_st (G' := T22.setTop (mkF m 51 #[.val (.ref o1), .val (.ref o2), .val (.long q1), .second] [])) st22 ?_
    have f26 := (f21.wr W22)
    have f27 := (Fw16.other W22 (Or.inr (slot_ne (Or.inr (hw _ (List.mem_of_getElem? (i := 20) rfl))) (Or.inr (hw _ (List.mem_of_getElem? (i := 22) rfl))) (by decide) (t := (.object "com/example/tallybound/tallybound/counter/Bound$Kind")) (t' := .long) (by decide) (by decide))))
    exact own_retV (Q := own_Q1 Z w_NONE w_FLOOR w_CEILING S_w_NONE S_w_FLOOR S_w_CEILING E_w_NONE F_ordinal_w_NONE E_w_FLOOR F_ordinal_w_FLOOR E_w_CEILING F_ordinal_w_CEILING ne_w_NONE_w_FLOOR ne_w_NONE_w_CEILING ne_w_FLOOR_w_CEILING o1 o2 q1 h0 n0) X22 hx hrt (hb hby own_d1_51) hlk e22 ⟨rfl, N22, KC24, f26, f27, Fw22⟩ (by decide) (by decide)
theorem own_d4_0 : decode prog_20_method_6_code 0 = .ok (.aload_n 0, 1) := by decide +kernel
theorem own_d4_1 : decode prog_20_method_6_code 1 = .ok (.getfield 25, 3) := by decide +kernel
theorem own_d4_4 : decode prog_20_method_6_code 4 = .ok (.invokevirtual 45, 3) := by decide +kernel
theorem own_d4_7 : decode prog_20_method_6_code 7 = .ok (.tableswitch 25 0 2 #[69, 35, 52], 25) := by decide +kernel
theorem own_d4_76 : decode prog_20_method_6_code 76 = .ok (.iconst 1, 1) := by decide +kernel
theorem own_d4_77 : decode prog_20_method_6_code 77 = .ok (.ireturn, 1) := by decide +kernel
theorem own_pd1 : parseMethodDescriptor "()I" = some ⟨[], some .int⟩ := by decide +kernel
theorem own_ef4n (m : MethodId) (o1 : Addr) (q1 : Int64) : entryFrame m #[(.ref o1), (.long q1)] 3 = mkF m 0 #[.val (.ref o1), .val (.long q1), .second] [] := by first | (simp [entryFrame, mkF, argsToLocals, Value.category]; done) | rfl
def own_Q4n (Z : State) (w_NONE : Addr) (w_FLOOR : Addr) (w_CEILING : Addr) (S_w_NONE : Sta Z Z.heap "com/example/tallybound/tallybound/counter/Bound$Kind" "NONE" "Lcom/example/tallybound/tallybound/counter/Bound$Kind;" (.ref w_NONE)) (S_w_FLOOR : Sta Z Z.heap "com/example/tallybound/tallybound/counter/Bound$Kind" "FLOOR" "Lcom/example/tallybound/tallybound/counter/Bound$Kind;" (.ref w_FLOOR)) (S_w_CEILING : Sta Z Z.heap "com/example/tallybound/tallybound/counter/Bound$Kind" "CEILING" "Lcom/example/tallybound/tallybound/counter/Bound$Kind;" (.ref w_CEILING)) (E_w_NONE : Exa Z Z.heap w_NONE "com/example/tallybound/tallybound/counter/Bound$Kind") (F_ordinal_w_NONE : Fld Z Z.heap w_NONE "java/lang/Enum" "ordinal" "I" (.int (0 : Int32))) (E_w_FLOOR : Exa Z Z.heap w_FLOOR "com/example/tallybound/tallybound/counter/Bound$Kind") (F_ordinal_w_FLOOR : Fld Z Z.heap w_FLOOR "java/lang/Enum" "ordinal" "I" (.int (1 : Int32))) (E_w_CEILING : Exa Z Z.heap w_CEILING "com/example/tallybound/tallybound/counter/Bound$Kind") (F_ordinal_w_CEILING : Fld Z Z.heap w_CEILING "java/lang/Enum" "ordinal" "I" (.int (2 : Int32))) (ne_w_NONE_w_FLOOR : w_NONE ≠ w_FLOOR) (ne_w_NONE_w_CEILING : w_NONE ≠ w_CEILING) (ne_w_FLOOR_w_CEILING : w_FLOOR ≠ w_CEILING) (o1 : Addr) (q1 : Int64) (q2 : Int64) (h0 : Heap) (n0 : Nat) (v : Option Value) (h : Heap) (L : List Loc) : Prop := v = some (.int (1 : Int32)) ∧ Fr n0 L ∧ h = h0
set_option maxRecDepth 65536 in
set_option maxHeartbeats 40000000 in
theorem own_rm4n (l : Launch) (Z : State) (a0 : Array Value) (hw : ∀ d ∈ tables_1, d.before a0 Z = true) (ws : List Jvm.Cond) (w_NONE : Addr) (w_FLOOR : Addr) (w_CEILING : Addr) (S_w_NONE : Sta Z Z.heap "com/example/tallybound/tallybound/counter/Bound$Kind" "NONE" "Lcom/example/tallybound/tallybound/counter/Bound$Kind;" (.ref w_NONE)) (S_w_FLOOR : Sta Z Z.heap "com/example/tallybound/tallybound/counter/Bound$Kind" "FLOOR" "Lcom/example/tallybound/tallybound/counter/Bound$Kind;" (.ref w_FLOOR)) (S_w_CEILING : Sta Z Z.heap "com/example/tallybound/tallybound/counter/Bound$Kind" "CEILING" "Lcom/example/tallybound/tallybound/counter/Bound$Kind;" (.ref w_CEILING)) (E_w_NONE : Exa Z Z.heap w_NONE "com/example/tallybound/tallybound/counter/Bound$Kind") (F_ordinal_w_NONE : Fld Z Z.heap w_NONE "java/lang/Enum" "ordinal" "I" (.int (0 : Int32))) (E_w_FLOOR : Exa Z Z.heap w_FLOOR "com/example/tallybound/tallybound/counter/Bound$Kind") (F_ordinal_w_FLOOR : Fld Z Z.heap w_FLOOR "java/lang/Enum" "ordinal" "I" (.int (1 : Int32))) (E_w_CEILING : Exa Z Z.heap w_CEILING "com/example/tallybound/tallybound/counter/Bound$Kind") (F_ordinal_w_CEILING : Fld Z Z.heap w_CEILING "java/lang/Enum" "ordinal" "I" (.int (2 : Int32))) (ne_w_NONE_w_FLOOR : w_NONE ≠ w_FLOOR) (ne_w_NONE_w_CEILING : w_NONE ≠ w_CEILING) (ne_w_FLOOR_w_CEILING : w_FLOOR ≠ w_CEILING) (o1 : Addr) (q1 : Int64) (q2 : Int64) (h0 : Heap) (n0 : Nat) (Z0 : n0 ≤ h0.size) (pF1 : Fld Z h0 o1 "com/example/tallybound/tallybound/counter/Bound" "kind" "Lcom/example/tallybound/tallybound/counter/Bound$Kind;" (.ref w_NONE)) (pF2 : Fld Z h0 o1 "com/example/tallybound/tallybound/counter/Bound" "limit" "J" (.long q2)) (O0 : Old Z n0 h0) :
    MetFree l (⟨"com/example/tallybound/tallybound/counter/Bound", "admits", "(J)Z"⟩ : MethodName) (head1 (Jvm.Cond.code (⟨"com/example/tallybound/tallybound/counter/Bound", "admits", "(J)Z"⟩ : MethodName) prog_20_method_6_code 3 (some .boolean) :: ws) ({ frames := 1, cells := 0, slots := 0, locals := 12 } : Room)) (fun a U => a = #[(.ref o1), (.long q1)] ∧ Z.Warmed39 U.vm ∧ U.heap = h0) (fun _ _ _ _ _ => True) (fun _ U o U' => ∃ v L, o = .returned v ∧ own_Q4n Z w_NONE w_FLOOR w_CEILING S_w_NONE S_w_FLOOR S_w_CEILING E_w_NONE F_ordinal_w_NONE E_w_FLOOR F_ordinal_w_FLOOR E_w_CEILING F_ordinal_w_CEILING ne_w_NONE_w_FLOOR ne_w_NONE_w_CEILING ne_w_FLOOR_w_CEILING o1 q1 q2 h0 n0 v U'.heap L ∧ FrameEnd U o U' L ({ frames := 1, cells := 0, slots := 0, locals := 12 } : Room).cells ({ frames := 1, cells := 0, slots := 0, locals := 12 } : Room).slots) := by
  refine MetFree.of_bodySF (plainFor_of_name own_pn2) hisR ?_
  intro p e s m args below meth c s₁ Bd hml0 hP hK
  obtain ⟨rfl, hZ, hh⟩ := hP
  have hx := Bd.exec
  have hby := Bd.bytes
  have hlk := Bd.notSynchronized
  have hrt := Bd.returns
  have hml : c.maxLocals = 3 := hml0
  have hown : s.vm.findClass "com/example/tallybound/tallybound/counter/Bound" = some m.cls := findClass_of_methodNamed Bd.named
  have hnm := (name_of_methodNamed Bd.named Bd.method).1
  have X0 : Stand p l e ({ frames := 1, cells := 0, slots := 0, locals := 12 } : Room) s m #[(.ref o1), (.long q1)] below meth c s₁ [] 0 0 := Stand.of_body Bd
  have e0 : s₁.heap = h0 := by rw [← hh, Bd.state]; rfl
  have N0 := Fr.nil n0
  refine own_in (own_ef4n m o1 q1) ?_
  refine own_aloadN X0 hx 1 (hb hby own_d4_0) rfl rfl ?_
  obtain ⟨T1, X1, e1, st1⟩ := getF X0 hx hZ hown (host := "") (Or.inl (hw _ (List.mem_of_getElem? (i := 19) rfl))) Via.refl e0 pF1 (g := (mkF m 1 #[.val (.ref o1), .val (.long q1), .second] [(.ref o1)])) rfl rfl (hb hby own_d4_1)
  refine own_st (G' := T1.setTop (mkF m 4 #[.val (.ref o1), .val (.long q1), .second] [(.ref w_NONE)])) st1 ?_
  have f2 := (F_ordinal_w_NONE.ext O0.2)
  have f4 := (E_w_NONE.ext O0.2)
  obtain ⟨cq3, kq3, q3a, q3b, q3c⟩ := isOf hZ e1 f4
  obtain ⟨_, _, ⟨T3, Lx3, kc3, nc3⟩, -, X3, ⟨Lc3, hQ3, lq3, yq3, zq3⟩, st3⟩ := X1.virtualBackUp hx (x := (⟨"com/example/tallybound/tallybound/counter/Bound$Kind", "ordinal", "()I"⟩ : MethodName)) (y := (⟨"java/lang/Enum", "ordinal", "()I"⟩ : MethodName)) (owner := "java/lang/Enum") hown (mvT hZ (hw _ (List.mem_of_getElem? (i := 28) rfl))) (mvT hZ (hw _ (List.mem_of_getElem? (i := 29) rfl))) (mvT hZ (hw _ (List.mem_of_getElem? (i := 30) rfl))) (by decide) (mvT hZ (hw _ (List.mem_of_getElem? (i := 32) rfl))) (mvT hZ (hw _ (List.mem_of_getElem? (i := 31) rfl))) (backOf (W := 0) (own_rm5 l Z a0 hw [] w_NONE (0 : Int32) h0 n0 Z0 f2) hZ (hw _ (List.mem_of_getElem? (i := 34) rfl)) (hw _ (List.mem_of_getElem? (i := 33) rfl)) (by decide) (by decide)) q3a q3c (g := (mkF m 4 #[.val (.ref o1), .val (.long q1), .second] [(.ref w_NONE)])) rfl (by rw [hml]; rfl) (Steps.refl _) (argsL := []) (rest := []) (lenOf own_pd1 rfl) rfl (by show 2 * 0 + _ ≤ _; exact Nat.le_of_eq rfl) (hb hby own_d4_4) (fun _ _ => ⟨rfl, e1, (by decide : 0 + 0 ≤ _), (by decide : 0 + 0 ≤ _)⟩)
  dsimp only [Pt.U, Pt.locs, Pt.cells, Pt.slots] at X3 lq3 yq3 zq3 st3 hQ3
  subst lq3 yq3 zq3
  obtain ⟨rfl, Nq3, eh3⟩ := hQ3
  have N3 := Fr.app N0 Nq3
  refine own_st (G' := T3.setTop (mkF m 7 #[.val (.ref o1), .val (.long q1), .second] [(.int (0 : Int32))])) (fun t k => st3.trans k) ?_
  refine own_st (G' := T3.setTop (mkF m 76 #[.val (.ref o1), .val (.long q1), .second] [])) (fun t k => XS.tswIn X3.here hx rfl (pc0 := 7) (pc' := 76) rfl (hb hby own_d4_7) rfl (o := 69) (by decide) rfl (by decide) (by decide) k) ?_
  refine own_iconst X3 hx 77 (1 : Int32) (hb hby own_d4_76) rfl ?_
  exact own_retN (t := .boolean) (z := (1 : Int32)) (Q := own_Q4n Z w_NONE w_FLOOR w_CEILING S_w_NONE S_w_FLOOR S_w_CEILING E_w_NONE F_ordinal_w_NONE E_w_FLOOR F_ordinal_w_FLOOR E_w_CEILING F_ordinal_w_CEILING ne_w_NONE_w_FLOOR ne_w_NONE_w_CEILING ne_w_FLOOR_w_CEILING o1 q1 q2 h0 n0) X3 hx hrt (by simp) (hb hby own_d4_77) hlk eh3 ⟨rfl, N3, rfl⟩ (by decide) (by decide)
theorem own_d4_42 : decode prog_20_method_6_code 42 = .ok (.lload_n 1, 1) := by decide +kernel
theorem own_d4_43 : decode prog_20_method_6_code 43 = .ok (.aload_n 0, 1) := by decide +kernel
theorem own_d4_44 : decode prog_20_method_6_code 44 = .ok (.getfield 29, 3) := by decide +kernel
theorem own_d4_47 : decode prog_20_method_6_code 47 = .ok (.lcmp, 1) := by decide +kernel
theorem own_d4_48 : decode prog_20_method_6_code 48 = .ok (.ifCond .lt 7, 3) := by decide +kernel
theorem own_d4_51 : decode prog_20_method_6_code 51 = .ok (.iconst 1, 1) := by decide +kernel
theorem own_d4_52 : decode prog_20_method_6_code 52 = .ok (.goto 25, 3) := by decide +kernel
theorem own_d4_55 : decode prog_20_method_6_code 55 = .ok (.iconst 0, 1) := by decide +kernel
theorem own_d4_56 : decode prog_20_method_6_code 56 = .ok (.goto 21, 3) := by decide +kernel
theorem own_ef4f (m : MethodId) (o1 : Addr) (q1 : Int64) : entryFrame m #[(.ref o1), (.long q1)] 3 = mkF m 0 #[.val (.ref o1), .val (.long q1), .second] [] := by first | (simp [entryFrame, mkF, argsToLocals, Value.category]; done) | rfl
def own_adf (q1 : Int64) (q2 : Int64) : Int32 := (if q1 < q2 then (0 : Int32) else (1 : Int32))
def own_Q4f (Z : State) (w_NONE : Addr) (w_FLOOR : Addr) (w_CEILING : Addr) (S_w_NONE : Sta Z Z.heap "com/example/tallybound/tallybound/counter/Bound$Kind" "NONE" "Lcom/example/tallybound/tallybound/counter/Bound$Kind;" (.ref w_NONE)) (S_w_FLOOR : Sta Z Z.heap "com/example/tallybound/tallybound/counter/Bound$Kind" "FLOOR" "Lcom/example/tallybound/tallybound/counter/Bound$Kind;" (.ref w_FLOOR)) (S_w_CEILING : Sta Z Z.heap "com/example/tallybound/tallybound/counter/Bound$Kind" "CEILING" "Lcom/example/tallybound/tallybound/counter/Bound$Kind;" (.ref w_CEILING)) (E_w_NONE : Exa Z Z.heap w_NONE "com/example/tallybound/tallybound/counter/Bound$Kind") (F_ordinal_w_NONE : Fld Z Z.heap w_NONE "java/lang/Enum" "ordinal" "I" (.int (0 : Int32))) (E_w_FLOOR : Exa Z Z.heap w_FLOOR "com/example/tallybound/tallybound/counter/Bound$Kind") (F_ordinal_w_FLOOR : Fld Z Z.heap w_FLOOR "java/lang/Enum" "ordinal" "I" (.int (1 : Int32))) (E_w_CEILING : Exa Z Z.heap w_CEILING "com/example/tallybound/tallybound/counter/Bound$Kind") (F_ordinal_w_CEILING : Fld Z Z.heap w_CEILING "java/lang/Enum" "ordinal" "I" (.int (2 : Int32))) (ne_w_NONE_w_FLOOR : w_NONE ≠ w_FLOOR) (ne_w_NONE_w_CEILING : w_NONE ≠ w_CEILING) (ne_w_FLOOR_w_CEILING : w_FLOOR ≠ w_CEILING) (o1 : Addr) (q1 : Int64) (q2 : Int64) (h0 : Heap) (n0 : Nat) (v : Option Value) (h : Heap) (L : List Loc) : Prop := v = some (.int (own_adf q1 q2)) ∧ Fr n0 L ∧ h = h0
set_option maxRecDepth 65536 in
set_option maxHeartbeats 40000000 in
theorem own_rm4f (l : Launch) (Z : State) (a0 : Array Value) (hw : ∀ d ∈ tables_1, d.before a0 Z = true) (ws : List Jvm.Cond) (w_NONE : Addr) (w_FLOOR : Addr) (w_CEILING : Addr) (S_w_NONE : Sta Z Z.heap "com/example/tallybound/tallybound/counter/Bound$Kind" "NONE" "Lcom/example/tallybound/tallybound/counter/Bound$Kind;" (.ref w_NONE)) (S_w_FLOOR : Sta Z Z.heap "com/example/tallybound/tallybound/counter/Bound$Kind" "FLOOR" "Lcom/example/tallybound/tallybound/counter/Bound$Kind;" (.ref w_FLOOR)) (S_w_CEILING : Sta Z Z.heap "com/example/tallybound/tallybound/counter/Bound$Kind" "CEILING" "Lcom/example/tallybound/tallybound/counter/Bound$Kind;" (.ref w_CEILING)) (E_w_NONE : Exa Z Z.heap w_NONE "com/example/tallybound/tallybound/counter/Bound$Kind") (F_ordinal_w_NONE : Fld Z Z.heap w_NONE "java/lang/Enum" "ordinal" "I" (.int (0 : Int32))) (E_w_FLOOR : Exa Z Z.heap w_FLOOR "com/example/tallybound/tallybound/counter/Bound$Kind") (F_ordinal_w_FLOOR : Fld Z Z.heap w_FLOOR "java/lang/Enum" "ordinal" "I" (.int (1 : Int32))) (E_w_CEILING : Exa Z Z.heap w_CEILING "com/example/tallybound/tallybound/counter/Bound$Kind") (F_ordinal_w_CEILING : Fld Z Z.heap w_CEILING "java/lang/Enum" "ordinal" "I" (.int (2 : Int32))) (ne_w_NONE_w_FLOOR : w_NONE ≠ w_FLOOR) (ne_w_NONE_w_CEILING : w_NONE ≠ w_CEILING) (ne_w_FLOOR_w_CEILING : w_FLOOR ≠ w_CEILING) (o1 : Addr) (q1 : Int64) (q2 : Int64) (h0 : Heap) (n0 : Nat) (Z0 : n0 ≤ h0.size) (pF1 : Fld Z h0 o1 "com/example/tallybound/tallybound/counter/Bound" "kind" "Lcom/example/tallybound/tallybound/counter/Bound$Kind;" (.ref w_FLOOR)) (pF2 : Fld Z h0 o1 "com/example/tallybound/tallybound/counter/Bound" "limit" "J" (.long q2)) (O0 : Old Z n0 h0) :
    MetFree l (⟨"com/example/tallybound/tallybound/counter/Bound", "admits", "(J)Z"⟩ : MethodName) (head1 (Jvm.Cond.code (⟨"com/example/tallybound/tallybound/counter/Bound", "admits", "(J)Z"⟩ : MethodName) prog_20_method_6_code 3 (some .boolean) :: ws) ({ frames := 1, cells := 0, slots := 0, locals := 12 } : Room)) (fun a U => a = #[(.ref o1), (.long q1)] ∧ Z.Warmed39 U.vm ∧ U.heap = h0) (fun _ _ _ _ _ => True) (fun _ U o U' => ∃ v L, o = .returned v ∧ own_Q4f Z w_NONE w_FLOOR w_CEILING S_w_NONE S_w_FLOOR S_w_CEILING E_w_NONE F_ordinal_w_NONE E_w_FLOOR F_ordinal_w_FLOOR E_w_CEILING F_ordinal_w_CEILING ne_w_NONE_w_FLOOR ne_w_NONE_w_CEILING ne_w_FLOOR_w_CEILING o1 q1 q2 h0 n0 v U'.heap L ∧ FrameEnd U o U' L ({ frames := 1, cells := 0, slots := 0, locals := 12 } : Room).cells ({ frames := 1, cells := 0, slots := 0, locals := 12 } : Room).slots) := by
  refine MetFree.of_bodySF (plainFor_of_name own_pn2) hisR ?_
  intro p e s m args below meth c s₁ Bd hml0 hP hK
  obtain ⟨rfl, hZ, hh⟩ := hP
  have hx := Bd.exec
  have hby := Bd.bytes
  have hlk := Bd.notSynchronized
  have hrt := Bd.returns
  have hml : c.maxLocals = 3 := hml0
  have hown : s.vm.findClass "com/example/tallybound/tallybound/counter/Bound" = some m.cls := findClass_of_methodNamed Bd.named
  have hnm := (name_of_methodNamed Bd.named Bd.method).1
  have X0 : Stand p l e ({ frames := 1, cells := 0, slots := 0, locals := 12 } : Room) s m #[(.ref o1), (.long q1)] below meth c s₁ [] 0 0 := Stand.of_body Bd
  have e0 : s₁.heap = h0 := by rw [← hh, Bd.state]; rfl
  have N0 := Fr.nil n0
  refine own_in (own_ef4f m o1 q1) ?_
  refine own_aloadN X0 hx 1 (hb hby own_d4_0) rfl rfl ?_
  obtain ⟨T1, X1, e1, st1⟩ := getF X0 hx hZ hown (host := "") (Or.inl (hw _ (List.mem_of_getElem? (i := 19) rfl))) Via.refl e0 pF1 (g := (mkF m 1 #[.val (.ref o1), .val (.long q1), .second] [(.ref o1)])) rfl rfl (hb hby own_d4_1)
  refine own_st (G' := T1.setTop (mkF m 4 #[.val (.ref o1), .val (.long q1), .second] [(.ref w_FLOOR)])) st1 ?_
  have f2 := (F_ordinal_w_FLOOR.ext O0.2)
  have f4 := (E_w_FLOOR.ext O0.2)
  obtain ⟨cq3, kq3, q3a, q3b, q3c⟩ := isOf hZ e1 f4
  obtain ⟨_, _, ⟨T3, Lx3, kc3, nc3⟩, -, X3, ⟨Lc3, hQ3, lq3, yq3, zq3⟩, st3⟩ := X1.virtualBackUp hx (x := (⟨"com/example/tallybound/tallybound/counter/Bound$Kind", "ordinal", "()I"⟩ : MethodName)) (y := (⟨"java/lang/Enum", "ordinal", "()I"⟩ : MethodName)) (owner := "java/lang/Enum") hown (mvT hZ (hw _ (List.mem_of_getElem? (i := 28) rfl))) (mvT hZ (hw _ (List.mem_of_getElem? (i := 29) rfl))) (mvT hZ (hw _ (List.mem_of_getElem? (i := 30) rfl))) (by decide) (mvT hZ (hw _ (List.mem_of_getElem? (i := 32) rfl))) (mvT hZ (hw _ (List.mem_of_getElem? (i := 31) rfl))) (backOf (W := 0) (own_rm5 l Z a0 hw [] w_FLOOR (1 : Int32) h0 n0 Z0 f2) hZ (hw _ (List.mem_of_getElem? (i := 34) rfl)) (hw _ (List.mem_of_getElem? (i := 33) rfl)) (by decide) (by decide)) q3a q3c (g := (mkF m 4 #[.val (.ref o1), .val (.long q1), .second] [(.ref w_FLOOR)])) rfl (by rw [hml]; rfl) (Steps.refl _) (argsL := []) (rest := []) (lenOf own_pd1 rfl) rfl (by show 2 * 0 + _ ≤ _; exact Nat.le_of_eq rfl) (hb hby own_d4_4) (fun _ _ => ⟨rfl, e1, (by decide : 0 + 0 ≤ _), (by decide : 0 + 0 ≤ _)⟩)
  dsimp only [Pt.U, Pt.locs, Pt.cells, Pt.slots] at X3 lq3 yq3 zq3 st3 hQ3
  subst lq3 yq3 zq3
  obtain ⟨rfl, Nq3, eh3⟩ := hQ3
  have N3 := Fr.app N0 Nq3
  refine own_st (G' := T3.setTop (mkF m 7 #[.val (.ref o1), .val (.long q1), .second] [(.int (1 : Int32))])) (fun t k => st3.trans k) ?_
  refine own_st (G' := T3.setTop (mkF m 42 #[.val (.ref o1), .val (.long q1), .second] [])) (fun t k => XS.tswIn X3.here hx rfl (pc0 := 7) (pc' := 42) rfl (hb hby own_d4_7) rfl (o := 35) (by decide) rfl (by decide) (by decide) k) ?_
  refine own_lloadN X3 hx 43 (hb hby own_d4_42) rfl ?_
  refine own_aloadN X3 hx 44 (hb hby own_d4_43) rfl rfl ?_
  obtain ⟨T5, X5, e5, st5⟩ := getF X3 hx hZ hown (host := "") (Or.inl (hw _ (List.mem_of_getElem? (i := 21) rfl))) Via.refl eh3 pF2 (g := (mkF m 44 #[.val (.ref o1), .val (.long q1), .second] [(.ref o1), (.long q1)])) rfl rfl (hb hby own_d4_44)
  refine own_st (G' := T5.setTop (mkF m 47 #[.val (.ref o1), .val (.long q1), .second] [(.long q2), (.long q1)])) st5 ?_
  refine own_lcmp X5 hx 48 (hb hby own_d4_47) ?_
  by_cases hc48_6 : q1 < q2
  · refine own_ifYes X5 hx 55 (hb hby own_d4_48) (tlt ((lw_lt _ _).mpr hc48_6)).1 ?_
    refine own_iconst X5 hx 56 (0 : Int32) (hb hby own_d4_55) rfl ?_
    refine own_goto X5 hx 77 (hb hby own_d4_56) ?_
    exact own_retN (t := .boolean) (z := (0 : Int32)) (Q := own_Q4f Z w_NONE w_FLOOR w_CEILING S_w_NONE S_w_FLOOR S_w_CEILING E_w_NONE F_ordinal_w_NONE E_w_FLOOR F_ordinal_w_FLOOR E_w_CEILING F_ordinal_w_CEILING ne_w_NONE_w_FLOOR ne_w_NONE_w_CEILING ne_w_FLOOR_w_CEILING o1 q1 q2 h0 n0) X5 hx hrt (by simp) (hb hby own_d4_77) hlk e5 ⟨(own_leafI (show (0 : Int32) = own_adf q1 q2 from by unfold own_adf; rw [if_pos hc48_6])), N3, rfl⟩ (by decide) (by decide)
  · refine own_ifNo X5 hx 51 (hb hby own_d4_48) (flt (mt (lw_lt _ _).mp hc48_6)).1 ?_
    refine own_iconst X5 hx 52 (1 : Int32) (hb hby own_d4_51) rfl ?_
    refine own_goto X5 hx 77 (hb hby own_d4_52) ?_
    exact own_retN (t := .boolean) (z := (1 : Int32)) (Q := own_Q4f Z w_NONE w_FLOOR w_CEILING S_w_NONE S_w_FLOOR S_w_CEILING E_w_NONE F_ordinal_w_NONE E_w_FLOOR F_ordinal_w_FLOOR E_w_CEILING F_ordinal_w_CEILING ne_w_NONE_w_FLOOR ne_w_NONE_w_CEILING ne_w_FLOOR_w_CEILING o1 q1 q2 h0 n0) X5 hx hrt (by simp) (hb hby own_d4_77) hlk e5 ⟨(own_leafI (show (1 : Int32) = own_adf q1 q2 from by unfold own_adf; rw [if_neg hc48_6])), N3, rfl⟩ (by decide) (by decide)
theorem own_d4_59 : decode prog_20_method_6_code 59 = .ok (.lload_n 1, 1) := by decide +kernel
theorem own_d4_60 : decode prog_20_method_6_code 60 = .ok (.aload_n 0, 1) := by decide +kernel
theorem own_d4_61 : decode prog_20_method_6_code 61 = .ok (.getfield 29, 3) := by decide +kernel
theorem own_d4_64 : decode prog_20_method_6_code 64 = .ok (.lcmp, 1) := by decide +kernel
theorem own_d4_65 : decode prog_20_method_6_code 65 = .ok (.ifCond .gt 7, 3) := by decide +kernel
theorem own_d4_68 : decode prog_20_method_6_code 68 = .ok (.iconst 1, 1) := by decide +kernel
theorem own_d4_69 : decode prog_20_method_6_code 69 = .ok (.goto 8, 3) := by decide +kernel
theorem own_d4_72 : decode prog_20_method_6_code 72 = .ok (.iconst 0, 1) := by decide +kernel
theorem own_d4_73 : decode prog_20_method_6_code 73 = .ok (.goto 4, 3) := by decide +kernel
theorem own_ef4c (m : MethodId) (o1 : Addr) (q1 : Int64) : entryFrame m #[(.ref o1), (.long q1)] 3 = mkF m 0 #[.val (.ref o1), .val (.long q1), .second] [] := by first | (simp [entryFrame, mkF, argsToLocals, Value.category]; done) | rfl
def own_adc (q1 : Int64) (q2 : Int64) : Int32 := (if q2 < q1 then (0 : Int32) else (1 : Int32))
def own_Q4c (Z : State) (w_NONE : Addr) (w_FLOOR : Addr) (w_CEILING : Addr) (S_w_NONE : Sta Z Z.heap "com/example/tallybound/tallybound/counter/Bound$Kind" "NONE" "Lcom/example/tallybound/tallybound/counter/Bound$Kind;" (.ref w_NONE)) (S_w_FLOOR : Sta Z Z.heap "com/example/tallybound/tallybound/counter/Bound$Kind" "FLOOR" "Lcom/example/tallybound/tallybound/counter/Bound$Kind;" (.ref w_FLOOR)) (S_w_CEILING : Sta Z Z.heap "com/example/tallybound/tallybound/counter/Bound$Kind" "CEILING" "Lcom/example/tallybound/tallybound/counter/Bound$Kind;" (.ref w_CEILING)) (E_w_NONE : Exa Z Z.heap w_NONE "com/example/tallybound/tallybound/counter/Bound$Kind") (F_ordinal_w_NONE : Fld Z Z.heap w_NONE "java/lang/Enum" "ordinal" "I" (.int (0 : Int32))) (E_w_FLOOR : Exa Z Z.heap w_FLOOR "com/example/tallybound/tallybound/counter/Bound$Kind") (F_ordinal_w_FLOOR : Fld Z Z.heap w_FLOOR "java/lang/Enum" "ordinal" "I" (.int (1 : Int32))) (E_w_CEILING : Exa Z Z.heap w_CEILING "com/example/tallybound/tallybound/counter/Bound$Kind") (F_ordinal_w_CEILING : Fld Z Z.heap w_CEILING "java/lang/Enum" "ordinal" "I" (.int (2 : Int32))) (ne_w_NONE_w_FLOOR : w_NONE ≠ w_FLOOR) (ne_w_NONE_w_CEILING : w_NONE ≠ w_CEILING) (ne_w_FLOOR_w_CEILING : w_FLOOR ≠ w_CEILING) (o1 : Addr) (q1 : Int64) (q2 : Int64) (h0 : Heap) (n0 : Nat) (v : Option Value) (h : Heap) (L : List Loc) : Prop := v = some (.int (own_adc q1 q2)) ∧ Fr n0 L ∧ h = h0
set_option maxRecDepth 65536 in
set_option maxHeartbeats 40000000 in
theorem own_rm4c (l : Launch) (Z : State) (a0 : Array Value) (hw : ∀ d ∈ tables_1, d.before a0 Z = true) (ws : List Jvm.Cond) (w_NONE : Addr) (w_FLOOR : Addr) (w_CEILING : Addr) (S_w_NONE : Sta Z Z.heap "com/example/tallybound/tallybound/counter/Bound$Kind" "NONE" "Lcom/example/tallybound/tallybound/counter/Bound$Kind;" (.ref w_NONE)) (S_w_FLOOR : Sta Z Z.heap "com/example/tallybound/tallybound/counter/Bound$Kind" "FLOOR" "Lcom/example/tallybound/tallybound/counter/Bound$Kind;" (.ref w_FLOOR)) (S_w_CEILING : Sta Z Z.heap "com/example/tallybound/tallybound/counter/Bound$Kind" "CEILING" "Lcom/example/tallybound/tallybound/counter/Bound$Kind;" (.ref w_CEILING)) (E_w_NONE : Exa Z Z.heap w_NONE "com/example/tallybound/tallybound/counter/Bound$Kind") (F_ordinal_w_NONE : Fld Z Z.heap w_NONE "java/lang/Enum" "ordinal" "I" (.int (0 : Int32))) (E_w_FLOOR : Exa Z Z.heap w_FLOOR "com/example/tallybound/tallybound/counter/Bound$Kind") (F_ordinal_w_FLOOR : Fld Z Z.heap w_FLOOR "java/lang/Enum" "ordinal" "I" (.int (1 : Int32))) (E_w_CEILING : Exa Z Z.heap w_CEILING "com/example/tallybound/tallybound/counter/Bound$Kind") (F_ordinal_w_CEILING : Fld Z Z.heap w_CEILING "java/lang/Enum" "ordinal" "I" (.int (2 : Int32))) (ne_w_NONE_w_FLOOR : w_NONE ≠ w_FLOOR) (ne_w_NONE_w_CEILING : w_NONE ≠ w_CEILING) (ne_w_FLOOR_w_CEILING : w_FLOOR ≠ w_CEILING) (o1 : Addr) (q1 : Int64) (q2 : Int64) (h0 : Heap) (n0 : Nat) (Z0 : n0 ≤ h0.size) (pF1 : Fld Z h0 o1 "com/example/tallybound/tallybound/counter/Bound" "kind" "Lcom/example/tallybound/tallybound/counter/Bound$Kind;" (.ref w_CEILING)) (pF2 : Fld Z h0 o1 "com/example/tallybound/tallybound/counter/Bound" "limit" "J" (.long q2)) (O0 : Old Z n0 h0) :
    MetFree l (⟨"com/example/tallybound/tallybound/counter/Bound", "admits", "(J)Z"⟩ : MethodName) (head1 (Jvm.Cond.code (⟨"com/example/tallybound/tallybound/counter/Bound", "admits", "(J)Z"⟩ : MethodName) prog_20_method_6_code 3 (some .boolean) :: ws) ({ frames := 1, cells := 0, slots := 0, locals := 12 } : Room)) (fun a U => a = #[(.ref o1), (.long q1)] ∧ Z.Warmed39 U.vm ∧ U.heap = h0) (fun _ _ _ _ _ => True) (fun _ U o U' => ∃ v L, o = .returned v ∧ own_Q4c Z w_NONE w_FLOOR w_CEILING S_w_NONE S_w_FLOOR S_w_CEILING E_w_NONE F_ordinal_w_NONE E_w_FLOOR F_ordinal_w_FLOOR E_w_CEILING F_ordinal_w_CEILING ne_w_NONE_w_FLOOR ne_w_NONE_w_CEILING ne_w_FLOOR_w_CEILING o1 q1 q2 h0 n0 v U'.heap L ∧ FrameEnd U o U' L ({ frames := 1, cells := 0, slots := 0, locals := 12 } : Room).cells ({ frames := 1, cells := 0, slots := 0, locals := 12 } : Room).slots) := by
  refine MetFree.of_bodySF (plainFor_of_name own_pn2) hisR ?_
  intro p e s m args below meth c s₁ Bd hml0 hP hK
  obtain ⟨rfl, hZ, hh⟩ := hP
  have hx := Bd.exec
  have hby := Bd.bytes
  have hlk := Bd.notSynchronized
  have hrt := Bd.returns
  have hml : c.maxLocals = 3 := hml0
  have hown : s.vm.findClass "com/example/tallybound/tallybound/counter/Bound" = some m.cls := findClass_of_methodNamed Bd.named
  have hnm := (name_of_methodNamed Bd.named Bd.method).1
  have X0 : Stand p l e ({ frames := 1, cells := 0, slots := 0, locals := 12 } : Room) s m #[(.ref o1), (.long q1)] below meth c s₁ [] 0 0 := Stand.of_body Bd
  have e0 : s₁.heap = h0 := by rw [← hh, Bd.state]; rfl
  have N0 := Fr.nil n0
  refine own_in (own_ef4c m o1 q1) ?_
  refine own_aloadN X0 hx 1 (hb hby own_d4_0) rfl rfl ?_
  obtain ⟨T1, X1, e1, st1⟩ := getF X0 hx hZ hown (host := "") (Or.inl (hw _ (List.mem_of_getElem? (i := 19) rfl))) Via.refl e0 pF1 (g := (mkF m 1 #[.val (.ref o1), .val (.long q1), .second] [(.ref o1)])) rfl rfl (hb hby own_d4_1)
  refine own_st (G' := T1.setTop (mkF m 4 #[.val (.ref o1), .val (.long q1), .second] [(.ref w_CEILING)])) st1 ?_
  have f2 := (F_ordinal_w_CEILING.ext O0.2)
  have f4 := (E_w_CEILING.ext O0.2)
  obtain ⟨cq3, kq3, q3a, q3b, q3c⟩ := isOf hZ e1 f4
  obtain ⟨_, _, ⟨T3, Lx3, kc3, nc3⟩, -, X3, ⟨Lc3, hQ3, lq3, yq3, zq3⟩, st3⟩ := X1.virtualBackUp hx (x := (⟨"com/example/tallybound/tallybound/counter/Bound$Kind", "ordinal", "()I"⟩ : MethodName)) (y := (⟨"java/lang/Enum", "ordinal", "()I"⟩ : MethodName)) (owner := "java/lang/Enum") hown (mvT hZ (hw _ (List.mem_of_getElem? (i := 28) rfl))) (mvT hZ (hw _ (List.mem_of_getElem? (i := 29) rfl))) (mvT hZ (hw _ (List.mem_of_getElem? (i := 30) rfl))) (by decide) (mvT hZ (hw _ (List.mem_of_getElem? (i := 32) rfl))) (mvT hZ (hw _ (List.mem_of_getElem? (i := 31) rfl))) (backOf (W := 0) (own_rm5 l Z a0 hw [] w_CEILING (2 : Int32) h0 n0 Z0 f2) hZ (hw _ (List.mem_of_getElem? (i := 34) rfl)) (hw _ (List.mem_of_getElem? (i := 33) rfl)) (by decide) (by decide)) q3a q3c (g := (mkF m 4 #[.val (.ref o1), .val (.long q1), .second] [(.ref w_CEILING)])) rfl (by rw [hml]; rfl) (Steps.refl _) (argsL := []) (rest := []) (lenOf own_pd1 rfl) rfl (by show 2 * 0 + _ ≤ _; exact Nat.le_of_eq rfl) (hb hby own_d4_4) (fun _ _ => ⟨rfl, e1, (by decide : 0 + 0 ≤ _), (by decide : 0 + 0 ≤ _)⟩)
  dsimp only [Pt.U, Pt.locs, Pt.cells, Pt.slots] at X3 lq3 yq3 zq3 st3 hQ3
  subst lq3 yq3 zq3
  obtain ⟨rfl, Nq3, eh3⟩ := hQ3
  have N3 := Fr.app N0 Nq3
  refine own_st (G' := T3.setTop (mkF m 7 #[.val (.ref o1), .val (.long q1), .second] [(.int (2 : Int32))])) (fun t k => st3.trans k) ?_
  refine own_st (G' := T3.setTop (mkF m 59 #[.val (.ref o1), .val (.long q1), .second] [])) (fun t k => XS.tswIn X3.here hx rfl (pc0 := 7) (pc' := 59) rfl (hb hby own_d4_7) rfl (o := 52) (by decide) rfl (by decide) (by decide) k) ?_
  refine own_lloadN X3 hx 60 (hb hby own_d4_59) rfl ?_
  refine own_aloadN X3 hx 61 (hb hby own_d4_60) rfl rfl ?_
  obtain ⟨T5, X5, e5, st5⟩ := getF X3 hx hZ hown (host := "") (Or.inl (hw _ (List.mem_of_getElem? (i := 21) rfl))) Via.refl eh3 pF2 (g := (mkF m 61 #[.val (.ref o1), .val (.long q1), .second] [(.ref o1), (.long q1)])) rfl rfl (hb hby own_d4_61)
  refine own_st (G' := T5.setTop (mkF m 64 #[.val (.ref o1), .val (.long q1), .second] [(.long q2), (.long q1)])) st5 ?_
  refine own_lcmp X5 hx 65 (hb hby own_d4_64) ?_
  by_cases hc65_6 : q2 < q1
  · refine own_ifYes X5 hx 72 (hb hby own_d4_65) (tlt ((lw_gt _ _).mpr hc65_6)).2.2.1 ?_
    refine own_iconst X5 hx 73 (0 : Int32) (hb hby own_d4_72) rfl ?_
    refine own_goto X5 hx 77 (hb hby own_d4_73) ?_
    exact own_retN (t := .boolean) (z := (0 : Int32)) (Q := own_Q4c Z w_NONE w_FLOOR w_CEILING S_w_NONE S_w_FLOOR S_w_CEILING E_w_NONE F_ordinal_w_NONE E_w_FLOOR F_ordinal_w_FLOOR E_w_CEILING F_ordinal_w_CEILING ne_w_NONE_w_FLOOR ne_w_NONE_w_CEILING ne_w_FLOOR_w_CEILING o1 q1 q2 h0 n0) X5 hx hrt (by simp) (hb hby own_d4_77) hlk e5 ⟨(own_leafI (show (0 : Int32) = own_adc q1 q2 from by unfold own_adc; rw [if_pos hc65_6])), N3, rfl⟩ (by decide) (by decide)
  · refine own_ifNo X5 hx 68 (hb hby own_d4_65) (flt (mt (lw_gt _ _).mp hc65_6)).2.2.1 ?_
    refine own_iconst X5 hx 69 (1 : Int32) (hb hby own_d4_68) rfl ?_
    refine own_goto X5 hx 77 (hb hby own_d4_69) ?_
    exact own_retN (t := .boolean) (z := (1 : Int32)) (Q := own_Q4c Z w_NONE w_FLOOR w_CEILING S_w_NONE S_w_FLOOR S_w_CEILING E_w_NONE F_ordinal_w_NONE E_w_FLOOR F_ordinal_w_FLOOR E_w_CEILING F_ordinal_w_CEILING ne_w_NONE_w_FLOOR ne_w_NONE_w_CEILING ne_w_FLOOR_w_CEILING o1 q1 q2 h0 n0) X5 hx hrt (by simp) (hb hby own_d4_77) hlk e5 ⟨(own_leafI (show (1 : Int32) = own_adc q1 q2 from by unfold own_adc; rw [if_neg hc65_6])), N3, rfl⟩ (by decide) (by decide)
theorem own_f1 (a b : Int64) : own_adf a b = (if (own_max a b) = a then (1 : Int32) else 0) := by
  unfold own_adf own_max
  simp only [Int64.lt_iff_toInt_lt, ← Int64.toInt_inj]
  repeat' split
  all_goals first | rfl | omega
theorem own_c1 (a b : Int64) : own_adc a b = (if (own_min a b) = a then (1 : Int32) else 0) := by
  unfold own_adc own_min
  simp only [Int64.lt_iff_toInt_lt, ← Int64.toInt_inj]
  repeat' split
  all_goals first | rfl | omega
theorem own_f2 (a : Int64) : ¬ own_adf a a = (0 : Int32) := by
  rw [own_f1, if_pos (by unfold own_max; split <;> rfl)]; decide
theorem own_c2 (a : Int64) : ¬ own_adc a a = (0 : Int32) := by
  rw [own_c1, if_pos (by unfold own_min; split <;> rfl)]; decide
theorem own_pn3 : plainName "com/example/tallybound/tallybound/counter/BoundAdmitsPinLaw" = true := by first | (simp [plainName, overriddenIn]; done) | decide +kernel
theorem own_pd2 : parseMethodDescriptor "(Lcom/example/tallybound/tallybound/counter/Bound$Kind;J)V" = some ⟨[(.object "com/example/tallybound/tallybound/counter/Bound$Kind"), .long], none⟩ := by decide +kernel
theorem own_pd3 : parseMethodDescriptor "(J)Z" = some ⟨[.long], some .boolean⟩ := by decide +kernel
theorem own_pd4 : parseMethodDescriptor "(JJ)J" = some ⟨[.long, .long], some .long⟩ := by decide +kernel
theorem own_ef0 (m : MethodId) (v0 : Int32) (q1 : Int64) (q2 : Int64) : entryFrame m #[(.int v0), (.long q1), (.long q2)] maxLocals = mkF m 0 #[.val (.int v0), .val (.long q1), .second, .val (.long q2), .second, .unset, .unset, .unset, .unset, .unset, .unset, .unset, .unset] [] := by first | (simp [entryFrame, mkF, argsToLocals, Value.category, maxLocals]; done) | rfl
def own_Q0 (Z : State) (w_NONE : Addr) (w_FLOOR : Addr) (w_CEILING : Addr) (S_w_NONE : Sta Z Z.heap "com/example/tallybound/tallybound/counter/Bound$Kind" "NONE" "Lcom/example/tallybound/tallybound/counter/Bound$Kind;" (.ref w_NONE)) (S_w_FLOOR : Sta Z Z.heap "com/example/tallybound/tallybound/counter/Bound$Kind" "FLOOR" "Lcom/example/tallybound/tallybound/counter/Bound$Kind;" (.ref w_FLOOR)) (S_w_CEILING : Sta Z Z.heap "com/example/tallybound/tallybound/counter/Bound$Kind" "CEILING" "Lcom/example/tallybound/tallybound/counter/Bound$Kind;" (.ref w_CEILING)) (E_w_NONE : Exa Z Z.heap w_NONE "com/example/tallybound/tallybound/counter/Bound$Kind") (F_ordinal_w_NONE : Fld Z Z.heap w_NONE "java/lang/Enum" "ordinal" "I" (.int (0 : Int32))) (E_w_FLOOR : Exa Z Z.heap w_FLOOR "com/example/tallybound/tallybound/counter/Bound$Kind") (F_ordinal_w_FLOOR : Fld Z Z.heap w_FLOOR "java/lang/Enum" "ordinal" "I" (.int (1 : Int32))) (E_w_CEILING : Exa Z Z.heap w_CEILING "com/example/tallybound/tallybound/counter/Bound$Kind") (F_ordinal_w_CEILING : Fld Z Z.heap w_CEILING "java/lang/Enum" "ordinal" "I" (.int (2 : Int32))) (ne_w_NONE_w_FLOOR : w_NONE ≠ w_FLOOR) (ne_w_NONE_w_CEILING : w_NONE ≠ w_CEILING) (ne_w_FLOOR_w_CEILING : w_FLOOR ≠ w_CEILING) (v0 : Int32) (q1 : Int64) (q2 : Int64) (h0 : Heap) (n0 : Nat) (v : Option Value) (h : Heap) (L : List Loc) : Prop := v = some (.int (1 : Int32)) ∧ Fr n0 L
set_option maxRecDepth 65536 in
set_option maxHeartbeats 40000000 in
theorem own_rm0 (l : Launch) (Z : State) (a0 : Array Value) (hw : ∀ d ∈ tables_1, d.before a0 Z = true) (ws : List Jvm.Cond) (w_NONE : Addr) (w_FLOOR : Addr) (w_CEILING : Addr) (S_w_NONE : Sta Z Z.heap "com/example/tallybound/tallybound/counter/Bound$Kind" "NONE" "Lcom/example/tallybound/tallybound/counter/Bound$Kind;" (.ref w_NONE)) (S_w_FLOOR : Sta Z Z.heap "com/example/tallybound/tallybound/counter/Bound$Kind" "FLOOR" "Lcom/example/tallybound/tallybound/counter/Bound$Kind;" (.ref w_FLOOR)) (S_w_CEILING : Sta Z Z.heap "com/example/tallybound/tallybound/counter/Bound$Kind" "CEILING" "Lcom/example/tallybound/tallybound/counter/Bound$Kind;" (.ref w_CEILING)) (E_w_NONE : Exa Z Z.heap w_NONE "com/example/tallybound/tallybound/counter/Bound$Kind") (F_ordinal_w_NONE : Fld Z Z.heap w_NONE "java/lang/Enum" "ordinal" "I" (.int (0 : Int32))) (E_w_FLOOR : Exa Z Z.heap w_FLOOR "com/example/tallybound/tallybound/counter/Bound$Kind") (F_ordinal_w_FLOOR : Fld Z Z.heap w_FLOOR "java/lang/Enum" "ordinal" "I" (.int (1 : Int32))) (E_w_CEILING : Exa Z Z.heap w_CEILING "com/example/tallybound/tallybound/counter/Bound$Kind") (F_ordinal_w_CEILING : Fld Z Z.heap w_CEILING "java/lang/Enum" "ordinal" "I" (.int (2 : Int32))) (ne_w_NONE_w_FLOOR : w_NONE ≠ w_FLOOR) (ne_w_NONE_w_CEILING : w_NONE ≠ w_CEILING) (ne_w_FLOOR_w_CEILING : w_FLOOR ≠ w_CEILING) (v0 : Int32) (q1 : Int64) (q2 : Int64) (h0 : Heap) (n0 : Nat) (Z0 : n0 ≤ h0.size) (O0 : Old Z n0 h0) :
    MetFree l x (head1 (Jvm.Cond.code x code maxLocals ret :: ws) room_1) (fun a U => a = #[(.int v0), (.long q1), (.long q2)] ∧ Z.Warmed39 U.vm ∧ U.heap = h0) (fun _ _ _ _ _ => True) (fun _ U o U' => ∃ v L, o = .returned v ∧ own_Q0 Z w_NONE w_FLOOR w_CEILING S_w_NONE S_w_FLOOR S_w_CEILING E_w_NONE F_ordinal_w_NONE E_w_FLOOR F_ordinal_w_FLOOR E_w_CEILING F_ordinal_w_CEILING ne_w_NONE_w_FLOOR ne_w_NONE_w_CEILING ne_w_FLOOR_w_CEILING v0 q1 q2 h0 n0 v U'.heap L ∧ FrameEnd U o U' L room_1.cells room_1.slots) := by
  refine MetFree.of_bodySF (plainFor_of_name own_pn3) hisR ?_
  intro p e s m args below meth c s₁ Bd hml0 hP hK
  obtain ⟨rfl, hZ, hh⟩ := hP
  have hx := Bd.exec
  have hby := Bd.bytes
  have hlk := Bd.notSynchronized
  have hrt := Bd.returns
  have hml : c.maxLocals = 13 := hml0
  have hown : s.vm.findClass "com/example/tallybound/tallybound/counter/BoundAdmitsPinLaw" = some m.cls := findClass_of_methodNamed Bd.named
  have hnm := (name_of_methodNamed Bd.named Bd.method).1
  have X0 : Stand p l e room_1 s m #[(.int v0), (.long q1), (.long q2)] below meth c s₁ [] 0 0 := Stand.of_body Bd
  have e0 : s₁.heap = h0 := by rw [← hh, Bd.state]; rfl
  have N0 := Fr.nil n0
  refine own_in (own_ef0 m v0 q1 q2) ?_
  refine own_iloadN X0 hx 1 (hb hby at_0) rfl ?_
  refine own_ldcI X0 hx 3 hown (mvT hZ (hw _ (List.mem_of_getElem? (i := 0) rfl))) (hb hby at_1) ?_
  refine own_iand X0 hx 4 (hb hby at_3) ?_
  refine own_iconst X0 hx 5 (3 : Int32) (hb hby at_4) rfl ?_
  refine own_irem X0 hx 6 (hb hby at_5) (by decide) ?_
  refine own_istore X0 hx 8 #[.val (.int v0), .val (.long q1), .second, .val (.long q2), .second, .val (.int ((v0 &&& (2147483647 : Int32)) % (3 : Int32))), .unset, .unset, .unset, .unset, .unset, .unset, .unset] (hb hby at_6) rfl ?_
  refine own_iload X0 hx 10 (hb hby at_8) rfl ?_
  by_cases hc10_1 : ((v0 &&& (2147483647 : Int32)) % (3 : Int32)) = (0 : Int32)
  · refine own_ifNo X0 hx 13 (hb hby at_10) (teq hc10_1).2 ?_
    obtain ⟨T2, X2, e2, st2⟩ := getS2 X0 hx hZ hown (host := "") (Or.inl (hw _ (List.mem_of_getElem? (i := 1) rfl))) Via.refl e0 (S_w_NONE.ext O0.2) (g := (mkF m 13 #[.val (.int v0), .val (.long q1), .second, .val (.long q2), .second, .val (.int ((v0 &&& (2147483647 : Int32)) % (3 : Int32))), .unset, .unset, .unset, .unset, .unset, .unset, .unset] [])) rfl (hb hby at_13)
    refine own_st (G' := T2.setTop (mkF m 16 #[.val (.int v0), .val (.long q1), .second, .val (.long q2), .second, .val (.int ((v0 &&& (2147483647 : Int32)) % (3 : Int32))), .unset, .unset, .unset, .unset, .unset, .unset, .unset] [(.ref w_NONE)])) st2 ?_
    refine own_astore X2 hx 18 #[.val (.int v0), .val (.long q1), .second, .val (.long q2), .second, .val (.int ((v0 &&& (2147483647 : Int32)) % (3 : Int32))), .val (.ref w_NONE), .unset, .unset, .unset, .unset, .unset, .unset] (hb hby at_16) rfl rfl ?_
    refine own_lconst X2 hx 19 (0 : Int64) (hb hby at_18) rfl ?_
    refine own_lstore X2 hx 21 #[.val (.int v0), .val (.long q1), .second, .val (.long q2), .second, .val (.int ((v0 &&& (2147483647 : Int32)) % (3 : Int32))), .val (.ref w_NONE), .val (.long (0 : Int64)), .second, .unset, .unset, .unset, .unset] (hb hby at_19) rfl ?_
    refine own_goto X2 hx 49 (hb hby at_21) ?_
    obtain ⟨T3, h3, X3, e3, E3, A3, D3, -, st3⟩ := newO X2 hx hZ hown (hw _ (List.mem_of_getElem? (i := 4) rfl)) (hw _ (List.mem_of_getElem? (i := 5) rfl)) (hw _ (List.mem_of_getElem? (i := 6) rfl)) e2 (g := (mkF m 49 #[.val (.int v0), .val (.long q1), .second, .val (.long q2), .second, .val (.int ((v0 &&& (2147483647 : Int32)) % (3 : Int32))), .val (.ref w_NONE), .val (.long (0 : Int64)), .second, .unset, .unset, .unset, .unset] [])) rfl (hb hby at_49) (by decide) (by decide)
    obtain ⟨b3, g3⟩ : ∃ z, z = h0.size := ⟨_, rfl⟩
    rw [← g3] at A3 D3 st3
    have gt_b3 : n0 ≤ b3 := Nat.le_trans Z0 (Nat.le_of_eq g3.symm)
    have O4 := O0.ext E3
    have Z5 := Nat.le_trans Z0 E3.1
    have F3_kind : Fld Z h3 b3 "com/example/tallybound/tallybound/counter/Bound" "kind" "Lcom/example/tallybound/tallybound/counter/Bound$Kind;" .null := D3 (Or.inr (hw _ (List.mem_of_getElem? (i := 20) rfl))) (ty := (.object "com/example/tallybound/tallybound/counter/Bound$Kind")) (by decide)
    have F3_limit : Fld Z h3 b3 "com/example/tallybound/tallybound/counter/Bound" "limit" "J" (.long (0 : Int64)) := D3 (Or.inr (hw _ (List.mem_of_getElem? (i := 22) rfl))) (ty := .long) (by decide)
    refine own_st (G' := T3.setTop (mkF m 52 #[.val (.int v0), .val (.long q1), .second, .val (.long q2), .second, .val (.int ((v0 &&& (2147483647 : Int32)) % (3 : Int32))), .val (.ref w_NONE), .val (.long (0 : Int64)), .second, .unset, .unset, .unset, .unset] [(.ref b3)])) st3 ?_
    refine own_dup X3 hx 53 (hb hby at_52) rfl ?_
    refine own_aload X3 hx 55 (hb hby at_53) rfl rfl ?_
    refine own_lload X3 hx 57 (hb hby at_55) rfl ?_
    obtain ⟨_, _, ⟨T6, Lx6, kc6, nc6⟩, -, X6, ⟨Lc6, hQ6, lq6, yq6, zq6⟩, st6⟩ := X3.specialBack hx (y := (⟨"com/example/tallybound/tallybound/counter/Bound", "<init>", "(Lcom/example/tallybound/tallybound/counter/Bound$Kind;J)V"⟩ : MethodName)) rfl hown (mvT hZ (hw _ (List.mem_of_getElem? (i := 7) rfl))) (mvT hZ (hw _ (List.mem_of_getElem? (i := 8) rfl))) (mvT hZ (hw _ (List.mem_of_getElem? (i := 9) rfl))) (by decide) (backOf (W := 1) (own_rm1 l Z a0 hw [] w_NONE w_FLOOR w_CEILING S_w_NONE S_w_FLOOR S_w_CEILING E_w_NONE F_ordinal_w_NONE E_w_FLOOR F_ordinal_w_FLOOR E_w_CEILING F_ordinal_w_CEILING ne_w_NONE_w_FLOOR ne_w_NONE_w_CEILING ne_w_FLOOR_w_CEILING b3 w_NONE (0 : Int64) h3 n0 Z5 A3 F3_kind F3_limit gt_b3 O4 (by first | exact fun _ => rfl | exact fun h => absurd h ne_w_NONE_w_FLOOR | exact fun h => absurd h.symm ne_w_NONE_w_FLOOR | exact fun h => absurd h ne_w_NONE_w_CEILING | exact fun h => absurd h.symm ne_w_NONE_w_CEILING : w_NONE = w_NONE → (0 : Int64) = (0 : Int64))) hZ (hw _ (List.mem_of_getElem? (i := 9) rfl)) (hw _ (List.mem_of_getElem? (i := 6) rfl)) (by decide) (by decide)) (g := (mkF m 57 #[.val (.int v0), .val (.long q1), .second, .val (.long q2), .second, .val (.int ((v0 &&& (2147483647 : Int32)) % (3 : Int32))), .val (.ref w_NONE), .val (.long (0 : Int64)), .second, .unset, .unset, .unset, .unset] [(.long (0 : Int64)), (.ref w_NONE), (.ref b3), (.ref b3)])) rfl (by rw [hml]; rfl) (Steps.refl _) (a := b3) (argsL := [(.ref w_NONE), (.long (0 : Int64))]) (rest := [(.ref b3)]) (lenOf own_pd2 rfl) rfl (by show 2 * 0 + _ ≤ _; exact Nat.le_of_eq rfl) (hb hby at_57) (fun _ _ => ⟨rfl, e3, (by decide : 1 + 0 ≤ _), (by decide : 2 + 0 ≤ _)⟩)
    dsimp only [Pt.U, Pt.locs, Pt.cells, Pt.slots] at X6 lq6 yq6 zq6 st6 hQ6
    subst lq6 yq6 zq6
    obtain ⟨rfl, Nq6, Kp6, G6_0, G6_1, G6_2⟩ := hQ6
    have N6 := Fr.app N0 Nq6
    have O7 := O4.keep Kp6 (allS gt_b3 all0)
    have Z8 := Nat.le_trans Z5 Kp6.1
    refine own_st (G' := T6.setTop (mkF m 60 #[.val (.int v0), .val (.long q1), .second, .val (.long q2), .second, .val (.int ((v0 &&& (2147483647 : Int32)) % (3 : Int32))), .val (.ref w_NONE), .val (.long (0 : Int64)), .second, .unset, .unset, .unset, .unset] [(.ref b3)])) (fun t k => st6.trans k) ?_
    refine own_astore X6 hx 62 #[.val (.int v0), .val (.long q1), .second, .val (.long q2), .second, .val (.int ((v0 &&& (2147483647 : Int32)) % (3 : Int32))), .val (.ref w_NONE), .val (.long (0 : Int64)), .second, .val (.ref b3), .unset, .unset, .unset] (hb hby at_60) rfl rfl ?_
    refine own_aload X6 hx 64 (hb hby at_62) rfl rfl ?_
    refine own_lloadN X6 hx 65 (hb hby at_64) rfl ?_
    obtain ⟨cq9, kq9, q9a, q9b, q9c⟩ := isOf hZ rfl G6_0
    obtain ⟨_, _, ⟨T9, Lx9, kc9, nc9⟩, -, X9, ⟨Lc9, hQ9, lq9, yq9, zq9⟩, st9⟩ := X6.virtualBack hx (y := (⟨"com/example/tallybound/tallybound/counter/Bound", "admits", "(J)Z"⟩ : MethodName)) (z := (⟨"com/example/tallybound/tallybound/counter/Bound", "admits", "(J)Z"⟩ : MethodName)) hown (mvT hZ (hw _ (List.mem_of_getElem? (i := 23) rfl))) (mvT hZ (hw _ (List.mem_of_getElem? (i := 24) rfl))) (notFace_of_selects (args := #[]) (mvT hZ (hw _ (List.mem_of_getElem? (i := 26) rfl)))) (mvT hZ (hw _ (List.mem_of_getElem? (i := 26) rfl))) (mvT hZ (hw _ (List.mem_of_getElem? (i := 25) rfl))) (by decide) (backOf (W := 0) (own_rm4n l Z a0 hw [] w_NONE w_FLOOR w_CEILING S_w_NONE S_w_FLOOR S_w_CEILING E_w_NONE F_ordinal_w_NONE E_w_FLOOR F_ordinal_w_FLOOR E_w_CEILING F_ordinal_w_CEILING ne_w_NONE_w_FLOOR ne_w_NONE_w_CEILING ne_w_FLOOR_w_CEILING b3 q2 (0 : Int64) T6.heap n0 Z8 G6_1 G6_2 O7) hZ (hw _ (List.mem_of_getElem? (i := 27) rfl)) (hw _ (List.mem_of_getElem? (i := 6) rfl)) (by decide) (by decide)) q9a q9c (g := (mkF m 65 #[.val (.int v0), .val (.long q1), .second, .val (.long q2), .second, .val (.int ((v0 &&& (2147483647 : Int32)) % (3 : Int32))), .val (.ref w_NONE), .val (.long (0 : Int64)), .second, .val (.ref b3), .unset, .unset, .unset] [(.long q2), (.ref b3)])) rfl (by rw [hml]; rfl) (Steps.refl _) (argsL := [(.long q2)]) (rest := []) (lenOf own_pd3 rfl) rfl (by show 2 * 0 + _ ≤ _; exact Nat.le_of_eq rfl) (hb hby at_65) (fun _ _ => ⟨rfl, rfl, (by decide : 1 + 0 ≤ _), (by decide : 2 + 0 ≤ _)⟩)
    dsimp only [Pt.U, Pt.locs, Pt.cells, Pt.slots] at X9 lq9 yq9 zq9 st9 hQ9
    subst lq9 yq9 zq9
    obtain ⟨rfl, Nq9, eh9⟩ := hQ9
    have N9 := Fr.app N6 Nq9
    refine own_st (G' := T9.setTop (mkF m 68 #[.val (.int v0), .val (.long q1), .second, .val (.long q2), .second, .val (.int ((v0 &&& (2147483647 : Int32)) % (3 : Int32))), .val (.ref w_NONE), .val (.long (0 : Int64)), .second, .val (.ref b3), .unset, .unset, .unset] [(.int (1 : Int32))])) (fun t k => st9.trans k) ?_
    refine own_istore X9 hx 70 #[.val (.int v0), .val (.long q1), .second, .val (.long q2), .second, .val (.int ((v0 &&& (2147483647 : Int32)) % (3 : Int32))), .val (.ref w_NONE), .val (.long (0 : Int64)), .second, .val (.ref b3), .val (.int (1 : Int32)), .unset, .unset] (hb hby at_68) rfl ?_
    refine own_aload X9 hx 72 (hb hby at_70) rfl rfl ?_
    refine own_lload X9 hx 74 (hb hby at_72) rfl ?_
    obtain ⟨cq10, kq10, q10a, q10b, q10c⟩ := isOf hZ eh9 G6_0
    obtain ⟨_, _, ⟨T10, Lx10, kc10, nc10⟩, -, X10, ⟨Lc10, hQ10, lq10, yq10, zq10⟩, st10⟩ := X9.virtualBack hx (y := (⟨"com/example/tallybound/tallybound/counter/Bound", "admits", "(J)Z"⟩ : MethodName)) (z := (⟨"com/example/tallybound/tallybound/counter/Bound", "admits", "(J)Z"⟩ : MethodName)) hown (mvT hZ (hw _ (List.mem_of_getElem? (i := 23) rfl))) (mvT hZ (hw _ (List.mem_of_getElem? (i := 24) rfl))) (notFace_of_selects (args := #[]) (mvT hZ (hw _ (List.mem_of_getElem? (i := 26) rfl)))) (mvT hZ (hw _ (List.mem_of_getElem? (i := 26) rfl))) (mvT hZ (hw _ (List.mem_of_getElem? (i := 25) rfl))) (by decide) (backOf (W := 0) (own_rm4n l Z a0 hw [] w_NONE w_FLOOR w_CEILING S_w_NONE S_w_FLOOR S_w_CEILING E_w_NONE F_ordinal_w_NONE E_w_FLOOR F_ordinal_w_FLOOR E_w_CEILING F_ordinal_w_CEILING ne_w_NONE_w_FLOOR ne_w_NONE_w_CEILING ne_w_FLOOR_w_CEILING b3 (0 : Int64) (0 : Int64) T6.heap n0 Z8 G6_1 G6_2 O7) hZ (hw _ (List.mem_of_getElem? (i := 27) rfl)) (hw _ (List.mem_of_getElem? (i := 6) rfl)) (by decide) (by decide)) q10a q10c (g := (mkF m 74 #[.val (.int v0), .val (.long q1), .second, .val (.long q2), .second, .val (.int ((v0 &&& (2147483647 : Int32)) % (3 : Int32))), .val (.ref w_NONE), .val (.long (0 : Int64)), .second, .val (.ref b3), .val (.int (1 : Int32)), .unset, .unset] [(.long (0 : Int64)), (.ref b3)])) rfl (by rw [hml]; rfl) (Steps.refl _) (argsL := [(.long (0 : Int64))]) (rest := []) (lenOf own_pd3 rfl) rfl (by show 2 * 0 + _ ≤ _; exact Nat.le_of_eq rfl) (hb hby at_74) (fun _ _ => ⟨rfl, eh9, (by decide : 1 + 0 ≤ _), (by decide : 2 + 0 ≤ _)⟩)
    dsimp only [Pt.U, Pt.locs, Pt.cells, Pt.slots] at X10 lq10 yq10 zq10 st10 hQ10
    subst lq10 yq10 zq10
    obtain ⟨rfl, Nq10, eh10⟩ := hQ10
    have N10 := Fr.app N9 Nq10
    refine own_st (G' := T10.setTop (mkF m 77 #[.val (.int v0), .val (.long q1), .second, .val (.long q2), .second, .val (.int ((v0 &&& (2147483647 : Int32)) % (3 : Int32))), .val (.ref w_NONE), .val (.long (0 : Int64)), .second, .val (.ref b3), .val (.int (1 : Int32)), .unset, .unset] [(.int (1 : Int32))])) (fun t k => st10.trans k) ?_
    refine own_istore X10 hx 79 #[.val (.int v0), .val (.long q1), .second, .val (.long q2), .second, .val (.int ((v0 &&& (2147483647 : Int32)) % (3 : Int32))), .val (.ref w_NONE), .val (.long (0 : Int64)), .second, .val (.ref b3), .val (.int (1 : Int32)), .val (.int (1 : Int32)), .unset] (hb hby at_77) rfl ?_
    refine own_iload X10 hx 81 (hb hby at_79) rfl ?_
    refine own_ifNo X10 hx 84 (hb hby at_81) (teq hc10_1).2 ?_
    refine own_iconst X10 hx 85 (1 : Int32) (hb hby at_84) rfl ?_
    refine own_istore X10 hx 87 #[.val (.int v0), .val (.long q1), .second, .val (.long q2), .second, .val (.int ((v0 &&& (2147483647 : Int32)) % (3 : Int32))), .val (.ref w_NONE), .val (.long (0 : Int64)), .second, .val (.ref b3), .val (.int (1 : Int32)), .val (.int (1 : Int32)), .val (.int (1 : Int32))] (hb hby at_85) rfl ?_
    refine own_goto X10 hx 135 (hb hby at_87) ?_
    refine own_iload X10 hx 137 (hb hby at_135) rfl ?_
    refine own_iload X10 hx 139 (hb hby at_137) rfl ?_
    refine own_icmpNo X10 hx 142 (hb hby at_139) (teq (rfl : (1 : Int32) = (1 : Int32))).2 ?_
    refine own_iload X10 hx 144 (hb hby at_142) rfl ?_
    refine own_ifNo X10 hx 147 (hb hby at_144) (feq (by decide : ¬ ((1 : Int32) = (0 : Int32)))).1 ?_
    refine own_iconst X10 hx 148 (1 : Int32) (hb hby at_147) rfl ?_
    refine own_goto X10 hx 152 (hb hby at_148) ?_
    exact own_retN (t := .boolean) (z := (1 : Int32)) (Q := own_Q0 Z w_NONE w_FLOOR w_CEILING S_w_NONE S_w_FLOOR S_w_CEILING E_w_NONE F_ordinal_w_NONE E_w_FLOOR F_ordinal_w_FLOOR E_w_CEILING F_ordinal_w_CEILING ne_w_NONE_w_FLOOR ne_w_NONE_w_CEILING ne_w_FLOOR_w_CEILING v0 q1 q2 h0 n0) X10 hx hrt (by simp) (hb hby at_152) hlk eh10 ⟨rfl, N10⟩ (by decide) (by decide)
  · refine own_ifYes X0 hx 24 (hb hby at_10) (feq hc10_1).2 ?_
    refine own_iload X0 hx 26 (hb hby at_24) rfl ?_
    refine own_iconst X0 hx 27 (1 : Int32) (hb hby at_26) rfl ?_
    by_cases hc27_11 : ((v0 &&& (2147483647 : Int32)) % (3 : Int32)) = (1 : Int32)
    · refine own_icmpNo X0 hx 30 (hb hby at_27) (teq hc27_11).2 ?_
      obtain ⟨T12, X12, e12, st12⟩ := getS2 X0 hx hZ hown (host := "") (Or.inl (hw _ (List.mem_of_getElem? (i := 37) rfl))) Via.refl e0 (S_w_FLOOR.ext O0.2) (g := (mkF m 30 #[.val (.int v0), .val (.long q1), .second, .val (.long q2), .second, .val (.int ((v0 &&& (2147483647 : Int32)) % (3 : Int32))), .unset, .unset, .unset, .unset, .unset, .unset, .unset] [])) rfl (hb hby at_30)
      refine own_st (G' := T12.setTop (mkF m 33 #[.val (.int v0), .val (.long q1), .second, .val (.long q2), .second, .val (.int ((v0 &&& (2147483647 : Int32)) % (3 : Int32))), .unset, .unset, .unset, .unset, .unset, .unset, .unset] [(.ref w_FLOOR)])) st12 ?_
      refine own_astore X12 hx 35 #[.val (.int v0), .val (.long q1), .second, .val (.long q2), .second, .val (.int ((v0 &&& (2147483647 : Int32)) % (3 : Int32))), .val (.ref w_FLOOR), .unset, .unset, .unset, .unset, .unset, .unset] (hb hby at_33) rfl rfl ?_
      refine own_lloadN X12 hx 36 (hb hby at_35) rfl ?_
      refine own_lstore X12 hx 38 #[.val (.int v0), .val (.long q1), .second, .val (.long q2), .second, .val (.int ((v0 &&& (2147483647 : Int32)) % (3 : Int32))), .val (.ref w_FLOOR), .val (.long q1), .second, .unset, .unset, .unset, .unset] (hb hby at_36) rfl ?_
      refine own_goto X12 hx 49 (hb hby at_38) ?_
      obtain ⟨T13, h13, X13, e13, E13, A13, D13, -, st13⟩ := newO X12 hx hZ hown (hw _ (List.mem_of_getElem? (i := 4) rfl)) (hw _ (List.mem_of_getElem? (i := 5) rfl)) (hw _ (List.mem_of_getElem? (i := 6) rfl)) e12 (g := (mkF m 49 #[.val (.int v0), .val (.long q1), .second, .val (.long q2), .second, .val (.int ((v0 &&& (2147483647 : Int32)) % (3 : Int32))), .val (.ref w_FLOOR), .val (.long q1), .second, .unset, .unset, .unset, .unset] [])) rfl (hb hby at_49) (by decide) (by decide)
      obtain ⟨b13, g13⟩ : ∃ z, z = h0.size := ⟨_, rfl⟩
      rw [← g13] at A13 D13 st13
      have gt_b13 : n0 ≤ b13 := Nat.le_trans Z0 (Nat.le_of_eq g13.symm)
      have O14 := O0.ext E13
      have Z15 := Nat.le_trans Z0 E13.1
      have F13_kind : Fld Z h13 b13 "com/example/tallybound/tallybound/counter/Bound" "kind" "Lcom/example/tallybound/tallybound/counter/Bound$Kind;" .null := D13 (Or.inr (hw _ (List.mem_of_getElem? (i := 20) rfl))) (ty := (.object "com/example/tallybound/tallybound/counter/Bound$Kind")) (by decide)
      have F13_limit : Fld Z h13 b13 "com/example/tallybound/tallybound/counter/Bound" "limit" "J" (.long (0 : Int64)) := D13 (Or.inr (hw _ (List.mem_of_getElem? (i := 22) rfl))) (ty := .long) (by decide)
      refine own_st (G' := T13.setTop (mkF m 52 #[.val (.int v0), .val (.long q1), .second, .val (.long q2), .second, .val (.int ((v0 &&& (2147483647 : Int32)) % (3 : Int32))), .val (.ref w_FLOOR), .val (.long q1), .second, .unset, .unset, .unset, .unset] [(.ref b13)])) st13 ?_
      refine own_dup X13 hx 53 (hb hby at_52) rfl ?_
      refine own_aload X13 hx 55 (hb hby at_53) rfl rfl ?_
      refine own_lload X13 hx 57 (hb hby at_55) rfl ?_
      obtain ⟨_, _, ⟨T16, Lx16, kc16, nc16⟩, -, X16, ⟨Lc16, hQ16, lq16, yq16, zq16⟩, st16⟩ := X13.specialBack hx (y := (⟨"com/example/tallybound/tallybound/counter/Bound", "<init>", "(Lcom/example/tallybound/tallybound/counter/Bound$Kind;J)V"⟩ : MethodName)) rfl hown (mvT hZ (hw _ (List.mem_of_getElem? (i := 7) rfl))) (mvT hZ (hw _ (List.mem_of_getElem? (i := 8) rfl))) (mvT hZ (hw _ (List.mem_of_getElem? (i := 9) rfl))) (by decide) (backOf (W := 1) (own_rm1 l Z a0 hw [] w_NONE w_FLOOR w_CEILING S_w_NONE S_w_FLOOR S_w_CEILING E_w_NONE F_ordinal_w_NONE E_w_FLOOR F_ordinal_w_FLOOR E_w_CEILING F_ordinal_w_CEILING ne_w_NONE_w_FLOOR ne_w_NONE_w_CEILING ne_w_FLOOR_w_CEILING b13 w_FLOOR q1 h13 n0 Z15 A13 F13_kind F13_limit gt_b13 O14 (by first | exact fun _ => rfl | exact fun h => absurd h ne_w_NONE_w_FLOOR | exact fun h => absurd h.symm ne_w_NONE_w_FLOOR | exact fun h => absurd h ne_w_NONE_w_CEILING | exact fun h => absurd h.symm ne_w_NONE_w_CEILING : w_FLOOR = w_NONE → q1 = (0 : Int64))) hZ (hw _ (List.mem_of_getElem? (i := 9) rfl)) (hw _ (List.mem_of_getElem? (i := 6) rfl)) (by decide) (by decide)) (g := (mkF m 57 #[.val (.int v0), .val (.long q1), .second, .val (.long q2), .second, .val (.int ((v0 &&& (2147483647 : Int32)) % (3 : Int32))), .val (.ref w_FLOOR), .val (.long q1), .second, .unset, .unset, .unset, .unset] [(.long q1), (.ref w_FLOOR), (.ref b13), (.ref b13)])) rfl (by rw [hml]; rfl) (Steps.refl _) (a := b13) (argsL := [(.ref w_FLOOR), (.long q1)]) (rest := [(.ref b13)]) (lenOf own_pd2 rfl) rfl (by show 2 * 0 + _ ≤ _; exact Nat.le_of_eq rfl) (hb hby at_57) (fun _ _ => ⟨rfl, e13, (by decide : 1 + 0 ≤ _), (by decide : 2 + 0 ≤ _)⟩)
      dsimp only [Pt.U, Pt.locs, Pt.cells, Pt.slots] at X16 lq16 yq16 zq16 st16 hQ16
      subst lq16 yq16 zq16
      obtain ⟨rfl, Nq16, Kp16, G16_0, G16_1, G16_2⟩ := hQ16
      have N16 := Fr.app N0 Nq16
      have O17 := O14.keep Kp16 (allS gt_b13 all0)
      have Z18 := Nat.le_trans Z15 Kp16.1
      refine own_st (G' := T16.setTop (mkF m 60 #[.val (.int v0), .val (.long q1), .second, .val (.long q2), .second, .val (.int ((v0 &&& (2147483647 : Int32)) % (3 : Int32))), .val (.ref w_FLOOR), .val (.long q1), .second, .unset, .unset, .unset, .unset] [(.ref b13)])) (fun t k => st16.trans k) ?_
      refine own_astore X16 hx 62 #[.val (.int v0), .val (.long q1), .second, .val (.long q2), .second, .val (.int ((v0 &&& (2147483647 : Int32)) % (3 : Int32))), .val (.ref w_FLOOR), .val (.long q1), .second, .val (.ref b13), .unset, .unset, .unset] (hb hby at_60) rfl rfl ?_
      refine own_aload X16 hx 64 (hb hby at_62) rfl rfl ?_
      refine own_lloadN X16 hx 65 (hb hby at_64) rfl ?_
      obtain ⟨cq19, kq19, q19a, q19b, q19c⟩ := isOf hZ rfl G16_0
      obtain ⟨_, _, ⟨T19, Lx19, kc19, nc19⟩, -, X19, ⟨Lc19, hQ19, lq19, yq19, zq19⟩, st19⟩ := X16.virtualBack hx (y := (⟨"com/example/tallybound/tallybound/counter/Bound", "admits", "(J)Z"⟩ : MethodName)) (z := (⟨"com/example/tallybound/tallybound/counter/Bound", "admits", "(J)Z"⟩ : MethodName)) hown (mvT hZ (hw _ (List.mem_of_getElem? (i := 23) rfl))) (mvT hZ (hw _ (List.mem_of_getElem? (i := 24) rfl))) (notFace_of_selects (args := #[]) (mvT hZ (hw _ (List.mem_of_getElem? (i := 26) rfl)))) (mvT hZ (hw _ (List.mem_of_getElem? (i := 26) rfl))) (mvT hZ (hw _ (List.mem_of_getElem? (i := 25) rfl))) (by decide) (backOf (W := 0) (own_rm4f l Z a0 hw [] w_NONE w_FLOOR w_CEILING S_w_NONE S_w_FLOOR S_w_CEILING E_w_NONE F_ordinal_w_NONE E_w_FLOOR F_ordinal_w_FLOOR E_w_CEILING F_ordinal_w_CEILING ne_w_NONE_w_FLOOR ne_w_NONE_w_CEILING ne_w_FLOOR_w_CEILING b13 q2 q1 T16.heap n0 Z18 G16_1 G16_2 O17) hZ (hw _ (List.mem_of_getElem? (i := 27) rfl)) (hw _ (List.mem_of_getElem? (i := 6) rfl)) (by decide) (by decide)) q19a q19c (g := (mkF m 65 #[.val (.int v0), .val (.long q1), .second, .val (.long q2), .second, .val (.int ((v0 &&& (2147483647 : Int32)) % (3 : Int32))), .val (.ref w_FLOOR), .val (.long q1), .second, .val (.ref b13), .unset, .unset, .unset] [(.long q2), (.ref b13)])) rfl (by rw [hml]; rfl) (Steps.refl _) (argsL := [(.long q2)]) (rest := []) (lenOf own_pd3 rfl) rfl (by show 2 * 0 + _ ≤ _; exact Nat.le_of_eq rfl) (hb hby at_65) (fun _ _ => ⟨rfl, rfl, (by decide : 1 + 0 ≤ _), (by decide : 2 + 0 ≤ _)⟩)
      dsimp only [Pt.U, Pt.locs, Pt.cells, Pt.slots] at X19 lq19 yq19 zq19 st19 hQ19
      subst lq19 yq19 zq19
      obtain ⟨rfl, Nq19, eh19⟩ := hQ19
      have N19 := Fr.app N16 Nq19
      refine own_st (G' := T19.setTop (mkF m 68 #[.val (.int v0), .val (.long q1), .second, .val (.long q2), .second, .val (.int ((v0 &&& (2147483647 : Int32)) % (3 : Int32))), .val (.ref w_FLOOR), .val (.long q1), .second, .val (.ref b13), .unset, .unset, .unset] [(.int (own_adf q2 q1))])) (fun t k => st19.trans k) ?_
      refine own_istore X19 hx 70 #[.val (.int v0), .val (.long q1), .second, .val (.long q2), .second, .val (.int ((v0 &&& (2147483647 : Int32)) % (3 : Int32))), .val (.ref w_FLOOR), .val (.long q1), .second, .val (.ref b13), .val (.int (own_adf q2 q1)), .unset, .unset] (hb hby at_68) rfl ?_
      refine own_aload X19 hx 72 (hb hby at_70) rfl rfl ?_
      refine own_lload X19 hx 74 (hb hby at_72) rfl ?_
      obtain ⟨cq20, kq20, q20a, q20b, q20c⟩ := isOf hZ eh19 G16_0
      obtain ⟨_, _, ⟨T20, Lx20, kc20, nc20⟩, -, X20, ⟨Lc20, hQ20, lq20, yq20, zq20⟩, st20⟩ := X19.virtualBack hx (y := (⟨"com/example/tallybound/tallybound/counter/Bound", "admits", "(J)Z"⟩ : MethodName)) (z := (⟨"com/example/tallybound/tallybound/counter/Bound", "admits", "(J)Z"⟩ : MethodName)) hown (mvT hZ (hw _ (List.mem_of_getElem? (i := 23) rfl))) (mvT hZ (hw _ (List.mem_of_getElem? (i := 24) rfl))) (notFace_of_selects (args := #[]) (mvT hZ (hw _ (List.mem_of_getElem? (i := 26) rfl)))) (mvT hZ (hw _ (List.mem_of_getElem? (i := 26) rfl))) (mvT hZ (hw _ (List.mem_of_getElem? (i := 25) rfl))) (by decide) (backOf (W := 0) (own_rm4f l Z a0 hw [] w_NONE w_FLOOR w_CEILING S_w_NONE S_w_FLOOR S_w_CEILING E_w_NONE F_ordinal_w_NONE E_w_FLOOR F_ordinal_w_FLOOR E_w_CEILING F_ordinal_w_CEILING ne_w_NONE_w_FLOOR ne_w_NONE_w_CEILING ne_w_FLOOR_w_CEILING b13 q1 q1 T16.heap n0 Z18 G16_1 G16_2 O17) hZ (hw _ (List.mem_of_getElem? (i := 27) rfl)) (hw _ (List.mem_of_getElem? (i := 6) rfl)) (by decide) (by decide)) q20a q20c (g := (mkF m 74 #[.val (.int v0), .val (.long q1), .second, .val (.long q2), .second, .val (.int ((v0 &&& (2147483647 : Int32)) % (3 : Int32))), .val (.ref w_FLOOR), .val (.long q1), .second, .val (.ref b13), .val (.int (own_adf q2 q1)), .unset, .unset] [(.long q1), (.ref b13)])) rfl (by rw [hml]; rfl) (Steps.refl _) (argsL := [(.long q1)]) (rest := []) (lenOf own_pd3 rfl) rfl (by show 2 * 0 + _ ≤ _; exact Nat.le_of_eq rfl) (hb hby at_74) (fun _ _ => ⟨rfl, eh19, (by decide : 1 + 0 ≤ _), (by decide : 2 + 0 ≤ _)⟩)
      dsimp only [Pt.U, Pt.locs, Pt.cells, Pt.slots] at X20 lq20 yq20 zq20 st20 hQ20
      subst lq20 yq20 zq20
      obtain ⟨rfl, Nq20, eh20⟩ := hQ20
      have N20 := Fr.app N19 Nq20
      refine own_st (G' := T20.setTop (mkF m 77 #[.val (.int v0), .val (.long q1), .second, .val (.long q2), .second, .val (.int ((v0 &&& (2147483647 : Int32)) % (3 : Int32))), .val (.ref w_FLOOR), .val (.long q1), .second, .val (.ref b13), .val (.int (own_adf q2 q1)), .unset, .unset] [(.int (own_adf q1 q1))])) (fun t k => st20.trans k) ?_
      refine own_istore X20 hx 79 #[.val (.int v0), .val (.long q1), .second, .val (.long q2), .second, .val (.int ((v0 &&& (2147483647 : Int32)) % (3 : Int32))), .val (.ref w_FLOOR), .val (.long q1), .second, .val (.ref b13), .val (.int (own_adf q2 q1)), .val (.int (own_adf q1 q1)), .unset] (hb hby at_77) rfl ?_
      refine own_iload X20 hx 81 (hb hby at_79) rfl ?_
      refine own_ifYes X20 hx 90 (hb hby at_81) (feq hc10_1).2 ?_
      refine own_iload X20 hx 92 (hb hby at_90) rfl ?_
      refine own_iconst X20 hx 93 (1 : Int32) (hb hby at_92) rfl ?_
      refine own_icmpNo X20 hx 96 (hb hby at_93) (teq hc27_11).2 ?_
      refine own_lloadN X20 hx 97 (hb hby at_96) rfl ?_
      refine own_lload X20 hx 99 (hb hby at_97) rfl ?_
      obtain ⟨_, _, ⟨T21, Lx21, kc21, nc21⟩, -, X21, ⟨Lc21, hQ21, lq21, yq21, zq21⟩, st21⟩ := Jvm.LawKit.callS X20 hx (y := (⟨"java/lang/Math", "max", "(JJ)J"⟩ : MethodName)) hown (mvT hZ (hw _ (List.mem_of_getElem? (i := 39) rfl))) (mvT hZ (hw _ (List.mem_of_getElem? (i := 40) rfl))) (mvT hZ (hw _ (List.mem_of_getElem? (i := 41) rfl))) (mvT hZ (hw _ (List.mem_of_getElem? (i := 42) rfl))) (by decide) (backOf (W := 0) (own_rm6 l Z a0 hw [] q2 q1 T16.heap n0 Z18 ) hZ (hw _ (List.mem_of_getElem? (i := 42) rfl)) (hw _ (List.mem_of_getElem? (i := 41) rfl)) (by decide) (by decide)) (g := (mkF m 99 #[.val (.int v0), .val (.long q1), .second, .val (.long q2), .second, .val (.int ((v0 &&& (2147483647 : Int32)) % (3 : Int32))), .val (.ref w_FLOOR), .val (.long q1), .second, .val (.ref b13), .val (.int (own_adf q2 q1)), .val (.int (own_adf q1 q1)), .unset] [(.long q1), (.long q2)])) rfl (by rw [hml]; rfl) (argsL := [(.long q2), (.long q1)]) (rest := []) (lenOf own_pd4 rfl) rfl (by show 2 * 0 + _ ≤ _; exact Nat.le_of_eq rfl) (hb hby at_99) (fun _ _ => ⟨rfl, eh20, (by decide : 1 + 0 ≤ _), (by decide : 2 + 0 ≤ _)⟩)
      dsimp only [Pt.U, Pt.locs, Pt.cells, Pt.slots] at X21 lq21 yq21 zq21 st21 hQ21
      subst lq21 yq21 zq21
      obtain ⟨rfl, Nq21, eh21⟩ := hQ21
      have N21 := Fr.app N20 Nq21
      refine own_st (G' := T21.setTop (mkF m 102 #[.val (.int v0), .val (.long q1), .second, .val (.long q2), .second, .val (.int ((v0 &&& (2147483647 : Int32)) % (3 : Int32))), .val (.ref w_FLOOR), .val (.long q1), .second, .val (.ref b13), .val (.int (own_adf q2 q1)), .val (.int (own_adf q1 q1)), .unset] [(.long (own_max q2 q1))])) st21 ?_
      refine own_lloadN X21 hx 103 (hb hby at_102) rfl ?_
      refine own_lcmp X21 hx 104 (hb hby at_103) ?_
      by_cases hc104_22 : (own_max q2 q1) = q2
      · refine own_ifNo X21 hx 107 (hb hby at_104) (teq ((lw_eq _ _).mpr hc104_22)).2 ?_
        refine own_iconst X21 hx 108 (1 : Int32) (hb hby at_107) rfl ?_
        refine own_goto X21 hx 112 (hb hby at_108) ?_
        refine own_istore X21 hx 114 #[.val (.int v0), .val (.long q1), .second, .val (.long q2), .second, .val (.int ((v0 &&& (2147483647 : Int32)) % (3 : Int32))), .val (.ref w_FLOOR), .val (.long q1), .second, .val (.ref b13), .val (.int (own_adf q2 q1)), .val (.int (own_adf q1 q1)), .val (.int (1 : Int32))] (hb hby at_112) rfl ?_
        refine own_goto X21 hx 135 (hb hby at_114) ?_
        refine own_iload X21 hx 137 (hb hby at_135) rfl ?_
        refine own_iload X21 hx 139 (hb hby at_137) rfl ?_
        refine own_icmpNo X21 hx 142 (hb hby at_139) (teq (by rw [own_f1, if_pos hc104_22] : (own_adf q2 q1) = (1 : Int32))).2 ?_
        refine own_iload X21 hx 144 (hb hby at_142) rfl ?_
        refine own_ifNo X21 hx 147 (hb hby at_144) (feq (own_f2 _ : ¬ ((own_adf q1 q1) = (0 : Int32)))).1 ?_
        refine own_iconst X21 hx 148 (1 : Int32) (hb hby at_147) rfl ?_
        refine own_goto X21 hx 152 (hb hby at_148) ?_
        exact own_retN (t := .boolean) (z := (1 : Int32)) (Q := own_Q0 Z w_NONE w_FLOOR w_CEILING S_w_NONE S_w_FLOOR S_w_CEILING E_w_NONE F_ordinal_w_NONE E_w_FLOOR F_ordinal_w_FLOOR E_w_CEILING F_ordinal_w_CEILING ne_w_NONE_w_FLOOR ne_w_NONE_w_CEILING ne_w_FLOOR_w_CEILING v0 q1 q2 h0 n0) X21 hx hrt (by simp) (hb hby at_152) hlk eh21 ⟨rfl, N21⟩ (by decide) (by decide)
      · refine own_ifYes X21 hx 111 (hb hby at_104) (feq (mt (lw_eq _ _).mp hc104_22)).2 ?_
        refine own_iconst X21 hx 112 (0 : Int32) (hb hby at_111) rfl ?_
        refine own_istore X21 hx 114 #[.val (.int v0), .val (.long q1), .second, .val (.long q2), .second, .val (.int ((v0 &&& (2147483647 : Int32)) % (3 : Int32))), .val (.ref w_FLOOR), .val (.long q1), .second, .val (.ref b13), .val (.int (own_adf q2 q1)), .val (.int (own_adf q1 q1)), .val (.int (0 : Int32))] (hb hby at_112) rfl ?_
        refine own_goto X21 hx 135 (hb hby at_114) ?_
        refine own_iload X21 hx 137 (hb hby at_135) rfl ?_
        refine own_iload X21 hx 139 (hb hby at_137) rfl ?_
        refine own_icmpNo X21 hx 142 (hb hby at_139) (teq (by rw [own_f1, if_neg hc104_22] : (own_adf q2 q1) = (0 : Int32))).2 ?_
        refine own_iload X21 hx 144 (hb hby at_142) rfl ?_
        refine own_ifNo X21 hx 147 (hb hby at_144) (feq (own_f2 _ : ¬ ((own_adf q1 q1) = (0 : Int32)))).1 ?_
        refine own_iconst X21 hx 148 (1 : Int32) (hb hby at_147) rfl ?_
        refine own_goto X21 hx 152 (hb hby at_148) ?_
        exact own_retN (t := .boolean) (z := (1 : Int32)) (Q := own_Q0 Z w_NONE w_FLOOR w_CEILING S_w_NONE S_w_FLOOR S_w_CEILING E_w_NONE F_ordinal_w_NONE E_w_FLOOR F_ordinal_w_FLOOR E_w_CEILING F_ordinal_w_CEILING ne_w_NONE_w_FLOOR ne_w_NONE_w_CEILING ne_w_FLOOR_w_CEILING v0 q1 q2 h0 n0) X21 hx hrt (by simp) (hb hby at_152) hlk eh21 ⟨rfl, N21⟩ (by decide) (by decide)
    · refine own_icmpYes X0 hx 41 (hb hby at_27) (feq hc27_11).2 ?_
      obtain ⟨T23, X23, e23, st23⟩ := getS2 X0 hx hZ hown (host := "") (Or.inl (hw _ (List.mem_of_getElem? (i := 43) rfl))) Via.refl e0 (S_w_CEILING.ext O0.2) (g := (mkF m 41 #[.val (.int v0), .val (.long q1), .second, .val (.long q2), .second, .val (.int ((v0 &&& (2147483647 : Int32)) % (3 : Int32))), .unset, .unset, .unset, .unset, .unset, .unset, .unset] [])) rfl (hb hby at_41)
      refine own_st (G' := T23.setTop (mkF m 44 #[.val (.int v0), .val (.long q1), .second, .val (.long q2), .second, .val (.int ((v0 &&& (2147483647 : Int32)) % (3 : Int32))), .unset, .unset, .unset, .unset, .unset, .unset, .unset] [(.ref w_CEILING)])) st23 ?_
      refine own_astore X23 hx 46 #[.val (.int v0), .val (.long q1), .second, .val (.long q2), .second, .val (.int ((v0 &&& (2147483647 : Int32)) % (3 : Int32))), .val (.ref w_CEILING), .unset, .unset, .unset, .unset, .unset, .unset] (hb hby at_44) rfl rfl ?_
      refine own_lloadN X23 hx 47 (hb hby at_46) rfl ?_
      refine own_lstore X23 hx 49 #[.val (.int v0), .val (.long q1), .second, .val (.long q2), .second, .val (.int ((v0 &&& (2147483647 : Int32)) % (3 : Int32))), .val (.ref w_CEILING), .val (.long q1), .second, .unset, .unset, .unset, .unset] (hb hby at_47) rfl ?_
      obtain ⟨T24, h24, X24, e24, E24, A24, D24, -, st24⟩ := newO X23 hx hZ hown (hw _ (List.mem_of_getElem? (i := 4) rfl)) (hw _ (List.mem_of_getElem? (i := 5) rfl)) (hw _ (List.mem_of_getElem? (i := 6) rfl)) e23 (g := (mkF m 49 #[.val (.int v0), .val (.long q1), .second, .val (.long q2), .second, .val (.int ((v0 &&& (2147483647 : Int32)) % (3 : Int32))), .val (.ref w_CEILING), .val (.long q1), .second, .unset, .unset, .unset, .unset] [])) rfl (hb hby at_49) (by decide) (by decide)
      obtain ⟨b24, g24⟩ : ∃ z, z = h0.size := ⟨_, rfl⟩
      rw [← g24] at A24 D24 st24
      have gt_b24 : n0 ≤ b24 := Nat.le_trans Z0 (Nat.le_of_eq g24.symm)
      have O25 := O0.ext E24
      have Z26 := Nat.le_trans Z0 E24.1
      have F24_kind : Fld Z h24 b24 "com/example/tallybound/tallybound/counter/Bound" "kind" "Lcom/example/tallybound/tallybound/counter/Bound$Kind;" .null := D24 (Or.inr (hw _ (List.mem_of_getElem? (i := 20) rfl))) (ty := (.object "com/example/tallybound/tallybound/counter/Bound$Kind")) (by decide)
      have F24_limit : Fld Z h24 b24 "com/example/tallybound/tallybound/counter/Bound" "limit" "J" (.long (0 : Int64)) := D24 (Or.inr (hw _ (List.mem_of_getElem? (i := 22) rfl))) (ty := .long) (by decide)
      refine own_st (G' := T24.setTop (mkF m 52 #[.val (.int v0), .val (.long q1), .second, .val (.long q2), .second, .val (.int ((v0 &&& (2147483647 : Int32)) % (3 : Int32))), .val (.ref w_CEILING), .val (.long q1), .second, .unset, .unset, .unset, .unset] [(.ref b24)])) st24 ?_
      refine own_dup X24 hx 53 (hb hby at_52) rfl ?_
      refine own_aload X24 hx 55 (hb hby at_53) rfl rfl ?_
      refine own_lload X24 hx 57 (hb hby at_55) rfl ?_
      obtain ⟨_, _, ⟨T27, Lx27, kc27, nc27⟩, -, X27, ⟨Lc27, hQ27, lq27, yq27, zq27⟩, st27⟩ := X24.specialBack hx (y := (⟨"com/example/tallybound/tallybound/counter/Bound", "<init>", "(Lcom/example/tallybound/tallybound/counter/Bound$Kind;J)V"⟩ : MethodName)) rfl hown (mvT hZ (hw _ (List.mem_of_getElem? (i := 7) rfl))) (mvT hZ (hw _ (List.mem_of_getElem? (i := 8) rfl))) (mvT hZ (hw _ (List.mem_of_getElem? (i := 9) rfl))) (by decide) (backOf (W := 1) (own_rm1 l Z a0 hw [] w_NONE w_FLOOR w_CEILING S_w_NONE S_w_FLOOR S_w_CEILING E_w_NONE F_ordinal_w_NONE E_w_FLOOR F_ordinal_w_FLOOR E_w_CEILING F_ordinal_w_CEILING ne_w_NONE_w_FLOOR ne_w_NONE_w_CEILING ne_w_FLOOR_w_CEILING b24 w_CEILING q1 h24 n0 Z26 A24 F24_kind F24_limit gt_b24 O25 (by first | exact fun _ => rfl | exact fun h => absurd h ne_w_NONE_w_FLOOR | exact fun h => absurd h.symm ne_w_NONE_w_FLOOR | exact fun h => absurd h ne_w_NONE_w_CEILING | exact fun h => absurd h.symm ne_w_NONE_w_CEILING : w_CEILING = w_NONE → q1 = (0 : Int64))) hZ (hw _ (List.mem_of_getElem? (i := 9) rfl)) (hw _ (List.mem_of_getElem? (i := 6) rfl)) (by decide) (by decide)) (g := (mkF m 57 #[.val (.int v0), .val (.long q1), .second, .val (.long q2), .second, .val (.int ((v0 &&& (2147483647 : Int32)) % (3 : Int32))), .val (.ref w_CEILING), .val (.long q1), .second, .unset, .unset, .unset, .unset] [(.long q1), (.ref w_CEILING), (.ref b24), (.ref b24)])) rfl (by rw [hml]; rfl) (Steps.refl _) (a := b24) (argsL := [(.ref w_CEILING), (.long q1)]) (rest := [(.ref b24)]) (lenOf own_pd2 rfl) rfl (by show 2 * 0 + _ ≤ _; exact Nat.le_of_eq rfl) (hb hby at_57) (fun _ _ => ⟨rfl, e24, (by decide : 1 + 0 ≤ _), (by decide : 2 + 0 ≤ _)⟩)
      dsimp only [Pt.U, Pt.locs, Pt.cells, Pt.slots] at X27 lq27 yq27 zq27 st27 hQ27
      subst lq27 yq27 zq27
      obtain ⟨rfl, Nq27, Kp27, G27_0, G27_1, G27_2⟩ := hQ27
      have N27 := Fr.app N0 Nq27
      have O28 := O25.keep Kp27 (allS gt_b24 all0)
      have Z29 := Nat.le_trans Z26 Kp27.1
      refine own_st (G' := T27.setTop (mkF m 60 #[.val (.int v0), .val (.long q1), .second, .val (.long q2), .second, .val (.int ((v0 &&& (2147483647 : Int32)) % (3 : Int32))), .val (.ref w_CEILING), .val (.long q1), .second, .unset, .unset, .unset, .unset] [(.ref b24)])) (fun t k => st27.trans k) ?_
      refine own_astore X27 hx 62 #[.val (.int v0), .val (.long q1), .second, .val (.long q2), .second, .val (.int ((v0 &&& (2147483647 : Int32)) % (3 : Int32))), .val (.ref w_CEILING), .val (.long q1), .second, .val (.ref b24), .unset, .unset, .unset] (hb hby at_60) rfl rfl ?_
      refine own_aload X27 hx 64 (hb hby at_62) rfl rfl ?_
      refine own_lloadN X27 hx 65 (hb hby at_64) rfl ?_
      obtain ⟨cq30, kq30, q30a, q30b, q30c⟩ := isOf hZ rfl G27_0
      obtain ⟨_, _, ⟨T30, Lx30, kc30, nc30⟩, -, X30, ⟨Lc30, hQ30, lq30, yq30, zq30⟩, st30⟩ := X27.virtualBack hx (y := (⟨"com/example/tallybound/tallybound/counter/Bound", "admits", "(J)Z"⟩ : MethodName)) (z := (⟨"com/example/tallybound/tallybound/counter/Bound", "admits", "(J)Z"⟩ : MethodName)) hown (mvT hZ (hw _ (List.mem_of_getElem? (i := 23) rfl))) (mvT hZ (hw _ (List.mem_of_getElem? (i := 24) rfl))) (notFace_of_selects (args := #[]) (mvT hZ (hw _ (List.mem_of_getElem? (i := 26) rfl)))) (mvT hZ (hw _ (List.mem_of_getElem? (i := 26) rfl))) (mvT hZ (hw _ (List.mem_of_getElem? (i := 25) rfl))) (by decide) (backOf (W := 0) (own_rm4c l Z a0 hw [] w_NONE w_FLOOR w_CEILING S_w_NONE S_w_FLOOR S_w_CEILING E_w_NONE F_ordinal_w_NONE E_w_FLOOR F_ordinal_w_FLOOR E_w_CEILING F_ordinal_w_CEILING ne_w_NONE_w_FLOOR ne_w_NONE_w_CEILING ne_w_FLOOR_w_CEILING b24 q2 q1 T27.heap n0 Z29 G27_1 G27_2 O28) hZ (hw _ (List.mem_of_getElem? (i := 27) rfl)) (hw _ (List.mem_of_getElem? (i := 6) rfl)) (by decide) (by decide)) q30a q30c (g := (mkF m 65 #[.val (.int v0), .val (.long q1), .second, .val (.long q2), .second, .val (.int ((v0 &&& (2147483647 : Int32)) % (3 : Int32))), .val (.ref w_CEILING), .val (.long q1), .second, .val (.ref b24), .unset, .unset, .unset] [(.long q2), (.ref b24)])) rfl (by rw [hml]; rfl) (Steps.refl _) (argsL := [(.long q2)]) (rest := []) (lenOf own_pd3 rfl) rfl (by show 2 * 0 + _ ≤ _; exact Nat.le_of_eq rfl) (hb hby at_65) (fun _ _ => ⟨rfl, rfl, (by decide : 1 + 0 ≤ _), (by decide : 2 + 0 ≤ _)⟩)
      dsimp only [Pt.U, Pt.locs, Pt.cells, Pt.slots] at X30 lq30 yq30 zq30 st30 hQ30
      subst lq30 yq30 zq30
      obtain ⟨rfl, Nq30, eh30⟩ := hQ30
      have N30 := Fr.app N27 Nq30
      refine own_st (G' := T30.setTop (mkF m 68 #[.val (.int v0), .val (.long q1), .second, .val (.long q2), .second, .val (.int ((v0 &&& (2147483647 : Int32)) % (3 : Int32))), .val (.ref w_CEILING), .val (.long q1), .second, .val (.ref b24), .unset, .unset, .unset] [(.int (own_adc q2 q1))])) (fun t k => st30.trans k) ?_
      refine own_istore X30 hx 70 #[.val (.int v0), .val (.long q1), .second, .val (.long q2), .second, .val (.int ((v0 &&& (2147483647 : Int32)) % (3 : Int32))), .val (.ref w_CEILING), .val (.long q1), .second, .val (.ref b24), .val (.int (own_adc q2 q1)), .unset, .unset] (hb hby at_68) rfl ?_
      refine own_aload X30 hx 72 (hb hby at_70) rfl rfl ?_
      refine own_lload X30 hx 74 (hb hby at_72) rfl ?_
      obtain ⟨cq31, kq31, q31a, q31b, q31c⟩ := isOf hZ eh30 G27_0
      obtain ⟨_, _, ⟨T31, Lx31, kc31, nc31⟩, -, X31, ⟨Lc31, hQ31, lq31, yq31, zq31⟩, st31⟩ := X30.virtualBack hx (y := (⟨"com/example/tallybound/tallybound/counter/Bound", "admits", "(J)Z"⟩ : MethodName)) (z := (⟨"com/example/tallybound/tallybound/counter/Bound", "admits", "(J)Z"⟩ : MethodName)) hown (mvT hZ (hw _ (List.mem_of_getElem? (i := 23) rfl))) (mvT hZ (hw _ (List.mem_of_getElem? (i := 24) rfl))) (notFace_of_selects (args := #[]) (mvT hZ (hw _ (List.mem_of_getElem? (i := 26) rfl)))) (mvT hZ (hw _ (List.mem_of_getElem? (i := 26) rfl))) (mvT hZ (hw _ (List.mem_of_getElem? (i := 25) rfl))) (by decide) (backOf (W := 0) (own_rm4c l Z a0 hw [] w_NONE w_FLOOR w_CEILING S_w_NONE S_w_FLOOR S_w_CEILING E_w_NONE F_ordinal_w_NONE E_w_FLOOR F_ordinal_w_FLOOR E_w_CEILING F_ordinal_w_CEILING ne_w_NONE_w_FLOOR ne_w_NONE_w_CEILING ne_w_FLOOR_w_CEILING b24 q1 q1 T27.heap n0 Z29 G27_1 G27_2 O28) hZ (hw _ (List.mem_of_getElem? (i := 27) rfl)) (hw _ (List.mem_of_getElem? (i := 6) rfl)) (by decide) (by decide)) q31a q31c (g := (mkF m 74 #[.val (.int v0), .val (.long q1), .second, .val (.long q2), .second, .val (.int ((v0 &&& (2147483647 : Int32)) % (3 : Int32))), .val (.ref w_CEILING), .val (.long q1), .second, .val (.ref b24), .val (.int (own_adc q2 q1)), .unset, .unset] [(.long q1), (.ref b24)])) rfl (by rw [hml]; rfl) (Steps.refl _) (argsL := [(.long q1)]) (rest := []) (lenOf own_pd3 rfl) rfl (by show 2 * 0 + _ ≤ _; exact Nat.le_of_eq rfl) (hb hby at_74) (fun _ _ => ⟨rfl, eh30, (by decide : 1 + 0 ≤ _), (by decide : 2 + 0 ≤ _)⟩)
      dsimp only [Pt.U, Pt.locs, Pt.cells, Pt.slots] at X31 lq31 yq31 zq31 st31 hQ31
      subst lq31 yq31 zq31
      obtain ⟨rfl, Nq31, eh31⟩ := hQ31
      have N31 := Fr.app N30 Nq31
      refine own_st (G' := T31.setTop (mkF m 77 #[.val (.int v0), .val (.long q1), .second, .val (.long q2), .second, .val (.int ((v0 &&& (2147483647 : Int32)) % (3 : Int32))), .val (.ref w_CEILING), .val (.long q1), .second, .val (.ref b24), .val (.int (own_adc q2 q1)), .unset, .unset] [(.int (own_adc q1 q1))])) (fun t k => st31.trans k) ?_
      refine own_istore X31 hx 79 #[.val (.int v0), .val (.long q1), .second, .val (.long q2), .second, .val (.int ((v0 &&& (2147483647 : Int32)) % (3 : Int32))), .val (.ref w_CEILING), .val (.long q1), .second, .val (.ref b24), .val (.int (own_adc q2 q1)), .val (.int (own_adc q1 q1)), .unset] (hb hby at_77) rfl ?_
      refine own_iload X31 hx 81 (hb hby at_79) rfl ?_
      refine own_ifYes X31 hx 90 (hb hby at_81) (feq hc10_1).2 ?_
      refine own_iload X31 hx 92 (hb hby at_90) rfl ?_
      refine own_iconst X31 hx 93 (1 : Int32) (hb hby at_92) rfl ?_
      refine own_icmpYes X31 hx 117 (hb hby at_93) (feq hc27_11).2 ?_
      refine own_lloadN X31 hx 118 (hb hby at_117) rfl ?_
      refine own_lload X31 hx 120 (hb hby at_118) rfl ?_
      obtain ⟨_, _, ⟨T32, Lx32, kc32, nc32⟩, -, X32, ⟨Lc32, hQ32, lq32, yq32, zq32⟩, st32⟩ := Jvm.LawKit.callS X31 hx (y := (⟨"java/lang/Math", "min", "(JJ)J"⟩ : MethodName)) hown (mvT hZ (hw _ (List.mem_of_getElem? (i := 45) rfl))) (mvT hZ (hw _ (List.mem_of_getElem? (i := 46) rfl))) (mvT hZ (hw _ (List.mem_of_getElem? (i := 41) rfl))) (mvT hZ (hw _ (List.mem_of_getElem? (i := 47) rfl))) (by decide) (backOf (W := 0) (own_rm7 l Z a0 hw [] q2 q1 T27.heap n0 Z29 ) hZ (hw _ (List.mem_of_getElem? (i := 47) rfl)) (hw _ (List.mem_of_getElem? (i := 41) rfl)) (by decide) (by decide)) (g := (mkF m 120 #[.val (.int v0), .val (.long q1), .second, .val (.long q2), .second, .val (.int ((v0 &&& (2147483647 : Int32)) % (3 : Int32))), .val (.ref w_CEILING), .val (.long q1), .second, .val (.ref b24), .val (.int (own_adc q2 q1)), .val (.int (own_adc q1 q1)), .unset] [(.long q1), (.long q2)])) rfl (by rw [hml]; rfl) (argsL := [(.long q2), (.long q1)]) (rest := []) (lenOf own_pd4 rfl) rfl (by show 2 * 0 + _ ≤ _; exact Nat.le_of_eq rfl) (hb hby at_120) (fun _ _ => ⟨rfl, eh31, (by decide : 1 + 0 ≤ _), (by decide : 2 + 0 ≤ _)⟩)
      dsimp only [Pt.U, Pt.locs, Pt.cells, Pt.slots] at X32 lq32 yq32 zq32 st32 hQ32
      subst lq32 yq32 zq32
      obtain ⟨rfl, Nq32, eh32⟩ := hQ32
      have N32 := Fr.app N31 Nq32
      refine own_st (G' := T32.setTop (mkF m 123 #[.val (.int v0), .val (.long q1), .second, .val (.long q2), .second, .val (.int ((v0 &&& (2147483647 : Int32)) % (3 : Int32))), .val (.ref w_CEILING), .val (.long q1), .second, .val (.ref b24), .val (.int (own_adc q2 q1)), .val (.int (own_adc q1 q1)), .unset] [(.long (own_min q2 q1))])) st32 ?_
      refine own_lloadN X32 hx 124 (hb hby at_123) rfl ?_
      refine own_lcmp X32 hx 125 (hb hby at_124) ?_
      by_cases hc125_33 : (own_min q2 q1) = q2
      · refine own_ifNo X32 hx 128 (hb hby at_125) (teq ((lw_eq _ _).mpr hc125_33)).2 ?_
        refine own_iconst X32 hx 129 (1 : Int32) (hb hby at_128) rfl ?_
        refine own_goto X32 hx 133 (hb hby at_129) ?_
        refine own_istore X32 hx 135 #[.val (.int v0), .val (.long q1), .second, .val (.long q2), .second, .val (.int ((v0 &&& (2147483647 : Int32)) % (3 : Int32))), .val (.ref w_CEILING), .val (.long q1), .second, .val (.ref b24), .val (.int (own_adc q2 q1)), .val (.int (own_adc q1 q1)), .val (.int (1 : Int32))] (hb hby at_133) rfl ?_
        refine own_iload X32 hx 137 (hb hby at_135) rfl ?_
        refine own_iload X32 hx 139 (hb hby at_137) rfl ?_
        refine own_icmpNo X32 hx 142 (hb hby at_139) (teq (by rw [own_c1, if_pos hc125_33] : (own_adc q2 q1) = (1 : Int32))).2 ?_
        refine own_iload X32 hx 144 (hb hby at_142) rfl ?_
        refine own_ifNo X32 hx 147 (hb hby at_144) (feq (own_c2 _ : ¬ ((own_adc q1 q1) = (0 : Int32)))).1 ?_
        refine own_iconst X32 hx 148 (1 : Int32) (hb hby at_147) rfl ?_
        refine own_goto X32 hx 152 (hb hby at_148) ?_
        exact own_retN (t := .boolean) (z := (1 : Int32)) (Q := own_Q0 Z w_NONE w_FLOOR w_CEILING S_w_NONE S_w_FLOOR S_w_CEILING E_w_NONE F_ordinal_w_NONE E_w_FLOOR F_ordinal_w_FLOOR E_w_CEILING F_ordinal_w_CEILING ne_w_NONE_w_FLOOR ne_w_NONE_w_CEILING ne_w_FLOOR_w_CEILING v0 q1 q2 h0 n0) X32 hx hrt (by simp) (hb hby at_152) hlk eh32 ⟨rfl, N32⟩ (by decide) (by decide)
      · refine own_ifYes X32 hx 132 (hb hby at_125) (feq (mt (lw_eq _ _).mp hc125_33)).2 ?_
        refine own_iconst X32 hx 133 (0 : Int32) (hb hby at_132) rfl ?_
        refine own_istore X32 hx 135 #[.val (.int v0), .val (.long q1), .second, .val (.long q2), .second, .val (.int ((v0 &&& (2147483647 : Int32)) % (3 : Int32))), .val (.ref w_CEILING), .val (.long q1), .second, .val (.ref b24), .val (.int (own_adc q2 q1)), .val (.int (own_adc q1 q1)), .val (.int (0 : Int32))] (hb hby at_133) rfl ?_
        refine own_iload X32 hx 137 (hb hby at_135) rfl ?_
        refine own_iload X32 hx 139 (hb hby at_137) rfl ?_
        refine own_icmpNo X32 hx 142 (hb hby at_139) (teq (by rw [own_c1, if_neg hc125_33] : (own_adc q2 q1) = (0 : Int32))).2 ?_
        refine own_iload X32 hx 144 (hb hby at_142) rfl ?_
        refine own_ifNo X32 hx 147 (hb hby at_144) (feq (own_c2 _ : ¬ ((own_adc q1 q1) = (0 : Int32)))).1 ?_
        refine own_iconst X32 hx 148 (1 : Int32) (hb hby at_147) rfl ?_
        refine own_goto X32 hx 152 (hb hby at_148) ?_
        exact own_retN (t := .boolean) (z := (1 : Int32)) (Q := own_Q0 Z w_NONE w_FLOOR w_CEILING S_w_NONE S_w_FLOOR S_w_CEILING E_w_NONE F_ordinal_w_NONE E_w_FLOOR F_ordinal_w_FLOOR E_w_CEILING F_ordinal_w_CEILING ne_w_NONE_w_FLOOR ne_w_NONE_w_CEILING ne_w_FLOOR_w_CEILING v0 q1 q2 h0 n0) X32 hx hrt (by simp) (hb hby at_152) hlk eh32 ⟨rfl, N32⟩ (by decide) (by decide)
set_option maxRecDepth 65536 in
set_option maxHeartbeats 40000000 in
theorem own_comes {Post : Tables → Env → Array Value → State → Outcome → State → Prop} (hpost : ∀ tb e args s v u, (limb_1_1.after args s (.returned v) u = true ∧ limb_1_2.after args s (.returned v) u = true ∧ True) → FrameEnd s (.returned v) u (Jvm.fieldLocs frame_1_writes args s ++ Jvm.arrayLocs frame_1_arrays args s ++ Jvm.staticLocs frame_1_statics s) 16 128 → Post tb e args s (.returned v) u) :
    ArmFor flags0 classFile x code maxLocals ret World_1 tables_1 room_1 Calls_1 rest_1 Pre_1 Post := by
  intro l hfl _ _ p e ha hc hk s m args below hf hA hF happ hP
  obtain ⟨hcalls, hrest, hpre⟩ := hP
  obtain ⟨-, -, -, hnamed, -, -, -, hat⟩ := (Spec.applies_iff hf).mp happ
  obtain ⟨hg, hn⟩ := and_e (Cond.before_iff.mp (show (Jvm.Cond.and given_1 narrow_1).before args s = true from hpre))
  obtain ⟨g1, g2⟩ := and_e hg
  obtain ⟨g3, g4⟩ := and_e g2
  obtain ⟨g5, g6⟩ := and_e g4
  obtain ⟨w0, w1, w2, rfl⟩ : ∃ w0 w1 w2 : Value, args = #[w0, w1, w2] := by
    have hs : args.size = 3 := by simpa [Cond.value, given_1] using g1
    obtain ⟨L⟩ := args
    match L, hs with
    | [w0, w1, w2], _ => exact ⟨w0, w1, w2, rfl⟩
  have hw := fun d (hd : d ∈ tables_1) => atoms_spec (ws := Jvm.Cond.code x code maxLocals ret :: tables_1) hat d (List.mem_cons_of_mem _ hd)
  have hfit : Fit s := fun {y c} hc i hi => by
    obtain ⟨ha, rfl⟩ := Array.getElem?_eq_some_iff.mp hc
    have q := List.all_eq_true.mp ((Array.all_eq_true_iff_forall_mem.mp hF) _ (Array.getElem_mem ha)) i (List.mem_range.mpr hi)
    simpa [Array.getElem?_eq_getElem hi] using q
  obtain ⟨i0, ei0⟩ := is_v g3
  obtain rfl : w0 = (.int i0) := Option.some.inj ei0
  obtain ⟨i1, ei1⟩ := isL_v g5
  obtain rfl : w1 = (.long i1) := Option.some.inj ei1
  obtain ⟨i2, ei2⟩ := isL_v g6
  obtain rfl : w2 = (.long i2) := Option.some.inj ei2
  obtain ⟨j1a, j1b⟩ := and_e hn
  obtain ⟨j2a, j2b⟩ := and_e j1b
  obtain ⟨j3a, j3b⟩ := and_e j2b
  obtain ⟨j4a, j4b⟩ := and_e j3b
  obtain ⟨j5a, j5b⟩ := and_e j4b
  obtain ⟨w_NONE, ev_w_NONE, S_w_NONE, E_w_NONE⟩ := own_sta j1a (Or.inr ⟨(hw _ (List.mem_of_getElem? (i := 2) rfl)), (hw _ (List.mem_of_getElem? (i := 3) rfl))⟩)
  obtain ⟨w_FLOOR, ev_w_FLOOR, S_w_FLOOR, E_w_FLOOR⟩ := own_sta j3a (Or.inr ⟨(hw _ (List.mem_of_getElem? (i := 2) rfl)), (hw _ (List.mem_of_getElem? (i := 38) rfl))⟩)
  obtain ⟨w_CEILING, ev_w_CEILING, S_w_CEILING, E_w_CEILING⟩ := own_sta j5a (Or.inr ⟨(hw _ (List.mem_of_getElem? (i := 2) rfl)), (hw _ (List.mem_of_getElem? (i := 44) rfl))⟩)
  have F_ordinal_w_NONE := own_fldI ev_w_NONE j2a
  have F_ordinal_w_FLOOR := own_fldI ev_w_FLOOR j4a
  have F_ordinal_w_CEILING := own_fldI ev_w_CEILING j5b
  have ne_w_NONE_w_FLOOR : w_NONE ≠ w_FLOOR := Fld.ne F_ordinal_w_NONE F_ordinal_w_FLOOR (by decide)
  have ne_w_NONE_w_CEILING : w_NONE ≠ w_CEILING := Fld.ne F_ordinal_w_NONE F_ordinal_w_CEILING (by decide)
  have ne_w_FLOOR_w_CEILING : w_FLOOR ≠ w_CEILING := Fld.ne F_ordinal_w_FLOOR F_ordinal_w_CEILING (by decide)
  obtain ⟨n, o, h1, h2, h3, _, L, rfl, ⟨rfl, N⟩, hq⟩ := own_rm0 l s _ hw tables_1 w_NONE w_FLOOR w_CEILING S_w_NONE S_w_FLOOR S_w_CEILING E_w_NONE F_ordinal_w_NONE E_w_FLOOR F_ordinal_w_FLOOR E_w_CEILING F_ordinal_w_CEILING ne_w_NONE_w_FLOOR ne_w_NONE_w_CEILING ne_w_FLOOR_w_CEILING i0 i1 i2 s.heap s.heap.size (Nat.le_refl _) (Old.start s) p e ha hc hk s m _ below hf ((Spec.applies_iff_loose hf).mp happ).1 ⟨rfl, State.Warmed39.refl s, rfl⟩ trivial
  refine ⟨n, _, h1, h2, h3, hpost _ _ _ _ _ _ ⟨Cond.after_iff.mpr rfl, Cond.after_iff.mpr (eq_i res_at (Term.int_eval (1)) rfl), trivial⟩ ⟨hq.1, hq.2.1, (hq.2.2.sift fun y hy => Or.inr (N y hy)).mono (by decide) (by decide)⟩⟩
theorem main_1_1 : Claimed_1_1 := own_comes fun _ _ _ _ _ _ h hF => ⟨h.1, hF⟩
theorem main_1_2 : Claimed_1_2 := own_comes fun _ _ _ _ _ _ h hF => ⟨h.2.1, hF⟩
end Jvm.Pilot.@@N@@
namespace Jvm.Pilot.@@N@@
open Jvm Jvm.ClassFile Sem Op Lib Jvm.Free Jvm.Stand Jvm.Pilot.@@N@@.Jvm.D
/-! MADE BY PROGRAM (witnessworld.py) out of the Statement's table words and the real class files: 15 classes; the members and pool entries that the words name. The judged class is class 1, her method 1. -/
namespace start1
open Jvm.ClassFile
def u (s : String) : CpInfo := .utf8 (stringToUtf16 s)
/-- a pool by its gaps: so many unusable entries, then the entry; so many at the end -/
def gap : Nat → List CpInfo → List CpInfo
  | 0, r => r
  | n + 1, r => .unusable :: gap n r
def poolList (es : List (Nat × CpInfo)) (last : Nat) : List CpInfo := es.foldr (fun e r => gap e.1 (e.2 :: r)) (gap last [])
def pool (es : List (Nat × CpInfo)) (last : Nat) : Array CpInfo := ⟨poolList es last⟩
def fileOf (pool : Array CpInfo) (this : Nat) (attrs : Array Attribute := #[]) (ms : Array MethodInfo := #[]) (fl : Nat := 33) (sup : Nat := 0) (ifs : Array Nat := #[]) (fds : Array FieldInfo := #[]) : ClassFile where
  minorVersion := 0
  majorVersion := 65
  constantPool := pool
  accessFlags := fl
  thisClass := this
  superClass := sup
  interfaces := ifs
  fields := fds
  methods := ms
  attributes := attrs
def plain (name : String) (sup : Option ClassId) : Class where
  name := name
  kind := .ordinary
  loader := none
  accessFlags := 33
  super := sup
  interfaces := #[]
  cf := none
  fields := #[]
  methods := #[]
  instanceTypes := #[]
  staticTypes := #[]
  resolved := #[]
  callSites := []
  init := .initialized
  statics := none
  mirror := none

def pool0 : Array CpInfo := pool [(5, u "<init>"), (0, u "()V"), (1, .class_ 10), (1, u "java/lang/Object")] 113

def k0c0 : Code := { maxStack := 0, maxLocals := 1, code := object_method_1_code, exceptionTable := #[], attributes := #[] }
def k0m0 : Method := { name := "<init>", desc := "()V", sig := { parameters := [], returnType := none }, accessFlags := 1, code := some k0c0 }
/-- java/lang/Object -/
def k0 : Class := { plain "java/lang/Object" none with
  accessFlags := 33
  interfaces := #[]
  cf := some (fileOf pool0 8 #[] #[{ accessFlags := 1, nameIndex := 5, descriptorIndex := 6, attributes := #[] }] 33 0 #[] #[])
  fields := #[]
  methods := #[k0m0]
  instanceTypes := #[]
  staticTypes := #[]
  resolved := Array.replicate 124 none
  statics := none }

def pool1 : Array CpInfo := pool [(2, .class_ 4), (1, u "java/lang/Object"), (0, u "<init>"), (0, u "()V"), (0, .integer 2147483647), (0, .fieldref 9 10), (0, .class_ 11), (0, .nameAndType 12 13), (0, u "com/example/tallybound/tallybound/counter/Bound$Kind"), (0, u "NONE"), (0, u "Lcom/example/tallybound/tallybound/counter/Bound$Kind;"), (0, .fieldref 9 15), (0, .nameAndType 16 13), (0, u "FLOOR"), (0, .fieldref 9 18), (0, .nameAndType 19 13), (0, u "CEILING"), (0, .class_ 21), (0, u "com/example/tallybound/tallybound/counter/Bound"), (0, .methodref 20 23), (0, .nameAndType 5 24), (0, u "(Lcom/example/tallybound/tallybound/counter/Bound$Kind;J)V"), (0, .methodref 20 26), (0, .nameAndType 27 28), (0, u "admits"), (0, u "(J)Z"), (0, .methodref 30 31), (0, .class_ 32), (0, .nameAndType 33 34), (0, u "java/lang/Math"), (0, u "max"), (0, u "(JJ)J"), (0, .methodref 30 36), (0, .nameAndType 37 34), (0, u "min"), (0, .class_ 39), (0, u "com/example/tallybound/tallybound/counter/BoundAdmitsPinLaw"), (2, u "law"), (0, u "(IJJ)Z")] 5

def k1m0 : Method := { name := "<init>", desc := "()V", sig := { parameters := [], returnType := none }, accessFlags := 1, code := none }
def k1c1 : Code := { maxStack := 5, maxLocals := 13, code := code, exceptionTable := #[], attributes := #[] }
def k1m1 : Method := { name := "law", desc := "(IJJ)Z", sig := { parameters := [.int, .long, .long], returnType := some .boolean }, accessFlags := 9, code := some k1c1 }
/-- com/example/tallybound/tallybound/counter/BoundAdmitsPinLaw -/
def k1 : Class := { plain "com/example/tallybound/tallybound/counter/BoundAdmitsPinLaw" (some 0) with
  accessFlags := 49
  interfaces := #[]
  cf := some (fileOf pool1 38 #[] #[{ accessFlags := 1, nameIndex := 5, descriptorIndex := 6, attributes := #[] }, { accessFlags := 9, nameIndex := 42, descriptorIndex := 43, attributes := #[] }] 49 2 #[] #[])
  fields := #[]
  methods := #[k1m0, k1m1]
  instanceTypes := #[]
  staticTypes := #[]
  resolved := Array.replicate 49 none
  statics := none }

def pool2 : Array CpInfo := pool [(1, .class_ 2), (0, u "java/lang/constant/Constable"), (0, .class_ 4), (0, u "java/lang/Object")] 6

/-- java/lang/constant/Constable -/
def k2 : Class := { plain "java/lang/constant/Constable" (some 0) with
  accessFlags := 1537
  interfaces := #[]
  cf := some (fileOf pool2 1 #[] #[] 1537 3 #[] #[])
  fields := #[]
  methods := #[]
  instanceTypes := #[]
  staticTypes := #[]
  resolved := Array.replicate 11 none
  statics := none }

def pool3 : Array CpInfo := pool [(1, .class_ 2), (0, u "java/lang/Comparable"), (0, .class_ 4), (0, u "java/lang/Object")] 7

/-- java/lang/Comparable -/
def k3 : Class := { plain "java/lang/Comparable" (some 0) with
  accessFlags := 1537
  interfaces := #[]
  cf := some (fileOf pool3 1 #[] #[] 1537 3 #[] #[])
  fields := #[]
  methods := #[]
  instanceTypes := #[]
  staticTypes := #[]
  resolved := Array.replicate 12 none
  statics := none }

def pool4 : Array CpInfo := pool [(1, .class_ 2), (0, u "java/io/Serializable"), (0, .class_ 4), (0, u "java/lang/Object")] 2

/-- java/io/Serializable -/
def k4 : Class := { plain "java/io/Serializable" (some 0) with
  accessFlags := 1537
  interfaces := #[]
  cf := some (fileOf pool4 1 #[] #[] 1537 3 #[] #[])
  fields := #[]
  methods := #[]
  instanceTypes := #[]
  staticTypes := #[]
  resolved := Array.replicate 7 none
  statics := none }

def pool5 : Array CpInfo := pool [(2, .class_ 4), (1, u "java/lang/Enum"), (0, u "name"), (0, u "Ljava/lang/String;"), (0, .fieldref 2 8), (0, .nameAndType 9 10), (0, u "ordinal"), (0, u "I"), (1, .class_ 14), (1, u "java/lang/Object"), (4, u "hash"), (86, .class_ 108), (1, u "java/lang/Enum$EnumDesc"), (2, .class_ 112), (0, u "java/lang/constant/Constable"), (0, .class_ 114), (0, u "java/lang/Comparable"), (0, .class_ 116), (0, u "java/io/Serializable"), (9, u "()I")] 77

def k5c0 : Code := { maxStack := 1, maxLocals := 1, code := jdk_37_method_2_code, exceptionTable := #[], attributes := #[] }
def k5m0 : Method := { name := "ordinal", desc := "()I", sig := { parameters := [], returnType := some .int }, accessFlags := 17, code := some k5c0 }
/-- java/lang/Enum -/
def k5 : Class := { plain "java/lang/Enum" (some 0) with
  accessFlags := 1057
  interfaces := #[2, 3, 4]
  cf := some (fileOf pool5 2 #[.nestMembers #[106]] #[{ accessFlags := 17, nameIndex := 9, descriptorIndex := 126, attributes := #[] }] 1057 12 #[111, 113, 115] #[{ accessFlags := 18, nameIndex := 5, descriptorIndex := 6, attributes := #[] }, { accessFlags := 18, nameIndex := 9, descriptorIndex := 10, attributes := #[] }, { accessFlags := 2, nameIndex := 19, descriptorIndex := 10, attributes := #[] }])
  fields := #[{ name := "name", type := (.object "java/lang/String"), accessFlags := 18, slot := 0, constantValue := 0 }, { name := "ordinal", type := .int, accessFlags := 18, slot := 1, constantValue := 0 }, { name := "hash", type := .int, accessFlags := 2, slot := 2, constantValue := 0 }]
  methods := #[k5m0]
  instanceTypes := #[(.object "java/lang/String"), .int, .int]
  staticTypes := #[]
  resolved := Array.replicate 204 none
  statics := none }

def pool6 : Array CpInfo := pool [(1, .class_ 2), (0, u "com/example/tallybound/tallybound/counter/Bound$Kind"), (2, u "NONE"), (0, u "Lcom/example/tallybound/tallybound/counter/Bound$Kind;"), (2, u "FLOOR"), (2, u "CEILING"), (2, u "$VALUES"), (0, u "[Lcom/example/tallybound/tallybound/counter/Bound$Kind;"), (6, .class_ 25), (1, u "java/lang/Enum"), (26, .class_ 53), (0, u "com/example/tallybound/tallybound/counter/Bound")] 2

/-- com/example/tallybound/tallybound/counter/Bound$Kind -/
def k6 : Class := { plain "com/example/tallybound/tallybound/counter/Bound$Kind" (some 5) with
  accessFlags := 16433
  interfaces := #[]
  cf := some (fileOf pool6 1 #[.nestHost 52] #[] 16433 23 #[] #[{ accessFlags := 16409, nameIndex := 5, descriptorIndex := 6, attributes := #[] }, { accessFlags := 16409, nameIndex := 9, descriptorIndex := 6, attributes := #[] }, { accessFlags := 16409, nameIndex := 12, descriptorIndex := 6, attributes := #[] }, { accessFlags := 4122, nameIndex := 15, descriptorIndex := 16, attributes := #[] }])
  fields := #[{ name := "NONE", type := (.object "com/example/tallybound/tallybound/counter/Bound$Kind"), accessFlags := 16409, slot := 0, constantValue := 0 }, { name := "FLOOR", type := (.object "com/example/tallybound/tallybound/counter/Bound$Kind"), accessFlags := 16409, slot := 1, constantValue := 0 }, { name := "CEILING", type := (.object "com/example/tallybound/tallybound/counter/Bound$Kind"), accessFlags := 16409, slot := 2, constantValue := 0 }, { name := "$VALUES", type := (.array (.object "com/example/tallybound/tallybound/counter/Bound$Kind")), accessFlags := 4122, slot := 3, constantValue := 0 }]
  methods := #[]
  instanceTypes := #[(.object "java/lang/String"), .int, .int]
  staticTypes := #[(.object "com/example/tallybound/tallybound/counter/Bound$Kind"), (.object "com/example/tallybound/tallybound/counter/Bound$Kind"), (.object "com/example/tallybound/tallybound/counter/Bound$Kind"), (.array (.object "com/example/tallybound/tallybound/counter/Bound$Kind"))]
  resolved := Array.replicate 56 none
  statics := some 0 }

def pool7 : Array CpInfo := pool [(1, .methodref 2 3), (0, .class_ 4), (0, .nameAndType 5 6), (0, u "java/lang/Object"), (0, u "<init>"), (0, u "()V"), (0, .class_ 8), (0, u "java/lang/Record")] 13

def k7c0 : Code := { maxStack := 1, maxLocals := 1, code := jdk_30_method_1_code, exceptionTable := #[], attributes := #[] }
def k7m0 : Method := { name := "<init>", desc := "()V", sig := { parameters := [], returnType := none }, accessFlags := 4, code := some k7c0 }
/-- java/lang/Record -/
def k7 : Class := { plain "java/lang/Record" (some 0) with
  accessFlags := 1057
  interfaces := #[]
  cf := some (fileOf pool7 7 #[] #[{ accessFlags := 4, nameIndex := 5, descriptorIndex := 6, attributes := #[] }] 1057 2 #[] #[])
  fields := #[]
  methods := #[k7m0]
  instanceTypes := #[]
  staticTypes := #[]
  resolved := Array.replicate 22 none
  statics := none }

def pool8 : Array CpInfo := pool [(1, .methodref 2 3), (0, .class_ 4), (0, .nameAndType 5 6), (0, u "java/lang/Record"), (0, u "<init>"), (0, u "()V"), (3, u "kind"), (3, .fieldref 15 16), (0, .class_ 17), (0, .nameAndType 18 19), (0, u "com/example/tallybound/tallybound/counter/Bound$Kind"), (0, u "NONE"), (0, u "Lcom/example/tallybound/tallybound/counter/Bound$Kind;"), (5, .fieldref 26 27), (0, .class_ 28), (0, .nameAndType 10 19), (0, u "com/example/tallybound/tallybound/counter/Bound"), (0, .fieldref 26 30), (0, .nameAndType 31 32), (0, u "limit"), (0, u "J"), (2, u "Lcom/example/tallybound/tallybound/counter/Bound;"), (5, u "(Lcom/example/tallybound/tallybound/counter/Bound$Kind;J)V"), (3, .methodref 15 46), (0, .nameAndType 47 48), (0, u "ordinal"), (0, u "()I"), (39, u "admits"), (0, u "(J)Z")] 41

def k8c0 : Code := { maxStack := 4, maxLocals := 4, code := prog_20_method_1_code, exceptionTable := #[], attributes := #[] }
def k8m0 : Method := { name := "<init>", desc := "(Lcom/example/tallybound/tallybound/counter/Bound$Kind;J)V", sig := { parameters := [(.object "com/example/tallybound/tallybound/counter/Bound$Kind"), .long], returnType := none }, accessFlags := 1, code := some k8c0 }
def k8c1 : Code := { maxStack := 4, maxLocals := 3, code := prog_20_method_6_code, exceptionTable := #[], attributes := #[] }
def k8m1 : Method := { name := "admits", desc := "(J)Z", sig := { parameters := [.long], returnType := some .boolean }, accessFlags := 1, code := some k8c1 }
/-- com/example/tallybound/tallybound/counter/Bound -/
def k8 : Class := { plain "com/example/tallybound/tallybound/counter/Bound" (some 7) with
  accessFlags := 49
  interfaces := #[]
  cf := some (fileOf pool8 26 #[.nestMembers #[15]] #[{ accessFlags := 1, nameIndex := 5, descriptorIndex := 41, attributes := #[] }, { accessFlags := 1, nameIndex := 88, descriptorIndex := 89, attributes := #[] }] 49 2 #[] #[{ accessFlags := 18, nameIndex := 10, descriptorIndex := 19, attributes := #[] }, { accessFlags := 18, nameIndex := 31, descriptorIndex := 32, attributes := #[] }, { accessFlags := 26, nameIndex := 18, descriptorIndex := 35, attributes := #[] }])
  fields := #[{ name := "kind", type := (.object "com/example/tallybound/tallybound/counter/Bound$Kind"), accessFlags := 18, slot := 0, constantValue := 0 }, { name := "limit", type := .long, accessFlags := 18, slot := 1, constantValue := 0 }, { name := "NONE", type := (.object "com/example/tallybound/tallybound/counter/Bound"), accessFlags := 26, slot := 0, constantValue := 0 }]
  methods := #[k8m0, k8m1]
  instanceTypes := #[(.object "com/example/tallybound/tallybound/counter/Bound$Kind"), .long]
  staticTypes := #[(.object "com/example/tallybound/tallybound/counter/Bound")]
  resolved := Array.replicate 131 none
  statics := none }

def pool9 : Array CpInfo := pool [(1, .class_ 2), (0, u "java/lang/Math"), (1, .class_ 6), (1, u "java/lang/Object"), (0, u "<init>"), (0, u "()V"), (89, .class_ 100), (1, u "java/lang/Math$RandomNumberGeneratorHolder"), (20, u "(JJ)J"), (50, u "negativeZeroFloatBits"), (0, u "J"), (2, u "negativeZeroDoubleBits"), (21, u "max"), (2, u "min"), (43, u "$assertionsDisabled"), (0, u "Z"), (91, u "twoToTheDoubleScaleDown"), (0, u "D"), (4, u "twoToTheDoubleScaleUp"), (9, u "E"), (3, u "PI"), (2, u "TAU"), (2, u "DEGREES_TO_RADIANS"), (0, u "RADIANS_TO_DEGREES")] 94

def k9m0 : Method := { name := "<init>", desc := "()V", sig := { parameters := [], returnType := none }, accessFlags := 2, code := none }
def k9c1 : Code := { maxStack := 4, maxLocals := 4, code := jdk_29_method_66_code, exceptionTable := #[], attributes := #[] }
def k9m1 : Method := { name := "max", desc := "(JJ)J", sig := { parameters := [.long, .long], returnType := some .long }, accessFlags := 9, code := some k9c1 }
def k9c2 : Code := { maxStack := 4, maxLocals := 4, code := jdk_29_method_70_code, exceptionTable := #[], attributes := #[] }
def k9m2 : Method := { name := "min", desc := "(JJ)J", sig := { parameters := [.long, .long], returnType := some .long }, accessFlags := 9, code := some k9c2 }
/-- java/lang/Math -/
def k9 : Class := { plain "java/lang/Math" (some 0) with
  accessFlags := 49
  interfaces := #[]
  cf := some (fileOf pool9 1 #[.nestMembers #[98]] #[{ accessFlags := 2, nameIndex := 7, descriptorIndex := 8, attributes := #[] }, { accessFlags := 9, nameIndex := 198, descriptorIndex := 121, attributes := #[] }, { accessFlags := 9, nameIndex := 201, descriptorIndex := 121, attributes := #[] }] 49 4 #[] #[{ accessFlags := 25, nameIndex := 354, descriptorIndex := 339, attributes := #[] }, { accessFlags := 25, nameIndex := 358, descriptorIndex := 339, attributes := #[] }, { accessFlags := 25, nameIndex := 361, descriptorIndex := 339, attributes := #[] }, { accessFlags := 26, nameIndex := 364, descriptorIndex := 339, attributes := #[] }, { accessFlags := 26, nameIndex := 365, descriptorIndex := 339, attributes := #[] }, { accessFlags := 26, nameIndex := 172, descriptorIndex := 173, attributes := #[] }, { accessFlags := 26, nameIndex := 176, descriptorIndex := 173, attributes := #[] }, { accessFlags := 8, nameIndex := 344, descriptorIndex := 339, attributes := #[] }, { accessFlags := 8, nameIndex := 338, descriptorIndex := 339, attributes := #[] }, { accessFlags := 4120, nameIndex := 245, descriptorIndex := 246, attributes := #[] }])
  fields := #[{ name := "E", type := .double, accessFlags := 25, slot := 0, constantValue := 0 }, { name := "PI", type := .double, accessFlags := 25, slot := 1, constantValue := 0 }, { name := "TAU", type := .double, accessFlags := 25, slot := 2, constantValue := 0 }, { name := "DEGREES_TO_RADIANS", type := .double, accessFlags := 26, slot := 3, constantValue := 0 }, { name := "RADIANS_TO_DEGREES", type := .double, accessFlags := 26, slot := 4, constantValue := 0 }, { name := "negativeZeroFloatBits", type := .long, accessFlags := 26, slot := 5, constantValue := 0 }, { name := "negativeZeroDoubleBits", type := .long, accessFlags := 26, slot := 6, constantValue := 0 }, { name := "twoToTheDoubleScaleUp", type := .double, accessFlags := 8, slot := 7, constantValue := 0 }, { name := "twoToTheDoubleScaleDown", type := .double, accessFlags := 8, slot := 8, constantValue := 0 }, { name := "$assertionsDisabled", type := .boolean, accessFlags := 4120, slot := 9, constantValue := 0 }]
  methods := #[k9m0, k9m1, k9m2]
  instanceTypes := #[]
  staticTypes := #[.double, .double, .double, .double, .double, .long, .long, .double, .double, .boolean]
  resolved := Array.replicate 460 none
  statics := none }

def pool10 : Array CpInfo := pool [(1, u "java/lang/Cloneable"), (0, .class_ 1), (0, u "java/lang/Object"), (0, .class_ 3)] 3

/-- java/lang/Cloneable -/
def k10 : Class := { plain "java/lang/Cloneable" (some 0) with
  accessFlags := 1537
  interfaces := #[]
  cf := some (fileOf pool10 2 #[] #[] 1537 4 #[] #[])
  fields := #[]
  methods := #[]
  instanceTypes := #[]
  staticTypes := #[]
  resolved := Array.replicate 8 none
  statics := none }

/-- the primitive byte -/
def k11 : Class := { plain "byte" none with kind := .primitive 'B', accessFlags := 0x411 }
/-- [B -/
def k12 : Class := { plain "[B" (some 0) with kind := .array 11 .byte, interfaces := #[10, 4], accessFlags := 1041 }

/-- the primitive int -/
def k13 : Class := { plain "int" none with kind := .primitive 'I', accessFlags := 0x411 }
/-- [I -/
def k14 : Class := { plain "[I" (some 0) with kind := .array 13 .int, interfaces := #[10, 4], accessFlags := 1041 }

def heap : Heap := #[{ cls := 6, slots := #[.ref 1, .ref 2, .ref 3, .null], vm := .statics 6 },
  { cls := 6, slots := #[.null, .int 0, .int 0], vm := .none },
  { cls := 6, slots := #[.null, .int 1, .int 0], vm := .none },
  { cls := 6, slots := #[.null, .int 2, .int 0], vm := .none }]
def classes : Array Class := #[k0, k1, k2, k3, k4, k5, k6, k7, k8, k9, k10, k11, k12, k13, k14]
def interned : List (Array UInt16 × Addr) := []
def slotsUsed : Nat := 13
def theMethod : MethodId := ⟨1, 1⟩
def args0 : Array Value := #[.int 5, .long 6, .long 7]
def aboutOver (below : List Frame) : State where
  vm := { classes := classes, interned := interned.toArray }
  heap := heap
  slotsUsed := slotsUsed
  threads := #[{ frames := .invoking theMethod args0 :: below }]
def below0 : List Frame := [.native { method := ⟨0, 0⟩, args := #[] }]
def about1 : State := aboutOver below0
def p0 : Program := .bare "" "" ""
def e0 : Env := launch0.env 0 0 0
theorem w_frames : about1.frames = Frame.invoking theMethod args0 :: below0 := rfl
set_option maxRecDepth 65536 in
theorem w_args : argsFit about1.vm theMethod args0 = true := by decide +kernel
set_option maxRecDepth 65536 in
theorem w_heap : heapFits about1 = true := by decide +kernel
set_option maxRecDepth 65536 in
theorem w_runnable : about1.curStatus? = some .runnable := by decide +kernel
set_option maxRecDepth 65536 in
theorem w_alone : about1.alone = true := by decide +kernel
set_option maxRecDepth 65536 in
theorem w_named : about1.methodNamed? x = some theMethod := by decide +kernel
set_option maxRecDepth 65536 in
theorem w_hears : about1.hears theMethod below0 = true := by decide +kernel
set_option maxRecDepth 65536 in
theorem w_ripe : about1.ripe theMethod args0 below0 = true := by decide +kernel
theorem w_running : about1.status = .running := rfl
set_option maxRecDepth 65536 in
theorem w_room : about1.hasRoom e0.platform room_1 = true :=
  launch0.hasRoom_least _ room_1 (by decide +kernel) (by decide +kernel) (by decide +kernel) (by decide +kernel) (by decide +kernel) (by decide +kernel)
theorem allAtoms_all (ts : List Jvm.Cond) (a : Array Jvm.Value) (st : Jvm.State) : (allAtoms ts).before a st = ts.all (fun c => c.before a st) := by
  induction ts with
  | nil => rfl
  | cons c t ih =>
    show (Jvm.Cond.and c (allAtoms t)).before a st = _
    rw [Jvm.Cond.before_and, ih, List.all_cons]
def words1 : List Jvm.Cond := Jvm.Cond.code x code maxLocals ret :: tables_1
/-- a 'code' word, met by the world's own term for the bytes: nothing is compared byte by byte -/
theorem code_word {y : MethodName} {bytes : ByteArray} {mx : Nat} {rt : Option FieldType} {a : Array Value} {s : State} {m : MethodId} {meth : Method} {c : Code} (h1 : s.methodNamed? y = some m) (h2 : s.vm.method? m = some meth) (h3 : meth.code = some c) (h4 : c.code = bytes)
    (h5 : (c.maxLocals == mx && c.exceptionTable.isEmpty && decide (c.maxStack ≤ mostOperands) && decide (meth.sig.returnType = rt) && !meth.locks && decide (parseMethodDescriptor y.desc = some meth.sig)) = true) : (Jvm.Cond.code y bytes mx rt).before a s = true := by
  simp only [Bool.and_eq_true, beq_iff_eq, Bool.not_eq_true', decide_eq_true_eq] at h5
  obtain ⟨⟨⟨⟨⟨g1, g2⟩, g3⟩, g4⟩, g5⟩, g6⟩ := h5
  simp [Cond.before, Cond.holds, Cond.value, h1, h2, h3, h4, g1, g2, g3, g4, g5, g6]
def isCode : Jvm.Cond → Bool
  | .code _ _ _ _ => true
  | _ => false
theorem all_split {L : List Jvm.Cond} {P : Jvm.Cond → Bool} (h1 : L.all (fun c => isCode c || P c) = true) (h2 : ∀ c ∈ L.filter isCode, P c = true) : L.all P = true := by
  refine List.all_eq_true.mpr fun c hc => ?_
  have h := List.all_eq_true.mp h1 c hc
  rcases Bool.eq_false_or_eq_true (isCode c) with hi | hi
  · exact h2 c (List.mem_filter.mpr ⟨hc, hi⟩)
  · simpa [hi] using h
set_option maxRecDepth 65536 in
theorem w_c0 : (Jvm.Cond.code x code maxLocals ret).before args0 about1 = true := code_word (m := ⟨1, 1⟩) (meth := k1m1) (c := k1c1) (by decide +kernel) rfl rfl rfl (by decide +kernel)
set_option maxRecDepth 65536 in
theorem w_c1 : (Jvm.Cond.code ({ cls := "com/example/tallybound/tallybound/counter/Bound", name := "<init>", desc := "(Lcom/example/tallybound/tallybound/counter/Bound$Kind;J)V" } : Jvm.MethodName) prog_20_method_1_code (4 : Nat) (Option.none : Option Jvm.ClassFile.FieldType)).before args0 about1 = true := code_word (m := ⟨8, 0⟩) (meth := k8m0) (c := k8c0) (by decide +kernel) rfl rfl rfl (by decide +kernel)
set_option maxRecDepth 65536 in
theorem w_c2 : (Jvm.Cond.code ({ cls := "java/lang/Record", name := "<init>", desc := "()V" } : Jvm.MethodName) jdk_30_method_1_code (1 : Nat) (Option.none : Option Jvm.ClassFile.FieldType)).before args0 about1 = true := code_word (m := ⟨7, 0⟩) (meth := k7m0) (c := k7c0) (by decide +kernel) rfl rfl rfl (by decide +kernel)
set_option maxRecDepth 65536 in
theorem w_c3 : (Jvm.Cond.code ({ cls := "java/lang/Object", name := "<init>", desc := "()V" } : Jvm.MethodName) object_method_1_code (1 : Nat) (Option.none : Option Jvm.ClassFile.FieldType)).before args0 about1 = true := code_word (m := ⟨0, 0⟩) (meth := k0m0) (c := k0c0) (by decide +kernel) rfl rfl rfl (by decide +kernel)
set_option maxRecDepth 65536 in
theorem w_c4 : (Jvm.Cond.code ({ cls := "com/example/tallybound/tallybound/counter/Bound", name := "admits", desc := "(J)Z" } : Jvm.MethodName) prog_20_method_6_code (3 : Nat) (Option.some Jvm.ClassFile.FieldType.boolean)).before args0 about1 = true := code_word (m := ⟨8, 1⟩) (meth := k8m1) (c := k8c1) (by decide +kernel) rfl rfl rfl (by decide +kernel)
set_option maxRecDepth 65536 in
theorem w_c5 : (Jvm.Cond.code ({ cls := "java/lang/Enum", name := "ordinal", desc := "()I" } : Jvm.MethodName) jdk_37_method_2_code (1 : Nat) (Option.some Jvm.ClassFile.FieldType.int)).before args0 about1 = true := code_word (m := ⟨5, 0⟩) (meth := k5m0) (c := k5c0) (by decide +kernel) rfl rfl rfl (by decide +kernel)
set_option maxRecDepth 65536 in
theorem w_c6 : (Jvm.Cond.code ({ cls := "java/lang/Math", name := "max", desc := "(JJ)J" } : Jvm.MethodName) jdk_29_method_66_code (4 : Nat) (Option.some Jvm.ClassFile.FieldType.long)).before args0 about1 = true := code_word (m := ⟨9, 1⟩) (meth := k9m1) (c := k9c1) (by decide +kernel) rfl rfl rfl (by decide +kernel)
set_option maxRecDepth 65536 in
theorem w_c7 : (Jvm.Cond.code ({ cls := "java/lang/Math", name := "min", desc := "(JJ)J" } : Jvm.MethodName) jdk_29_method_70_code (4 : Nat) (Option.some Jvm.ClassFile.FieldType.long)).before args0 about1 = true := code_word (m := ⟨9, 2⟩) (meth := k9m2) (c := k9c2) (by decide +kernel) rfl rfl rfl (by decide +kernel)
def codes1 : List Jvm.Cond := [Jvm.Cond.code x code maxLocals ret, Jvm.Cond.code ({ cls := "com/example/tallybound/tallybound/counter/Bound", name := "<init>", desc := "(Lcom/example/tallybound/tallybound/counter/Bound$Kind;J)V" } : Jvm.MethodName) prog_20_method_1_code (4 : Nat) (Option.none : Option Jvm.ClassFile.FieldType), Jvm.Cond.code ({ cls := "java/lang/Record", name := "<init>", desc := "()V" } : Jvm.MethodName) jdk_30_method_1_code (1 : Nat) (Option.none : Option Jvm.ClassFile.FieldType), Jvm.Cond.code ({ cls := "java/lang/Object", name := "<init>", desc := "()V" } : Jvm.MethodName) object_method_1_code (1 : Nat) (Option.none : Option Jvm.ClassFile.FieldType), Jvm.Cond.code ({ cls := "com/example/tallybound/tallybound/counter/Bound", name := "admits", desc := "(J)Z" } : Jvm.MethodName) prog_20_method_6_code (3 : Nat) (Option.some Jvm.ClassFile.FieldType.boolean), Jvm.Cond.code ({ cls := "java/lang/Enum", name := "ordinal", desc := "()I" } : Jvm.MethodName) jdk_37_method_2_code (1 : Nat) (Option.some Jvm.ClassFile.FieldType.int), Jvm.Cond.code ({ cls := "java/lang/Math", name := "max", desc := "(JJ)J" } : Jvm.MethodName) jdk_29_method_66_code (4 : Nat) (Option.some Jvm.ClassFile.FieldType.long), Jvm.Cond.code ({ cls := "java/lang/Math", name := "min", desc := "(JJ)J" } : Jvm.MethodName) jdk_29_method_70_code (4 : Nat) (Option.some Jvm.ClassFile.FieldType.long)]
set_option maxRecDepth 65536 in
theorem codes_eq : words1.filter isCode = codes1 := rfl
theorem w_codes : ∀ c ∈ words1.filter isCode, c.before args0 about1 = true := by
  rw [codes_eq]
  intro c hc
  simp only [codes1, List.mem_cons, List.not_mem_nil, or_false] at hc
  rcases hc with rfl | rfl | rfl | rfl | rfl | rfl | rfl | rfl
  · exact w_c0
  · exact w_c1
  · exact w_c2
  · exact w_c3
  · exact w_c4
  · exact w_c5
  · exact w_c6
  · exact w_c7
set_option maxRecDepth 65536 in
theorem w_t1 : (words1.take 24).all (fun c => isCode c || c.before args0 about1) = true := by decide +kernel
set_option maxRecDepth 65536 in
theorem w_t2 : ((words1.drop 24).take 24).all (fun c => isCode c || c.before args0 about1) = true := by decide +kernel
set_option maxRecDepth 65536 in
theorem w_t3 : ((words1.drop 24).drop 24).all (fun c => isCode c || c.before args0 about1) = true := by decide +kernel
theorem w_tables : (allAtoms (Jvm.Cond.code x code maxLocals ret :: tables_1)).before args0 about1 = true := by
  rw [allAtoms_all]
  show words1.all (fun c => c.before args0 about1) = true
  refine all_split ?_ w_codes
  rw [← List.take_append_drop 24 words1, List.all_append, w_t1, ← List.take_append_drop 24 (words1.drop 24), List.all_append, w_t2, w_t3]
  rfl
set_option maxRecDepth 65536 in
theorem w_case : (Jvm.Cond.and given_1 narrow_1).before args0 about1 = true := by decide +kernel
theorem w_applies : (headSpec (Jvm.Cond.code x code maxLocals ret :: tables_1) room_1).applies x e0.platform about1 = true :=
  (Spec.applies_iff w_frames).mpr ⟨w_running, w_runnable, w_alone, w_named, w_hears, w_ripe, w_room, w_tables⟩
theorem atStart : AtStart classFile x code maxLocals ret World_1 tables_1 room_1 Calls_1 rest_1 Pre_1 launch0 p0 e0 about1 theMethod args0 below0 :=
  ⟨lists_1, trivial, launch0.admits_env _ _ _, launch0.least_env, fairChoices_fair.cas, fairChoices_fair.clock, w_frames, w_args, w_heap, w_applies, trivial, trivial, w_case⟩
end start1
theorem witness_1 : WitnessClaimed_1 := ⟨start1.p0, start1.e0, start1.about1, start1.theMethod, start1.args0, start1.below0, start1.atStart⟩
end Jvm.Pilot.@@N@@
