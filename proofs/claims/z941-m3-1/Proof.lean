import JvmDerived
import JvmDerived.Pilot.@@N@@Statement
import JvmDerived.Pilot.@@N@@Code
set_option linter.unusedVariables false
set_option linter.unusedSimpArgs false
namespace Jvm.RoadKit
open Sem ClassFile Op Lib Jvm.Stand Jvm.Free Jvm.LawKit
section New
variable {p : Program} {l : Launch} {e : Env} {R : Room} {s : State} {m : MethodId} {args : Array Value} {below : List Frame} {meth : Method} {c : Code} {T : State} {locs : List Loc} {cells slots : Nat}
theorem retI (X : Stand p l e R s m args below meth c T locs cells slots) (hx : p.tables.exec = Jvm.exec) {pc : Nat} {Ls : Array Slot} {z : Int32} {rest : List Value} (hret : meth.sig.returnType = some .int) (hd : decode c.code pc = .ok (.ireturn, 1)) {fs : List Frame}
    (hl : ∀ (f : JFrame) (acts : List Action), f.method = m → f.locked = none → f.entered = [] → (doReturn e (T.setTop f) acts (some (.int z))).1 = T.setFrames fs) : Steps p.tables e below (T.setTop (mkF m pc Ls (.int z :: rest))) (T.setFrames fs) := by
  have hm' : T.vm.method? m = some meth := X.method'
  have hn : narrow .int (.int z) = .int z := rfl
  show Steps p.tables e below (T.setTop { method := m, pc := pc, locals := Ls, stack := _ :: rest, locked := none }) _
  jvm_step X.here [X.here.top, hx, hd, hm', hret, hn]
  first | (intro acts; rw [hl _ acts rfl rfl rfl]) | rw [hl _ _ rfl rfl rfl]
  exact Steps.refl _
end New
end Jvm.RoadKit
namespace Jvm.Pilot.@@N@@
open Jvm Jvm.ClassFile Sem Op Lib Jvm.Free Jvm.Stand Jvm.LawKit Jvm.RoadKit Bundle Jvm.Pilot.@@N@@.Jvm.D
section Own
variable {p : Program} {l : Launch} {e : Env} {R : Room} {s : State} {m : MethodId} {args : Array Value} {below : List Frame} {meth : Method} {c : Code} {T : State} {locs : List Loc} {cells slots : Nat}
/-- from the state G the run comes to an end with an outcome of which Φ holds -/
def own_Gs (p : Program) (e : Env) (below : List Frame) (Φ : Outcome → State → Prop) (G : State) : Prop :=
  ∃ (t : State) (o : Outcome), Steps p.tables e below G t ∧ t.status = .running ∧ Ended t below o ∧ Φ o t
theorem own_st {Φ : Outcome → State → Prop} {G G' : State} (k : ∀ t, Steps p.tables e below G' t → Steps p.tables e below G t) (h : own_Gs p e below Φ G') : own_Gs p e below Φ G := by
  obtain ⟨a, b, h1, h2⟩ := h
  exact ⟨a, b, k _ h1, h2⟩
theorem own_in {Φ : Outcome → State → Prop} {g g' : JFrame} (q : g = g') (h : own_Gs p e below Φ (T.setTop g')) : ∃ (t : State) (o : Outcome), Steps p.tables e below (T.setTop g) t ∧ t.status = .running ∧ Ended t below o ∧ Φ o t := by
  subst q; exact h
theorem own_ret (X : Stand p l e R s m args below meth c T locs cells slots) {v : Option Value} (hv : meth.sig.returnType = none → v = none) (hlk : meth.locks = false) {G : State}
    (k : ∀ fs, (∀ (f : JFrame) (acts : List Action), f.method = m → f.locked = none → f.entered = [] → (doReturn e (T.setTop f) acts v).1 = T.setFrames fs) → Steps p.tables e below G (T.setFrames fs))
    {Q : Option Value → Heap → List Loc → Prop} {h : Heap} (eT : T.heap = h) (hQ : Q v h locs) {cc ss : Nat} (hc : cells ≤ cc) (hs : slots ≤ ss) :
    own_Gs p e below (fun o t => ∃ v L, o = .returned v ∧ Q v t.heap L ∧ FrameEnd s o t L cc ss) G := by
  obtain ⟨fs, hr, hrun, hended, hW, hsame⟩ := X.leave (v := v) hv hlk
  subst eT
  exact ⟨_, _, k fs hr, hrun, hended, _, _, rfl, hQ, ⟨_, rfl⟩, hW, hsame.mono hc hs⟩
theorem own_retI (X : Stand p l e R s m args below meth c T locs cells slots) (hx : p.tables.exec = Jvm.exec) {pc : Nat} {Ls : Array Slot} {z : Int32} {rest : List Value} (hret : meth.sig.returnType = some .int) (hd : decode c.code pc = .ok (.ireturn, 1)) (hlk : meth.locks = false)
    {Q : Option Value → Heap → List Loc → Prop} {h : Heap} (eT : T.heap = h) (hQ : Q (some (.int z)) h locs) {cc ss : Nat} (hc : cells ≤ cc) (hs : slots ≤ ss) :
    own_Gs p e below (fun o t => ∃ v L, o = .returned v ∧ Q v t.heap L ∧ FrameEnd s o t L cc ss) (T.setTop (mkF m pc Ls (.int z :: rest))) :=
  own_ret X (fun h => by rw [hret] at h; cases h) hlk (fun fs hr => retI X hx hret hd hr) eT hQ hc hs
theorem own_retN (X : Stand p l e R s m args below meth c T locs cells slots) (hx : p.tables.exec = Jvm.exec) {pc : Nat} {Ls : Array Slot} {z : Int32} {t : FieldType} {rest : List Value} (hret : meth.sig.returnType = some t) (ht : t = .boolean ∨ t = .byte ∨ t = .char ∨ t = .short) (hd : decode c.code pc = .ok (.ireturn, 1)) (hlk : meth.locks = false)
    {Q : Option Value → Heap → List Loc → Prop} {h : Heap} (eT : T.heap = h) (hQ : Q (some (.int (nar t z))) h locs) {cc ss : Nat} (hc : cells ≤ cc) (hs : slots ≤ ss) :
    own_Gs p e below (fun o t => ∃ v L, o = .returned v ∧ Q v t.heap L ∧ FrameEnd s o t L cc ss) (T.setTop (mkF m pc Ls (.int z :: rest))) :=
  own_ret X (fun h => by rw [hret] at h; cases h) hlk (fun fs hr => retN X hx hret ht hd hr) eT hQ hc hs
theorem own_retL (X : Stand p l e R s m args below meth c T locs cells slots) (hx : p.tables.exec = Jvm.exec) {pc : Nat} {Ls : Array Slot} {z : Int64} {rest : List Value} (hret : meth.sig.returnType = some .long) (hd : decode c.code pc = .ok (.lreturn, 1)) (hlk : meth.locks = false)
    {Q : Option Value → Heap → List Loc → Prop} {h : Heap} (eT : T.heap = h) (hQ : Q (some (.long z)) h locs) {cc ss : Nat} (hc : cells ≤ cc) (hs : slots ≤ ss) :
    own_Gs p e below (fun o t => ∃ v L, o = .returned v ∧ Q v t.heap L ∧ FrameEnd s o t L cc ss) (T.setTop (mkF m pc Ls (.long z :: rest))) :=
  own_ret X (fun h => by rw [hret] at h; cases h) hlk (fun fs hr => retOut X hx hret rfl (Or.inr (Or.inl ⟨rfl, rfl, z, rfl⟩)) hd hr) eT hQ hc hs
theorem own_retA (X : Stand p l e R s m args below meth c T locs cells slots) (hx : p.tables.exec = Jvm.exec) {pc : Nat} {Ls : Array Slot} {z : Value} {t : FieldType} {rest : List Value} (hret : meth.sig.returnType = some t) (ht : t.isReference = true) (hz : z.isRef = true) (hd : decode c.code pc = .ok (.areturn, 1)) (hlk : meth.locks = false)
    {Q : Option Value → Heap → List Loc → Prop} {h : Heap} (eT : T.heap = h) (hQ : Q (some z) h locs) {cc ss : Nat} (hc : cells ≤ cc) (hs : slots ≤ ss) :
    own_Gs p e below (fun o t => ∃ v L, o = .returned v ∧ Q v t.heap L ∧ FrameEnd s o t L cc ss) (T.setTop (mkF m pc Ls (z :: rest))) :=
  own_ret X (fun h => by rw [hret] at h; cases h) hlk (fun fs hr => retOut X hx hret (by cases t <;> first | rfl | (cases z <;> first | rfl | (simp [Value.isRef] at hz) | (simp [FieldType.isReference] at ht))) (Or.inr (Or.inr (Or.inr (Or.inr ⟨rfl, ht, hz⟩)))) hd hr) eT hQ hc hs
theorem own_retV (X : Stand p l e R s m args below meth c T locs cells slots) (hx : p.tables.exec = Jvm.exec) {pc : Nat} {Ls : Array Slot} (hret : meth.sig.returnType = none) (hd : decode c.code pc = .ok (.return_, 1)) (hlk : meth.locks = false)
    {Q : Option Value → Heap → List Loc → Prop} {h : Heap} (eT : T.heap = h) (hQ : Q none h locs) {cc ss : Nat} (hc : cells ≤ cc) (hs : slots ≤ ss) :
    own_Gs p e below (fun o t => ∃ v L, o = .returned v ∧ Q v t.heap L ∧ FrameEnd s o t L cc ss) (T.setTop (mkF m pc Ls [])) :=
  own_ret X (fun _ => rfl) hlk (fun fs hr => X.returnOut hx hret hd hr) eT hQ hc hs
theorem own_retNW {vm0 : Vm} {k0 : Nat} (X : Stand p l e R (s.setVm vm0) m args below meth c T locs cells slots) (hS : s.Since vm0 k0) {h : Heap} (hk : k0 ≤ h.size) (hx : p.tables.exec = Jvm.exec) {pc : Nat} {Ls : Array Slot} {z : Int32} {t : FieldType} {rest : List Value} (hret : meth.sig.returnType = some t) (ht : t = .boolean ∨ t = .byte ∨ t = .char ∨ t = .short) (hd : decode c.code pc = .ok (.ireturn, 1)) (hlk : meth.locks = false)
    {Q : Option Value → Heap → List Loc → Prop} (eT : T.heap = h) (hQ : Q (some (.int (nar t z))) h locs) {cc ss : Nat} (hc : cells ≤ cc) (hs : slots ≤ ss) :
    own_Gs p e below (fun o t => ∃ v L, o = .returned v ∧ Q v t.heap L ∧ ReturnedEndW s o t L cc ss) (T.setTop (mkF m pc Ls (.int z :: rest))) := by
  subst eT
  obtain ⟨fs, hr, hrun, hended, h1, h2, h3, h4⟩ := X.leaveW hS hk (v := some (.int (nar t z))) (fun h => by rw [hret] at h; cases h) hlk
  exact ⟨_, _, retN X hx hret ht hd hr, hrun, hended, _, _, rfl, hQ, h1, h2, h3, h4.mono hc hs⟩
-- steps
theorem own_iloadN {Φ : Outcome → State → Prop} (X : Stand p l e R s m args below meth c T locs cells slots) (hx : p.tables.exec = Jvm.exec) {pc : Nat} (pc' : Nat) {Ls : Array Slot} {S : List Value} {k : Fin 4} {v : Int32} (hd : decode c.code pc = .ok (.iload_n k, 1)) (hl : Ls[k.val]? = some (.val (.int v))) (h : own_Gs p e below Φ (T.setTop (mkF m pc' Ls (.int v :: S)))) (hp : pc + 1 = pc' := by rfl) : own_Gs p e below Φ (T.setTop (mkF m pc Ls (S))) := by
  subst hp; exact own_st (fun t k => XS.iloadN X.here hx rfl hd hl k) h
theorem own_iload {Φ : Outcome → State → Prop} (X : Stand p l e R s m args below meth c T locs cells slots) (hx : p.tables.exec = Jvm.exec) {pc : Nat} (pc' : Nat) {Ls : Array Slot} {S : List Value} {k : Nat} {v : Int32} (hd : decode c.code pc = .ok (.iload k, 2)) (hl : Ls[k]? = some (.val (.int v))) (h : own_Gs p e below Φ (T.setTop (mkF m pc' Ls (.int v :: S)))) (hp : pc + 2 = pc' := by rfl) : own_Gs p e below Φ (T.setTop (mkF m pc Ls (S))) := by
  subst hp; exact own_st (fun t k => XS.iload X.here hx rfl hd hl k) h
theorem own_lloadN {Φ : Outcome → State → Prop} (X : Stand p l e R s m args below meth c T locs cells slots) (hx : p.tables.exec = Jvm.exec) {pc : Nat} (pc' : Nat) {Ls : Array Slot} {S : List Value} {k : Fin 4} {v : Int64} (hd : decode c.code pc = .ok (.lload_n k, 1)) (hl : Ls[k.val]? = some (.val (.long v))) (h : own_Gs p e below Φ (T.setTop (mkF m pc' Ls (.long v :: S)))) (hp : pc + 1 = pc' := by rfl) : own_Gs p e below Φ (T.setTop (mkF m pc Ls (S))) := by
  subst hp; exact own_st (fun t k => XS.lloadN X.here hx rfl hd hl k) h
theorem own_lload {Φ : Outcome → State → Prop} (X : Stand p l e R s m args below meth c T locs cells slots) (hx : p.tables.exec = Jvm.exec) {pc : Nat} (pc' : Nat) {Ls : Array Slot} {S : List Value} {k : Nat} {v : Int64} (hd : decode c.code pc = .ok (.lload k, 2)) (hl : Ls[k]? = some (.val (.long v))) (h : own_Gs p e below Φ (T.setTop (mkF m pc' Ls (.long v :: S)))) (hp : pc + 2 = pc' := by rfl) : own_Gs p e below Φ (T.setTop (mkF m pc Ls (S))) := by
  subst hp; exact own_st (fun t k => XS.lload X.here hx rfl hd hl k) h
theorem own_aloadN {Φ : Outcome → State → Prop} (X : Stand p l e R s m args below meth c T locs cells slots) (hx : p.tables.exec = Jvm.exec) {pc : Nat} (pc' : Nat) {Ls : Array Slot} {S : List Value} {k : Fin 4} {v : Value} (hd : decode c.code pc = .ok (.aload_n k, 1)) (hl : Ls[k.val]? = some (.val v)) (hv : v.isRef = true) (h : own_Gs p e below Φ (T.setTop (mkF m pc' Ls (v :: S)))) (hp : pc + 1 = pc' := by rfl) : own_Gs p e below Φ (T.setTop (mkF m pc Ls (S))) := by
  subst hp; exact own_st (fun t k => XS.aloadN X.here hx rfl hd hl hv k) h
theorem own_aload {Φ : Outcome → State → Prop} (X : Stand p l e R s m args below meth c T locs cells slots) (hx : p.tables.exec = Jvm.exec) {pc : Nat} (pc' : Nat) {Ls : Array Slot} {S : List Value} {k : Nat} {v : Value} (hd : decode c.code pc = .ok (.aload k, 2)) (hl : Ls[k]? = some (.val v)) (hv : v.isRef = true) (h : own_Gs p e below Φ (T.setTop (mkF m pc' Ls (v :: S)))) (hp : pc + 2 = pc' := by rfl) : own_Gs p e below Φ (T.setTop (mkF m pc Ls (S))) := by
  subst hp; exact own_st (fun t k => XS.aload X.here hx rfl hd hl hv k) h
theorem own_istoreN {Φ : Outcome → State → Prop} (X : Stand p l e R s m args below meth c T locs cells slots) (hx : p.tables.exec = Jvm.exec) {pc : Nat} (pc' : Nat) {Ls : Array Slot} {S : List Value} {k : Fin 4} {v : Int32} (l' : Array Slot) (hd : decode c.code pc = .ok (.istore_n k, 1)) (hl : storeLocals Ls k.val (.int v) = some l') (h : own_Gs p e below Φ (T.setTop (mkF m pc' l' (S)))) (hp : pc + 1 = pc' := by rfl) : own_Gs p e below Φ (T.setTop (mkF m pc Ls (.int v :: S))) := by
  subst hp; exact own_st (fun t k => XS.istoreN X.here hx rfl hd rfl hl k) h
theorem own_istore {Φ : Outcome → State → Prop} (X : Stand p l e R s m args below meth c T locs cells slots) (hx : p.tables.exec = Jvm.exec) {pc : Nat} (pc' : Nat) {Ls : Array Slot} {S : List Value} {k : Nat} {v : Int32} (l' : Array Slot) (hd : decode c.code pc = .ok (.istore k, 2)) (hl : storeLocals Ls k (.int v) = some l') (h : own_Gs p e below Φ (T.setTop (mkF m pc' l' (S)))) (hp : pc + 2 = pc' := by rfl) : own_Gs p e below Φ (T.setTop (mkF m pc Ls (.int v :: S))) := by
  subst hp; exact own_st (fun t k => XS.istore X.here hx rfl hd rfl hl k) h
theorem own_lstoreN {Φ : Outcome → State → Prop} (X : Stand p l e R s m args below meth c T locs cells slots) (hx : p.tables.exec = Jvm.exec) {pc : Nat} (pc' : Nat) {Ls : Array Slot} {S : List Value} {k : Fin 4} {v : Int64} (l' : Array Slot) (hd : decode c.code pc = .ok (.lstore_n k, 1)) (hl : storeLocals Ls k.val (.long v) = some l') (h : own_Gs p e below Φ (T.setTop (mkF m pc' l' (S)))) (hp : pc + 1 = pc' := by rfl) : own_Gs p e below Φ (T.setTop (mkF m pc Ls (.long v :: S))) := by
  subst hp; exact own_st (fun t k => XS.lstoreN X.here hx rfl hd rfl hl k) h
theorem own_lstore {Φ : Outcome → State → Prop} (X : Stand p l e R s m args below meth c T locs cells slots) (hx : p.tables.exec = Jvm.exec) {pc : Nat} (pc' : Nat) {Ls : Array Slot} {S : List Value} {k : Nat} {v : Int64} (l' : Array Slot) (hd : decode c.code pc = .ok (.lstore k, 2)) (hl : storeLocals Ls k (.long v) = some l') (h : own_Gs p e below Φ (T.setTop (mkF m pc' l' (S)))) (hp : pc + 2 = pc' := by rfl) : own_Gs p e below Φ (T.setTop (mkF m pc Ls (.long v :: S))) := by
  subst hp; exact own_st (fun t k => XS.lstore X.here hx rfl hd rfl hl k) h
theorem own_astoreN {Φ : Outcome → State → Prop} (X : Stand p l e R s m args below meth c T locs cells slots) (hx : p.tables.exec = Jvm.exec) {pc : Nat} (pc' : Nat) {Ls : Array Slot} {S : List Value} {k : Fin 4} {v : Value} (l' : Array Slot) (hd : decode c.code pc = .ok (.astore_n k, 1)) (hv : v.isRef = true) (hl : storeLocals Ls k.val v = some l') (h : own_Gs p e below Φ (T.setTop (mkF m pc' l' (S)))) (hp : pc + 1 = pc' := by rfl) : own_Gs p e below Φ (T.setTop (mkF m pc Ls (v :: S))) := by
  subst hp; exact own_st (fun t k => XS.astoreN X.here hx rfl hd rfl hv hl k) h
theorem own_astore {Φ : Outcome → State → Prop} (X : Stand p l e R s m args below meth c T locs cells slots) (hx : p.tables.exec = Jvm.exec) {pc : Nat} (pc' : Nat) {Ls : Array Slot} {S : List Value} {k : Nat} {v : Value} (l' : Array Slot) (hd : decode c.code pc = .ok (.astore k, 2)) (hv : v.isRef = true) (hl : storeLocals Ls k v = some l') (h : own_Gs p e below Φ (T.setTop (mkF m pc' l' (S)))) (hp : pc + 2 = pc' := by rfl) : own_Gs p e below Φ (T.setTop (mkF m pc Ls (v :: S))) := by
  subst hp; exact own_st (fun t k => XS.astore X.here hx rfl hd rfl hv hl k) h
theorem own_iconst {Φ : Outcome → State → Prop} (X : Stand p l e R s m args below meth c T locs cells slots) (hx : p.tables.exec = Jvm.exec) {pc : Nat} (pc' : Nat) {Ls : Array Slot} {S : List Value} {i : Int} (z : Int32) (hd : decode c.code pc = .ok (.iconst i, 1)) (hz : Int32.ofInt i = z) (h : own_Gs p e below Φ (T.setTop (mkF m pc' Ls (.int z :: S)))) (hp : pc + 1 = pc' := by rfl) : own_Gs p e below Φ (T.setTop (mkF m pc Ls (S))) := by
  subst hp; exact own_st (fun t k => XS.iconst X.here hx rfl hd (hz ▸ k)) h
theorem own_bipush {Φ : Outcome → State → Prop} (X : Stand p l e R s m args below meth c T locs cells slots) (hx : p.tables.exec = Jvm.exec) {pc : Nat} (pc' : Nat) {Ls : Array Slot} {S : List Value} {i : Int} (z : Int32) (hd : decode c.code pc = .ok (.bipush i, 2)) (hz : (Int8.ofInt i).toInt32 = z) (h : own_Gs p e below Φ (T.setTop (mkF m pc' Ls (.int z :: S)))) (hp : pc + 2 = pc' := by rfl) : own_Gs p e below Φ (T.setTop (mkF m pc Ls (S))) := by
  subst hp; exact own_st (fun t k => XS.bipush X.here hx rfl hd (hz ▸ k)) h
theorem own_sipush {Φ : Outcome → State → Prop} (X : Stand p l e R s m args below meth c T locs cells slots) (hx : p.tables.exec = Jvm.exec) {pc : Nat} (pc' : Nat) {Ls : Array Slot} {S : List Value} {i : Int} (z : Int32) (hd : decode c.code pc = .ok (.sipush i, 3)) (hz : (Int16.ofInt i).toInt32 = z) (h : own_Gs p e below Φ (T.setTop (mkF m pc' Ls (.int z :: S)))) (hp : pc + 3 = pc' := by rfl) : own_Gs p e below Φ (T.setTop (mkF m pc Ls (S))) := by
  subst hp; exact own_st (fun t k => XS.sipush X.here hx rfl hd (hz ▸ k)) h
theorem own_lconst {Φ : Outcome → State → Prop} (X : Stand p l e R s m args below meth c T locs cells slots) (hx : p.tables.exec = Jvm.exec) {pc : Nat} (pc' : Nat) {Ls : Array Slot} {S : List Value} {i : Fin 2} (z : Int64) (hd : decode c.code pc = .ok (.lconst i, 1)) (hz : Int64.ofNat i = z) (h : own_Gs p e below Φ (T.setTop (mkF m pc' Ls (.long z :: S)))) (hp : pc + 1 = pc' := by rfl) : own_Gs p e below Φ (T.setTop (mkF m pc Ls (S))) := by
  subst hp; exact own_st (fun t k => XS.lconst X.here hx rfl hd (hz ▸ k)) h
theorem own_aconstNull {Φ : Outcome → State → Prop} (X : Stand p l e R s m args below meth c T locs cells slots) (hx : p.tables.exec = Jvm.exec) {pc : Nat} (pc' : Nat) {Ls : Array Slot} {S : List Value}  (hd : decode c.code pc = .ok (.aconst_null, 1)) (h : own_Gs p e below Φ (T.setTop (mkF m pc' Ls (.null :: S)))) (hp : pc + 1 = pc' := by rfl) : own_Gs p e below Φ (T.setTop (mkF m pc Ls (S))) := by
  subst hp; exact own_st (fun t k => XS.aconstNull X.here hx rfl hd k) h
theorem own_iadd {Φ : Outcome → State → Prop} (X : Stand p l e R s m args below meth c T locs cells slots) (hx : p.tables.exec = Jvm.exec) {pc : Nat} (pc' : Nat) {Ls : Array Slot} {S : List Value} {x y : Int32} (hd : decode c.code pc = .ok (.iadd, 1)) (h : own_Gs p e below Φ (T.setTop (mkF m pc' Ls (.int (x + y) :: S)))) (hp : pc + 1 = pc' := by rfl) : own_Gs p e below Φ (T.setTop (mkF m pc Ls (.int y :: .int x :: S))) := by
  subst hp; exact own_st (fun t k => XS.iadd X.here hx rfl hd rfl k) h
theorem own_ladd {Φ : Outcome → State → Prop} (X : Stand p l e R s m args below meth c T locs cells slots) (hx : p.tables.exec = Jvm.exec) {pc : Nat} (pc' : Nat) {Ls : Array Slot} {S : List Value} {x y : Int64} (hd : decode c.code pc = .ok (.ladd, 1)) (h : own_Gs p e below Φ (T.setTop (mkF m pc' Ls (.long (x + y) :: S)))) (hp : pc + 1 = pc' := by rfl) : own_Gs p e below Φ (T.setTop (mkF m pc Ls (.long y :: .long x :: S))) := by
  subst hp; exact own_st (fun t k => XS.ladd X.here hx rfl hd rfl k) h
theorem own_isub {Φ : Outcome → State → Prop} (X : Stand p l e R s m args below meth c T locs cells slots) (hx : p.tables.exec = Jvm.exec) {pc : Nat} (pc' : Nat) {Ls : Array Slot} {S : List Value} {x y : Int32} (hd : decode c.code pc = .ok (.isub, 1)) (h : own_Gs p e below Φ (T.setTop (mkF m pc' Ls (.int (x - y) :: S)))) (hp : pc + 1 = pc' := by rfl) : own_Gs p e below Φ (T.setTop (mkF m pc Ls (.int y :: .int x :: S))) := by
  subst hp; exact own_st (fun t k => XS.isub X.here hx rfl hd rfl k) h
theorem own_lsub {Φ : Outcome → State → Prop} (X : Stand p l e R s m args below meth c T locs cells slots) (hx : p.tables.exec = Jvm.exec) {pc : Nat} (pc' : Nat) {Ls : Array Slot} {S : List Value} {x y : Int64} (hd : decode c.code pc = .ok (.lsub, 1)) (h : own_Gs p e below Φ (T.setTop (mkF m pc' Ls (.long (x - y) :: S)))) (hp : pc + 1 = pc' := by rfl) : own_Gs p e below Φ (T.setTop (mkF m pc Ls (.long y :: .long x :: S))) := by
  subst hp; exact own_st (fun t k => XS.lsub X.here hx rfl hd rfl k) h
theorem own_imul {Φ : Outcome → State → Prop} (X : Stand p l e R s m args below meth c T locs cells slots) (hx : p.tables.exec = Jvm.exec) {pc : Nat} (pc' : Nat) {Ls : Array Slot} {S : List Value} {x y : Int32} (hd : decode c.code pc = .ok (.imul, 1)) (h : own_Gs p e below Φ (T.setTop (mkF m pc' Ls (.int (x * y) :: S)))) (hp : pc + 1 = pc' := by rfl) : own_Gs p e below Φ (T.setTop (mkF m pc Ls (.int y :: .int x :: S))) := by
  subst hp; exact own_st (fun t k => XS.imul X.here hx rfl hd rfl k) h
theorem own_lmul {Φ : Outcome → State → Prop} (X : Stand p l e R s m args below meth c T locs cells slots) (hx : p.tables.exec = Jvm.exec) {pc : Nat} (pc' : Nat) {Ls : Array Slot} {S : List Value} {x y : Int64} (hd : decode c.code pc = .ok (.lmul, 1)) (h : own_Gs p e below Φ (T.setTop (mkF m pc' Ls (.long (x * y) :: S)))) (hp : pc + 1 = pc' := by rfl) : own_Gs p e below Φ (T.setTop (mkF m pc Ls (.long y :: .long x :: S))) := by
  subst hp; exact own_st (fun t k => XS.lmul X.here hx rfl hd rfl k) h
theorem own_iand {Φ : Outcome → State → Prop} (X : Stand p l e R s m args below meth c T locs cells slots) (hx : p.tables.exec = Jvm.exec) {pc : Nat} (pc' : Nat) {Ls : Array Slot} {S : List Value} {x y : Int32} (hd : decode c.code pc = .ok (.iand, 1)) (h : own_Gs p e below Φ (T.setTop (mkF m pc' Ls (.int (x &&& y) :: S)))) (hp : pc + 1 = pc' := by rfl) : own_Gs p e below Φ (T.setTop (mkF m pc Ls (.int y :: .int x :: S))) := by
  subst hp; exact own_st (fun t k => XS.iand X.here hx rfl hd rfl k) h
theorem own_land {Φ : Outcome → State → Prop} (X : Stand p l e R s m args below meth c T locs cells slots) (hx : p.tables.exec = Jvm.exec) {pc : Nat} (pc' : Nat) {Ls : Array Slot} {S : List Value} {x y : Int64} (hd : decode c.code pc = .ok (.land, 1)) (h : own_Gs p e below Φ (T.setTop (mkF m pc' Ls (.long (x &&& y) :: S)))) (hp : pc + 1 = pc' := by rfl) : own_Gs p e below Φ (T.setTop (mkF m pc Ls (.long y :: .long x :: S))) := by
  subst hp; exact own_st (fun t k => XS.land X.here hx rfl hd rfl k) h
theorem own_ior {Φ : Outcome → State → Prop} (X : Stand p l e R s m args below meth c T locs cells slots) (hx : p.tables.exec = Jvm.exec) {pc : Nat} (pc' : Nat) {Ls : Array Slot} {S : List Value} {x y : Int32} (hd : decode c.code pc = .ok (.ior, 1)) (h : own_Gs p e below Φ (T.setTop (mkF m pc' Ls (.int (x ||| y) :: S)))) (hp : pc + 1 = pc' := by rfl) : own_Gs p e below Φ (T.setTop (mkF m pc Ls (.int y :: .int x :: S))) := by
  subst hp; exact own_st (fun t k => XS.ior X.here hx rfl hd rfl k) h
theorem own_lor {Φ : Outcome → State → Prop} (X : Stand p l e R s m args below meth c T locs cells slots) (hx : p.tables.exec = Jvm.exec) {pc : Nat} (pc' : Nat) {Ls : Array Slot} {S : List Value} {x y : Int64} (hd : decode c.code pc = .ok (.lor, 1)) (h : own_Gs p e below Φ (T.setTop (mkF m pc' Ls (.long (x ||| y) :: S)))) (hp : pc + 1 = pc' := by rfl) : own_Gs p e below Φ (T.setTop (mkF m pc Ls (.long y :: .long x :: S))) := by
  subst hp; exact own_st (fun t k => XS.lor X.here hx rfl hd rfl k) h
theorem own_ixor {Φ : Outcome → State → Prop} (X : Stand p l e R s m args below meth c T locs cells slots) (hx : p.tables.exec = Jvm.exec) {pc : Nat} (pc' : Nat) {Ls : Array Slot} {S : List Value} {x y : Int32} (hd : decode c.code pc = .ok (.ixor, 1)) (h : own_Gs p e below Φ (T.setTop (mkF m pc' Ls (.int (x ^^^ y) :: S)))) (hp : pc + 1 = pc' := by rfl) : own_Gs p e below Φ (T.setTop (mkF m pc Ls (.int y :: .int x :: S))) := by
  subst hp; exact own_st (fun t k => XS.ixor X.here hx rfl hd rfl k) h
theorem own_lxor {Φ : Outcome → State → Prop} (X : Stand p l e R s m args below meth c T locs cells slots) (hx : p.tables.exec = Jvm.exec) {pc : Nat} (pc' : Nat) {Ls : Array Slot} {S : List Value} {x y : Int64} (hd : decode c.code pc = .ok (.lxor, 1)) (h : own_Gs p e below Φ (T.setTop (mkF m pc' Ls (.long (x ^^^ y) :: S)))) (hp : pc + 1 = pc' := by rfl) : own_Gs p e below Φ (T.setTop (mkF m pc Ls (.long y :: .long x :: S))) := by
  subst hp; exact own_st (fun t k => XS.lxor X.here hx rfl hd rfl k) h
theorem own_idiv {Φ : Outcome → State → Prop} (X : Stand p l e R s m args below meth c T locs cells slots) (hx : p.tables.exec = Jvm.exec) {pc : Nat} (pc' : Nat) {Ls : Array Slot} {S : List Value} {x y : Int32} (hd : decode c.code pc = .ok (.idiv, 1)) (hy : y ≠ 0) (h : own_Gs p e below Φ (T.setTop (mkF m pc' Ls (.int (x / y) :: S)))) (hp : pc + 1 = pc' := by rfl) : own_Gs p e below Φ (T.setTop (mkF m pc Ls (.int y :: .int x :: S))) := by
  subst hp; exact own_st (fun t k => XS.idiv X.here hx rfl hd rfl hy k) h
theorem own_ldiv {Φ : Outcome → State → Prop} (X : Stand p l e R s m args below meth c T locs cells slots) (hx : p.tables.exec = Jvm.exec) {pc : Nat} (pc' : Nat) {Ls : Array Slot} {S : List Value} {x y : Int64} (hd : decode c.code pc = .ok (.ldiv, 1)) (hy : y ≠ 0) (h : own_Gs p e below Φ (T.setTop (mkF m pc' Ls (.long (x / y) :: S)))) (hp : pc + 1 = pc' := by rfl) : own_Gs p e below Φ (T.setTop (mkF m pc Ls (.long y :: .long x :: S))) := by
  subst hp; exact own_st (fun t k => XS.ldiv X.here hx rfl hd rfl hy k) h
theorem own_irem {Φ : Outcome → State → Prop} (X : Stand p l e R s m args below meth c T locs cells slots) (hx : p.tables.exec = Jvm.exec) {pc : Nat} (pc' : Nat) {Ls : Array Slot} {S : List Value} {x y : Int32} (hd : decode c.code pc = .ok (.irem, 1)) (hy : y ≠ 0) (h : own_Gs p e below Φ (T.setTop (mkF m pc' Ls (.int (x % y) :: S)))) (hp : pc + 1 = pc' := by rfl) : own_Gs p e below Φ (T.setTop (mkF m pc Ls (.int y :: .int x :: S))) := by
  subst hp; exact own_st (fun t k => iremM X hx rfl hd rfl hy k) h
theorem own_lrem {Φ : Outcome → State → Prop} (X : Stand p l e R s m args below meth c T locs cells slots) (hx : p.tables.exec = Jvm.exec) {pc : Nat} (pc' : Nat) {Ls : Array Slot} {S : List Value} {x y : Int64} (hd : decode c.code pc = .ok (.lrem, 1)) (hy : y ≠ 0) (h : own_Gs p e below Φ (T.setTop (mkF m pc' Ls (.long (x % y) :: S)))) (hp : pc + 1 = pc' := by rfl) : own_Gs p e below Φ (T.setTop (mkF m pc Ls (.long y :: .long x :: S))) := by
  subst hp; exact own_st (fun t k => XS.lrem X.here hx rfl hd rfl hy (by rw [lrem_mod]; exact k)) h
theorem own_ishl {Φ : Outcome → State → Prop} (X : Stand p l e R s m args below meth c T locs cells slots) (hx : p.tables.exec = Jvm.exec) {pc : Nat} (pc' : Nat) {Ls : Array Slot} {S : List Value} {x y : Int32} (hd : decode c.code pc = .ok (.ishl, 1)) (h : own_Gs p e below Φ (T.setTop (mkF m pc' Ls (.int (x <<< (y &&& 31)) :: S)))) (hp : pc + 1 = pc' := by rfl) : own_Gs p e below Φ (T.setTop (mkF m pc Ls (.int y :: .int x :: S))) := by
  subst hp; exact own_st (fun t k => XS.ishl X.here hx rfl hd rfl k) h
theorem own_ishr {Φ : Outcome → State → Prop} (X : Stand p l e R s m args below meth c T locs cells slots) (hx : p.tables.exec = Jvm.exec) {pc : Nat} (pc' : Nat) {Ls : Array Slot} {S : List Value} {x y : Int32} (hd : decode c.code pc = .ok (.ishr, 1)) (h : own_Gs p e below Φ (T.setTop (mkF m pc' Ls (.int (x >>> (y &&& 31)) :: S)))) (hp : pc + 1 = pc' := by rfl) : own_Gs p e below Φ (T.setTop (mkF m pc Ls (.int y :: .int x :: S))) := by
  subst hp; exact own_st (fun t k => XS.ishr X.here hx rfl hd rfl k) h
theorem own_iushr {Φ : Outcome → State → Prop} (X : Stand p l e R s m args below meth c T locs cells slots) (hx : p.tables.exec = Jvm.exec) {pc : Nat} (pc' : Nat) {Ls : Array Slot} {S : List Value} {x y : Int32} (hd : decode c.code pc = .ok (.iushr, 1)) (h : own_Gs p e below Φ (T.setTop (mkF m pc' Ls (.int ((x.toUInt32 >>> (y &&& 31).toUInt32).toInt32) :: S)))) (hp : pc + 1 = pc' := by rfl) : own_Gs p e below Φ (T.setTop (mkF m pc Ls (.int y :: .int x :: S))) := by
  subst hp; exact own_st (fun t k => XS.iushr X.here hx rfl hd rfl k) h
theorem own_lshl {Φ : Outcome → State → Prop} (X : Stand p l e R s m args below meth c T locs cells slots) (hx : p.tables.exec = Jvm.exec) {pc : Nat} (pc' : Nat) {Ls : Array Slot} {S : List Value} {x : Int64} {y : Int32} (hd : decode c.code pc = .ok (.lshl, 1)) (h : own_Gs p e below Φ (T.setTop (mkF m pc' Ls (.long (x <<< (y &&& 0x3f).toInt64) :: S)))) (hp : pc + 1 = pc' := by rfl) : own_Gs p e below Φ (T.setTop (mkF m pc Ls (.int y :: .long x :: S))) := by
  subst hp; exact own_st (fun t k => XS.lshl X.here hx rfl hd rfl k) h
theorem own_lshr {Φ : Outcome → State → Prop} (X : Stand p l e R s m args below meth c T locs cells slots) (hx : p.tables.exec = Jvm.exec) {pc : Nat} (pc' : Nat) {Ls : Array Slot} {S : List Value} {x : Int64} {y : Int32} (hd : decode c.code pc = .ok (.lshr, 1)) (h : own_Gs p e below Φ (T.setTop (mkF m pc' Ls (.long (x >>> (y &&& 0x3f).toInt64) :: S)))) (hp : pc + 1 = pc' := by rfl) : own_Gs p e below Φ (T.setTop (mkF m pc Ls (.int y :: .long x :: S))) := by
  subst hp; exact own_st (fun t k => XS.lshr X.here hx rfl hd rfl k) h
theorem own_lushr {Φ : Outcome → State → Prop} (X : Stand p l e R s m args below meth c T locs cells slots) (hx : p.tables.exec = Jvm.exec) {pc : Nat} (pc' : Nat) {Ls : Array Slot} {S : List Value} {x : Int64} {y : Int32} (hd : decode c.code pc = .ok (.lushr, 1)) (h : own_Gs p e below Φ (T.setTop (mkF m pc' Ls (.long ((x.toUInt64 >>> (y &&& 0x3f).toInt64.toUInt64).toInt64) :: S)))) (hp : pc + 1 = pc' := by rfl) : own_Gs p e below Φ (T.setTop (mkF m pc Ls (.int y :: .long x :: S))) := by
  subst hp; exact own_st (fun t k => XS.lushr X.here hx rfl hd rfl k) h
theorem own_ineg {Φ : Outcome → State → Prop} (X : Stand p l e R s m args below meth c T locs cells slots) (hx : p.tables.exec = Jvm.exec) {pc : Nat} (pc' : Nat) {Ls : Array Slot} {S : List Value} {x : Int32} (hd : decode c.code pc = .ok (.ineg, 1)) (h : own_Gs p e below Φ (T.setTop (mkF m pc' Ls (.int (-x) :: S)))) (hp : pc + 1 = pc' := by rfl) : own_Gs p e below Φ (T.setTop (mkF m pc Ls (.int x :: S))) := by
  subst hp; exact own_st (fun t k => XS.ineg X.here hx rfl hd rfl k) h
theorem own_lneg {Φ : Outcome → State → Prop} (X : Stand p l e R s m args below meth c T locs cells slots) (hx : p.tables.exec = Jvm.exec) {pc : Nat} (pc' : Nat) {Ls : Array Slot} {S : List Value} {x : Int64} (hd : decode c.code pc = .ok (.lneg, 1)) (h : own_Gs p e below Φ (T.setTop (mkF m pc' Ls (.long (-x) :: S)))) (hp : pc + 1 = pc' := by rfl) : own_Gs p e below Φ (T.setTop (mkF m pc Ls (.long x :: S))) := by
  subst hp; exact own_st (fun t k => XS.lneg X.here hx rfl hd rfl k) h
theorem own_i2l {Φ : Outcome → State → Prop} (X : Stand p l e R s m args below meth c T locs cells slots) (hx : p.tables.exec = Jvm.exec) {pc : Nat} (pc' : Nat) {Ls : Array Slot} {S : List Value} {x : Int32} (hd : decode c.code pc = .ok (.i2l, 1)) (h : own_Gs p e below Φ (T.setTop (mkF m pc' Ls (.long (x.toInt64) :: S)))) (hp : pc + 1 = pc' := by rfl) : own_Gs p e below Φ (T.setTop (mkF m pc Ls (.int x :: S))) := by
  subst hp; exact own_st (fun t k => XS.i2l X.here hx rfl hd rfl k) h
theorem own_l2i {Φ : Outcome → State → Prop} (X : Stand p l e R s m args below meth c T locs cells slots) (hx : p.tables.exec = Jvm.exec) {pc : Nat} (pc' : Nat) {Ls : Array Slot} {S : List Value} {x : Int64} (hd : decode c.code pc = .ok (.l2i, 1)) (h : own_Gs p e below Φ (T.setTop (mkF m pc' Ls (.int (x.toInt32) :: S)))) (hp : pc + 1 = pc' := by rfl) : own_Gs p e below Φ (T.setTop (mkF m pc Ls (.long x :: S))) := by
  subst hp; exact own_st (fun t k => XS.l2i X.here hx rfl hd rfl k) h
theorem own_i2b {Φ : Outcome → State → Prop} (X : Stand p l e R s m args below meth c T locs cells slots) (hx : p.tables.exec = Jvm.exec) {pc : Nat} (pc' : Nat) {Ls : Array Slot} {S : List Value} {x : Int32} (hd : decode c.code pc = .ok (.i2b, 1)) (h : own_Gs p e below Φ (T.setTop (mkF m pc' Ls (.int (x.toInt8.toInt32) :: S)))) (hp : pc + 1 = pc' := by rfl) : own_Gs p e below Φ (T.setTop (mkF m pc Ls (.int x :: S))) := by
  subst hp; exact own_st (fun t k => XS.i2b X.here hx rfl hd rfl k) h
theorem own_i2s {Φ : Outcome → State → Prop} (X : Stand p l e R s m args below meth c T locs cells slots) (hx : p.tables.exec = Jvm.exec) {pc : Nat} (pc' : Nat) {Ls : Array Slot} {S : List Value} {x : Int32} (hd : decode c.code pc = .ok (.i2s, 1)) (h : own_Gs p e below Φ (T.setTop (mkF m pc' Ls (.int (x.toInt16.toInt32) :: S)))) (hp : pc + 1 = pc' := by rfl) : own_Gs p e below Φ (T.setTop (mkF m pc Ls (.int x :: S))) := by
  subst hp; exact own_st (fun t k => XS.i2s X.here hx rfl hd rfl k) h
theorem own_i2c {Φ : Outcome → State → Prop} (X : Stand p l e R s m args below meth c T locs cells slots) (hx : p.tables.exec = Jvm.exec) {pc : Nat} (pc' : Nat) {Ls : Array Slot} {S : List Value} {x : Int32} (hd : decode c.code pc = .ok (.i2c, 1)) (h : own_Gs p e below Φ (T.setTop (mkF m pc' Ls (.int (x.toUInt32.toUInt16.toUInt32.toInt32) :: S)))) (hp : pc + 1 = pc' := by rfl) : own_Gs p e below Φ (T.setTop (mkF m pc Ls (.int x :: S))) := by
  subst hp; exact own_st (fun t k => XS.i2c X.here hx rfl hd rfl k) h
theorem own_lcmp {Φ : Outcome → State → Prop} (X : Stand p l e R s m args below meth c T locs cells slots) (hx : p.tables.exec = Jvm.exec) {pc : Nat} (pc' : Nat) {Ls : Array Slot} {S : List Value} {x y : Int64} (hd : decode c.code pc = .ok (.lcmp, 1)) (h : own_Gs p e below Φ (T.setTop (mkF m pc' Ls (.int (lcmpW x y) :: S)))) (hp : pc + 1 = pc' := by rfl) : own_Gs p e below Φ (T.setTop (mkF m pc Ls (.long y :: .long x :: S))) := by
  subst hp; exact own_st (fun t k => XS.lcmp X.here hx rfl hd rfl k) h
theorem own_iinc {Φ : Outcome → State → Prop} (X : Stand p l e R s m args below meth c T locs cells slots) (hx : p.tables.exec = Jvm.exec) {pc : Nat} (pc' : Nat) {Ls : Array Slot} {S : List Value} {i : Nat} {cst : Int} {x : Int32} (z : Int32) (l' : Array Slot) (hd : decode c.code pc = .ok (.iinc i cst, 3)) (hl : Ls[i]? = some (.val (.int x))) (hz : Int32.ofInt cst = z) (hl' : storeLocals Ls i (.int (x + z)) = some l') (h : own_Gs p e below Φ (T.setTop (mkF m pc' l' (S)))) (hp : pc + 3 = pc' := by rfl) : own_Gs p e below Φ (T.setTop (mkF m pc Ls (S))) := by
  subst hp; exact own_st (fun t k => XS.iinc X.here hx rfl hd hl (hz ▸ hl') k) h
theorem own_dup {Φ : Outcome → State → Prop} (X : Stand p l e R s m args below meth c T locs cells slots) (hx : p.tables.exec = Jvm.exec) {pc : Nat} (pc' : Nat) {Ls : Array Slot} {S : List Value} {v : Value} (hd : decode c.code pc = .ok (.dup, 1)) (hc : v.category = 1) (h : own_Gs p e below Φ (T.setTop (mkF m pc' Ls (v :: v :: S)))) (hp : pc + 1 = pc' := by rfl) : own_Gs p e below Φ (T.setTop (mkF m pc Ls (v :: S))) := by
  subst hp; exact own_st (fun t k => XS.dup X.here hx rfl hd rfl hc k) h
theorem own_pop {Φ : Outcome → State → Prop} (X : Stand p l e R s m args below meth c T locs cells slots) (hx : p.tables.exec = Jvm.exec) {pc : Nat} (pc' : Nat) {Ls : Array Slot} {S : List Value} {v : Value} (hd : decode c.code pc = .ok (.pop, 1)) (hc : v.category = 1) (h : own_Gs p e below Φ (T.setTop (mkF m pc' Ls (S)))) (hp : pc + 1 = pc' := by rfl) : own_Gs p e below Φ (T.setTop (mkF m pc Ls (v :: S))) := by
  subst hp; exact own_st (fun t k => XS.pop X.here hx rfl hd rfl hc k) h
theorem own_dupX1 {Φ : Outcome → State → Prop} (X : Stand p l e R s m args below meth c T locs cells slots) (hx : p.tables.exec = Jvm.exec) {pc : Nat} (pc' : Nat) {Ls : Array Slot} {S : List Value} {v w : Value} (hd : decode c.code pc = .ok (.dup_x1, 1)) (hc : v.category = 1) (hc' : w.category = 1) (h : own_Gs p e below Φ (T.setTop (mkF m pc' Ls (v :: w :: v :: S)))) (hp : pc + 1 = pc' := by rfl) : own_Gs p e below Φ (T.setTop (mkF m pc Ls (v :: w :: S))) := by
  subst hp; exact own_st (fun t k => XS.dupX1 X.here hx rfl hd rfl hc hc' k) h
theorem own_dup2 {Φ : Outcome → State → Prop} (X : Stand p l e R s m args below meth c T locs cells slots) (hx : p.tables.exec = Jvm.exec) {pc : Nat} (pc' : Nat) {Ls : Array Slot} {S : List Value} {v w : Value} (hd : decode c.code pc = .ok (.dup2, 1)) (hc : v.category = 1) (hc' : w.category = 1) (h : own_Gs p e below Φ (T.setTop (mkF m pc' Ls (v :: w :: v :: w :: S)))) (hp : pc + 1 = pc' := by rfl) : own_Gs p e below Φ (T.setTop (mkF m pc Ls (v :: w :: S))) := by
  subst hp; exact own_st (fun t k => Jvm.Free.XT.dup2 X.here hx rfl hd rfl hc hc' k) h
theorem own_dup2L {Φ : Outcome → State → Prop} (X : Stand p l e R s m args below meth c T locs cells slots) (hx : p.tables.exec = Jvm.exec) {pc : Nat} (pc' : Nat) {Ls : Array Slot} {S : List Value} {x : Int64} (hd : decode c.code pc = .ok (.dup2, 1)) (h : own_Gs p e below Φ (T.setTop (mkF m pc' Ls (.long x :: .long x :: S)))) (hp : pc + 1 = pc' := by rfl) : own_Gs p e below Φ (T.setTop (mkF m pc Ls (.long x :: S))) := by
  subst hp; exact own_st (fun t k => Jvm.Free.XT.dup2L X.here hx rfl hd rfl k) h
theorem own_goto {Φ : Outcome → State → Prop} (X : Stand p l e R s m args below meth c T locs cells slots) (hx : p.tables.exec = Jvm.exec) {pc : Nat} (pc' : Nat) {Ls : Array Slot} {S : List Value} {o : Int}  (hd : decode c.code pc = .ok (.goto o, 3)) (h : own_Gs p e below Φ (T.setTop (mkF m pc' Ls S))) (hp : decide (0 ≤ (pc : Int) + o ∧ ((pc : Int) + o).toNat = pc') = true := by rfl) : own_Gs p e below Φ (T.setTop (mkF m pc Ls (S))) := by
  have q := of_decide_eq_true hp; exact own_st (fun t k => XS.goto X.here hx rfl (pc0 := pc) (pc' := pc') rfl hd q.1 q.2 k) h
theorem own_ifYes {Φ : Outcome → State → Prop} (X : Stand p l e R s m args below meth c T locs cells slots) (hx : p.tables.exec = Jvm.exec) {pc : Nat} (pc' : Nat) {Ls : Array Slot} {S : List Value} {o : Int} {cd : ClassFile.Cond} {x : Int32} (hd : decode c.code pc = .ok (.ifCond cd o, 3)) (hc : if_icmp.holds cd x 0 = true) (h : own_Gs p e below Φ (T.setTop (mkF m pc' Ls S))) (hp : decide (0 ≤ (pc : Int) + o ∧ ((pc : Int) + o).toNat = pc') = true := by rfl) : own_Gs p e below Φ (T.setTop (mkF m pc Ls (.int x :: S))) := by
  have q := of_decide_eq_true hp; exact own_st (fun t k => XS.ifYes X.here hx rfl (pc0 := pc) (pc' := pc') rfl hd rfl ((if0 _ _).trans hc) q.1 q.2 k) h
theorem own_ifNo {Φ : Outcome → State → Prop} (X : Stand p l e R s m args below meth c T locs cells slots) (hx : p.tables.exec = Jvm.exec) {pc : Nat} (pc' : Nat) {Ls : Array Slot} {S : List Value} {o : Int} {cd : ClassFile.Cond} {x : Int32} (hd : decode c.code pc = .ok (.ifCond cd o, 3)) (hc : if_icmp.holds cd x 0 = false) (h : own_Gs p e below Φ (T.setTop (mkF m pc' Ls S))) (hp : pc + 3 = pc' := by rfl) : own_Gs p e below Φ (T.setTop (mkF m pc Ls (.int x :: S))) := by
  subst hp; exact own_st (fun t k => XS.ifNo X.here hx rfl hd rfl ((if0 _ _).trans hc) k) h
theorem own_icmpYes {Φ : Outcome → State → Prop} (X : Stand p l e R s m args below meth c T locs cells slots) (hx : p.tables.exec = Jvm.exec) {pc : Nat} (pc' : Nat) {Ls : Array Slot} {S : List Value} {o : Int} {cd : ClassFile.Cond} {x y : Int32} (hd : decode c.code pc = .ok (.if_icmp cd o, 3)) (hc : if_icmp.holds cd x y = true) (h : own_Gs p e below Φ (T.setTop (mkF m pc' Ls S))) (hp : decide (0 ≤ (pc : Int) + o ∧ ((pc : Int) + o).toNat = pc') = true := by rfl) : own_Gs p e below Φ (T.setTop (mkF m pc Ls (.int y :: .int x :: S))) := by
  have q := of_decide_eq_true hp; exact own_st (fun t k => XS.icmpYes X.here hx rfl (pc0 := pc) (pc' := pc') rfl hd rfl hc q.1 q.2 k) h
theorem own_icmpNo {Φ : Outcome → State → Prop} (X : Stand p l e R s m args below meth c T locs cells slots) (hx : p.tables.exec = Jvm.exec) {pc : Nat} (pc' : Nat) {Ls : Array Slot} {S : List Value} {o : Int} {cd : ClassFile.Cond} {x y : Int32} (hd : decode c.code pc = .ok (.if_icmp cd o, 3)) (hc : if_icmp.holds cd x y = false) (h : own_Gs p e below Φ (T.setTop (mkF m pc' Ls S))) (hp : pc + 3 = pc' := by rfl) : own_Gs p e below Φ (T.setTop (mkF m pc Ls (.int y :: .int x :: S))) := by
  subst hp; exact own_st (fun t k => XS.icmpNo X.here hx rfl hd rfl hc k) h
theorem own_ifnullYes {Φ : Outcome → State → Prop} (X : Stand p l e R s m args below meth c T locs cells slots) (hx : p.tables.exec = Jvm.exec) {pc : Nat} (pc' : Nat) {Ls : Array Slot} {S : List Value} {o : Int}  (hd : decode c.code pc = .ok (.ifnull o, 3)) (h : own_Gs p e below Φ (T.setTop (mkF m pc' Ls S))) (hp : decide (0 ≤ (pc : Int) + o ∧ ((pc : Int) + o).toNat = pc') = true := by rfl) : own_Gs p e below Φ (T.setTop (mkF m pc Ls (.null :: S))) := by
  have q := of_decide_eq_true hp; exact own_st (fun t k => XS.ifnullYes X.here hx rfl (pc0 := pc) (pc' := pc') rfl hd rfl q.1 q.2 k) h
theorem own_ifnullNo {Φ : Outcome → State → Prop} (X : Stand p l e R s m args below meth c T locs cells slots) (hx : p.tables.exec = Jvm.exec) {pc : Nat} (pc' : Nat) {Ls : Array Slot} {S : List Value} {o : Int} {b : Addr} (hd : decode c.code pc = .ok (.ifnull o, 3)) (h : own_Gs p e below Φ (T.setTop (mkF m pc' Ls S))) (hp : pc + 3 = pc' := by rfl) : own_Gs p e below Φ (T.setTop (mkF m pc Ls (.ref b :: S))) := by
  subst hp; exact own_st (fun t k => XS.ifnullNo X.here hx rfl hd rfl k) h
theorem own_ifnonnullYes {Φ : Outcome → State → Prop} (X : Stand p l e R s m args below meth c T locs cells slots) (hx : p.tables.exec = Jvm.exec) {pc : Nat} (pc' : Nat) {Ls : Array Slot} {S : List Value} {o : Int} {b : Addr} (hd : decode c.code pc = .ok (.ifnonnull o, 3)) (h : own_Gs p e below Φ (T.setTop (mkF m pc' Ls S))) (hp : decide (0 ≤ (pc : Int) + o ∧ ((pc : Int) + o).toNat = pc') = true := by rfl) : own_Gs p e below Φ (T.setTop (mkF m pc Ls (.ref b :: S))) := by
  have q := of_decide_eq_true hp; exact own_st (fun t k => XS.ifnonnullYes X.here hx rfl (pc0 := pc) (pc' := pc') rfl hd rfl q.1 q.2 k) h
theorem own_ifnonnullNo {Φ : Outcome → State → Prop} (X : Stand p l e R s m args below meth c T locs cells slots) (hx : p.tables.exec = Jvm.exec) {pc : Nat} (pc' : Nat) {Ls : Array Slot} {S : List Value} {o : Int}  (hd : decode c.code pc = .ok (.ifnonnull o, 3)) (h : own_Gs p e below Φ (T.setTop (mkF m pc' Ls S))) (hp : pc + 3 = pc' := by rfl) : own_Gs p e below Φ (T.setTop (mkF m pc Ls (.null :: S))) := by
  subst hp; exact own_st (fun t k => XS.ifnonnullNo X.here hx rfl hd rfl k) h
theorem own_acmp {Φ : Outcome → State → Prop} (X : Stand p l e R s m args below meth c T locs cells slots) (hx : p.tables.exec = Jvm.exec) {pc : Nat} (pc' : Nat) {Ls : Array Slot} {S : List Value} {o : Int} {cd : ACond} {v w : Value} (same : Bool) (hd : decode c.code pc = .ok (.if_acmp cd o, 3)) (h1 : v.isRef = true) (h2 : w.isRef = true) (hq : decide (v = w) = same) (h : own_Gs p e below Φ (T.setTop (mkF m pc' Ls S))) (hp : decide (0 ≤ (pc : Int) + o ∧ pc' = if acV cd same = true then ((pc : Int) + o).toNat else pc + 3) = true := by rfl) : own_Gs p e below Φ (T.setTop (mkF m pc Ls (w :: v :: S))) := by
  have q := of_decide_eq_true hp; exact own_st (fun t k => Jvm.RoadKit.acmp (g := mkF m pc Ls (w :: v :: S)) X hx rfl h1 h2 (pc0 := pc) (pc' := pc') (same := same) rfl hd rfl hq q.1 q.2 k) h
theorem own_ldcI {Φ : Outcome → State → Prop} (X : Stand p l e R s m args below meth c T locs cells slots) (hx : p.tables.exec = Jvm.exec) {pc : Nat} (pc' : Nat) {Ls : Array Slot} {S : List Value} {own : String} {index : Nat} {v : Int32} (hown : s.vm.findClass own = some m.cls) (hw : (Jvm.Cond.constant own index v).before args s = true) (hd : decode c.code pc = .ok (.ldc index, 2)) (h : own_Gs p e below Φ (T.setTop (mkF m pc' Ls (.int v :: S)))) (hp : pc + 2 = pc' := by rfl) : own_Gs p e below Φ (T.setTop (mkF m pc Ls S)) := by
  subst hp; exact own_st (fun t k => X.ldcInt hx hown hw (g := mkF m pc Ls S) rfl hd _ k) h
theorem own_ldcwI {Φ : Outcome → State → Prop} (X : Stand p l e R s m args below meth c T locs cells slots) (hx : p.tables.exec = Jvm.exec) {pc : Nat} (pc' : Nat) {Ls : Array Slot} {S : List Value} {own : String} {index : Nat} {v : Int32} (hown : s.vm.findClass own = some m.cls) (hw : (Jvm.Cond.constant own index v).before args s = true) (hd : decode c.code pc = .ok (.ldc_w index, 3)) (h : own_Gs p e below Φ (T.setTop (mkF m pc' Ls (.int v :: S)))) (hp : pc + 3 = pc' := by rfl) : own_Gs p e below Φ (T.setTop (mkF m pc Ls S)) := by
  subst hp; exact own_st (fun t k => X.ldcwInt hx hown hw (g := mkF m pc Ls S) rfl hd _ k) h
theorem own_ldcL {Φ : Outcome → State → Prop} (X : Stand p l e R s m args below meth c T locs cells slots) (hx : p.tables.exec = Jvm.exec) {pc : Nat} (pc' : Nat) {Ls : Array Slot} {S : List Value} {own : String} {index : Nat} {v : Int64} (hown : s.vm.findClass own = some m.cls) (hw : (Jvm.Cond.constantLong own index v).before args s = true) (hd : decode c.code pc = .ok (.ldc2_w index, 3)) (h : own_Gs p e below Φ (T.setTop (mkF m pc' Ls (.long v :: S)))) (hp : pc + 3 = pc' := by rfl) : own_Gs p e below Φ (T.setTop (mkF m pc Ls S)) := by
  subst hp; exact own_st (fun t k => X.ldc2Long hx hown hw (g := mkF m pc Ls S) rfl hd _ k) h
theorem own_pop2L {Φ : Outcome → State → Prop} (X : Stand p l e R s m args below meth c T locs cells slots) (hx : p.tables.exec = Jvm.exec) {pc : Nat} (pc' : Nat) {Ls : Array Slot} {S : List Value} {x : Int64} (hd : decode c.code pc = .ok (.pop2, 1)) (h : own_Gs p e below Φ (T.setTop (mkF m pc' Ls S))) (hp : pc + 1 = pc' := by rfl) : own_Gs p e below Φ (T.setTop (mkF m pc Ls (.long x :: S))) := by
  subst hp
  refine own_st (fun t k => ?_) h
  show Steps p.tables e below (T.setTop { method := m, pc := pc, locals := Ls, stack := .long x :: S, locked := none }) _
  jvm_step X.here [X.here.top, hx, hd, Value.category]
  exact k
-- end of steps
theorem own_leafI {z w : Int32} (h : z = w) : some (Value.int z) = some (Value.int w) := by rw [h]
theorem own_leafJ {z w : Int64} (h : z = w) : some (Value.long z) = some (Value.long w) := by rw [h]
theorem own_leafR {z w : Addr} (h : z = w) : some (Value.ref z) = some (Value.ref w) := by rw [h]
theorem own_selfsel {Z s : State} {a0 args : Array Value} {y : MethodName} {n : Nat} (hZ : Z.Warmed39 s.vm) (wi : (Jvm.Cond.instantiable y.cls n).before a0 Z = true) (wm : (Jvm.Cond.instanceMethod y).before a0 Z = true) (wp : (Jvm.Cond.privateMethod y).before a0 Z = true) (hy : y.cls ≠ "java/lang/invoke/MethodHandle" ∧ y.cls ≠ "java/lang/invoke/VarHandle") : (Jvm.Cond.selects y.cls y y).before args s = true := by
  have wi' : (Jvm.Cond.instantiable y.cls n).before args s = true := mvT hZ wi
  obtain ⟨c, k, h1, h2, h3, h4, h5, h6⟩ := Cond.instantiable_spec wi'
  exact selects_self_of_private h1 h2 (by simp only [Bool.or_eq_false_iff] at h4; exact h4.1) (Cond.privateMethod_at (mvP hZ wp (args := #[]))) (mvT hZ wm) hy
theorem own_sta {Z : State} {a0 : Array Value} {C n d K : String} (hx : (Jvm.Cond.exactly (Term.static C n d) K).value a0 Z none Z [] = some true) (hi : (Jvm.Cond.initializedFor C n d).before a0 Z = true ∨ ((Jvm.Cond.initialized C).before a0 Z = true ∧ (Jvm.Cond.laysStatic C n d).before a0 Z = true)) :
    ∃ a : Addr, (Term.static C n d).eval a0 Z none [] Z = some (.ref a) ∧ Sta Z Z.heap C n d (.ref a) ∧ Exa Z Z.heap a K := by
  obtain ⟨a, ha⟩ := exa_v hx
  exact ⟨a, ha, Sta.start ha hi, Exa.start ha hx⟩
theorem own_fldI {Z : State} {a0 : Array Value} {t : Term} {a : Addr} {C n d : String} {k : Int32} (ev : t.eval a0 Z none [] Z = some (.ref a)) (h : (Jvm.Cond.eq (Term.field t C n d) (Term.int k)).value a0 Z none Z [] = some true) : Fld Z Z.heap a C n d (.int k) := by
  refine Fld.start ?_
  rw [← fld_at (args := a0) (first := Z) (o := none) (idx := []) ev]
  obtain ⟨x, y, h1, h2, h3, h4⟩ := cmp_v (Or.inl h)
  rw [Term.int_eval] at h2
  cases h2
  obtain ⟨z, rfl⟩ := h4
  have q : (Jvm.Cond.eq (Term.field t C n d) (Term.int k)).value a0 Z none Z [] = some (decide (z = k)) := Cond.eq_ints h1 (Term.int_eval k)
  rw [h1, gotT q h]
end Own
theorem own_d1_0 : decode prog_22_method_5_code 0 = .ok (.aload_n 0, 1) := by decide +kernel
theorem own_d1_1 : decode prog_22_method_5_code 1 = .ok (.getstatic 7, 3) := by decide +kernel
theorem own_d1_4 : decode prog_22_method_5_code 4 = .ok (.if_acmp .eq 7, 3) := by decide +kernel
theorem own_d1_7 : decode prog_22_method_5_code 7 = .ok (.iconst 1, 1) := by decide +kernel
theorem own_d1_8 : decode prog_22_method_5_code 8 = .ok (.goto 4, 3) := by decide +kernel
theorem own_d1_11 : decode prog_22_method_5_code 11 = .ok (.iconst 0, 1) := by decide +kernel
theorem own_d1_12 : decode prog_22_method_5_code 12 = .ok (.ireturn, 1) := by decide +kernel
theorem own_pn0 : plainName "com/example/kalends/kalends/Form" = true := by first | (simp [plainName, overriddenIn]; done) | decide +kernel
theorem own_ef1 (m : MethodId) (o1 : Addr) : entryFrame m #[(.ref o1)] 1 = mkF m 0 #[.val (.ref o1)] [] := by first | (simp [entryFrame, mkF, argsToLocals, Value.category]; done) | rfl
def own_car (o1 : Addr) (w_COUNTS : Addr) : Int32 := (if o1 = w_COUNTS then (0 : Int32) else (1 : Int32))
def own_Q1 (Z : State) (w_CONTRASTS : Addr) (w_COUNTS : Addr) (w_DEVIATIONS : Addr) (S_w_CONTRASTS : Sta Z Z.heap "com/example/kalends/kalends/Form" "CONTRASTS" "Lcom/example/kalends/kalends/Form;" (.ref w_CONTRASTS)) (S_w_COUNTS : Sta Z Z.heap "com/example/kalends/kalends/Form" "COUNTS" "Lcom/example/kalends/kalends/Form;" (.ref w_COUNTS)) (S_w_DEVIATIONS : Sta Z Z.heap "com/example/kalends/kalends/Form" "DEVIATIONS" "Lcom/example/kalends/kalends/Form;" (.ref w_DEVIATIONS)) (E_w_CONTRASTS : Exa Z Z.heap w_CONTRASTS "com/example/kalends/kalends/Form") (E_w_COUNTS : Exa Z Z.heap w_COUNTS "com/example/kalends/kalends/Form") (F_ordinal_w_CONTRASTS : Fld Z Z.heap w_CONTRASTS "java/lang/Enum" "ordinal" "I" (.int (0 : Int32))) (F_ordinal_w_COUNTS : Fld Z Z.heap w_COUNTS "java/lang/Enum" "ordinal" "I" (.int (1 : Int32))) (E_w_DEVIATIONS : Exa Z Z.heap w_DEVIATIONS "com/example/kalends/kalends/Form") (F_ordinal_w_DEVIATIONS : Fld Z Z.heap w_DEVIATIONS "java/lang/Enum" "ordinal" "I" (.int (2 : Int32))) (ne_w_CONTRASTS_w_COUNTS : w_CONTRASTS ≠ w_COUNTS) (ne_w_CONTRASTS_w_DEVIATIONS : w_CONTRASTS ≠ w_DEVIATIONS) (ne_w_COUNTS_w_DEVIATIONS : w_COUNTS ≠ w_DEVIATIONS) (o1 : Addr) (h0 : Heap) (n0 : Nat) (v : Option Value) (h : Heap) (L : List Loc) : Prop := v = some (.int (own_car o1 w_COUNTS)) ∧ Fr n0 L ∧ h = h0
set_option maxRecDepth 65536 in
set_option maxHeartbeats 40000000 in
theorem own_rm1 (l : Launch) (Z : State) (a0 : Array Value) (hw : ∀ d ∈ tables_1, d.before a0 Z = true) (ws : List Jvm.Cond) (w_CONTRASTS : Addr) (w_COUNTS : Addr) (w_DEVIATIONS : Addr) (S_w_CONTRASTS : Sta Z Z.heap "com/example/kalends/kalends/Form" "CONTRASTS" "Lcom/example/kalends/kalends/Form;" (.ref w_CONTRASTS)) (S_w_COUNTS : Sta Z Z.heap "com/example/kalends/kalends/Form" "COUNTS" "Lcom/example/kalends/kalends/Form;" (.ref w_COUNTS)) (S_w_DEVIATIONS : Sta Z Z.heap "com/example/kalends/kalends/Form" "DEVIATIONS" "Lcom/example/kalends/kalends/Form;" (.ref w_DEVIATIONS)) (E_w_CONTRASTS : Exa Z Z.heap w_CONTRASTS "com/example/kalends/kalends/Form") (E_w_COUNTS : Exa Z Z.heap w_COUNTS "com/example/kalends/kalends/Form") (F_ordinal_w_CONTRASTS : Fld Z Z.heap w_CONTRASTS "java/lang/Enum" "ordinal" "I" (.int (0 : Int32))) (F_ordinal_w_COUNTS : Fld Z Z.heap w_COUNTS "java/lang/Enum" "ordinal" "I" (.int (1 : Int32))) (E_w_DEVIATIONS : Exa Z Z.heap w_DEVIATIONS "com/example/kalends/kalends/Form") (F_ordinal_w_DEVIATIONS : Fld Z Z.heap w_DEVIATIONS "java/lang/Enum" "ordinal" "I" (.int (2 : Int32))) (ne_w_CONTRASTS_w_COUNTS : w_CONTRASTS ≠ w_COUNTS) (ne_w_CONTRASTS_w_DEVIATIONS : w_CONTRASTS ≠ w_DEVIATIONS) (ne_w_COUNTS_w_DEVIATIONS : w_COUNTS ≠ w_DEVIATIONS) (o1 : Addr) (h0 : Heap) (n0 : Nat) (Z0 : n0 ≤ h0.size) (O0 : Old Z n0 h0) :
    MetFree l (⟨"com/example/kalends/kalends/Form", "carriesHolidayMeans", "()Z"⟩ : MethodName) (head1 (Jvm.Cond.code (⟨"com/example/kalends/kalends/Form", "carriesHolidayMeans", "()Z"⟩ : MethodName) prog_22_method_5_code 1 (some .boolean) :: ws) ({ frames := 0, cells := 0, slots := 0, locals := 0 } : Room)) (fun a U => a = #[(.ref o1)] ∧ Z.Warmed39 U.vm ∧ U.heap = h0) (fun _ _ _ _ _ => True) (fun _ U o U' => ∃ v L, o = .returned v ∧ own_Q1 Z w_CONTRASTS w_COUNTS w_DEVIATIONS S_w_CONTRASTS S_w_COUNTS S_w_DEVIATIONS E_w_CONTRASTS E_w_COUNTS F_ordinal_w_CONTRASTS F_ordinal_w_COUNTS E_w_DEVIATIONS F_ordinal_w_DEVIATIONS ne_w_CONTRASTS_w_COUNTS ne_w_CONTRASTS_w_DEVIATIONS ne_w_COUNTS_w_DEVIATIONS o1 h0 n0 v U'.heap L ∧ FrameEnd U o U' L ({ frames := 0, cells := 0, slots := 0, locals := 0 } : Room).cells ({ frames := 0, cells := 0, slots := 0, locals := 0 } : Room).slots) := by
  refine MetFree.of_bodySF (plainFor_of_name own_pn0) hisR ?_
  intro p e s m args below meth c s₁ Bd hml0 hP hK
  obtain ⟨rfl, hZ, hh⟩ := hP
  have hx := Bd.exec
  have hby := Bd.bytes
  have hlk := Bd.notSynchronized
  have hrt := Bd.returns
  have hml : c.maxLocals = 1 := hml0
  have hown : s.vm.findClass "com/example/kalends/kalends/Form" = some m.cls := findClass_of_methodNamed Bd.named
  have hnm := (name_of_methodNamed Bd.named Bd.method).1
  have X0 : Stand p l e ({ frames := 0, cells := 0, slots := 0, locals := 0 } : Room) s m #[(.ref o1)] below meth c s₁ [] 0 0 := Stand.of_body Bd
  have e0 : s₁.heap = h0 := by rw [← hh, Bd.state]; rfl
  have N0 := Fr.nil n0
  refine own_in (own_ef1 m o1) ?_
  refine own_aloadN X0 hx 1 (hb hby own_d1_0) rfl rfl ?_
  obtain ⟨T1, X1, e1, st1⟩ := getS2 X0 hx hZ hown (host := "") (Or.inl (hw _ (List.mem_of_getElem? (i := 9) rfl))) Via.refl e0 (S_w_COUNTS.ext O0.2) (g := (mkF m 1 #[.val (.ref o1)] [(.ref o1)])) rfl (hb hby own_d1_1)
  refine own_st (G' := T1.setTop (mkF m 4 #[.val (.ref o1)] [(.ref w_COUNTS), (.ref o1)])) st1 ?_
  by_cases hc4_2 : o1 = w_COUNTS
  · refine own_acmp X1 hx 11 true (hb hby own_d1_4) rfl rfl (decide_eq_true (congrArg Value.ref hc4_2)) ?_
    refine own_iconst X1 hx 12 (0 : Int32) (hb hby own_d1_11) rfl ?_
    exact own_retN (t := .boolean) (z := (0 : Int32)) (Q := own_Q1 Z w_CONTRASTS w_COUNTS w_DEVIATIONS S_w_CONTRASTS S_w_COUNTS S_w_DEVIATIONS E_w_CONTRASTS E_w_COUNTS F_ordinal_w_CONTRASTS F_ordinal_w_COUNTS E_w_DEVIATIONS F_ordinal_w_DEVIATIONS ne_w_CONTRASTS_w_COUNTS ne_w_CONTRASTS_w_DEVIATIONS ne_w_COUNTS_w_DEVIATIONS o1 h0 n0) X1 hx hrt (by simp) (hb hby own_d1_12) hlk e1 ⟨(own_leafI (show (0 : Int32) = own_car o1 w_COUNTS from by unfold own_car; rw [if_pos hc4_2])), N0, rfl⟩ (by decide) (by decide)
  · refine own_acmp X1 hx 7 false (hb hby own_d1_4) rfl rfl (decide_eq_false fun q => hc4_2 (Value.ref.inj q)) ?_
    refine own_iconst X1 hx 8 (1 : Int32) (hb hby own_d1_7) rfl ?_
    refine own_goto X1 hx 12 (hb hby own_d1_8) ?_
    exact own_retN (t := .boolean) (z := (1 : Int32)) (Q := own_Q1 Z w_CONTRASTS w_COUNTS w_DEVIATIONS S_w_CONTRASTS S_w_COUNTS S_w_DEVIATIONS E_w_CONTRASTS E_w_COUNTS F_ordinal_w_CONTRASTS F_ordinal_w_COUNTS E_w_DEVIATIONS F_ordinal_w_DEVIATIONS ne_w_CONTRASTS_w_COUNTS ne_w_CONTRASTS_w_DEVIATIONS ne_w_COUNTS_w_DEVIATIONS o1 h0 n0) X1 hx hrt (by simp) (hb hby own_d1_12) hlk e1 ⟨(own_leafI (show (1 : Int32) = own_car o1 w_COUNTS from by unfold own_car; rw [if_neg hc4_2])), N0, rfl⟩ (by decide) (by decide)
theorem own_pn1 : plainName "com/example/kalends/kalends/FormCarriesHolidayMeansPinLaw" = true := by first | (simp [plainName, overriddenIn]; done) | decide +kernel
theorem own_pd0 : parseMethodDescriptor "()Z" = some ⟨[], some .boolean⟩ := by decide +kernel
theorem own_ef0 (m : MethodId) (v0 : Int32) : entryFrame m #[(.int v0)] maxLocals = mkF m 0 #[.val (.int v0), .unset, .unset, .unset] [] := by first | (simp [entryFrame, mkF, argsToLocals, Value.category, maxLocals]; done) | rfl
def own_Q0 (Z : State) (w_CONTRASTS : Addr) (w_COUNTS : Addr) (w_DEVIATIONS : Addr) (S_w_CONTRASTS : Sta Z Z.heap "com/example/kalends/kalends/Form" "CONTRASTS" "Lcom/example/kalends/kalends/Form;" (.ref w_CONTRASTS)) (S_w_COUNTS : Sta Z Z.heap "com/example/kalends/kalends/Form" "COUNTS" "Lcom/example/kalends/kalends/Form;" (.ref w_COUNTS)) (S_w_DEVIATIONS : Sta Z Z.heap "com/example/kalends/kalends/Form" "DEVIATIONS" "Lcom/example/kalends/kalends/Form;" (.ref w_DEVIATIONS)) (E_w_CONTRASTS : Exa Z Z.heap w_CONTRASTS "com/example/kalends/kalends/Form") (E_w_COUNTS : Exa Z Z.heap w_COUNTS "com/example/kalends/kalends/Form") (F_ordinal_w_CONTRASTS : Fld Z Z.heap w_CONTRASTS "java/lang/Enum" "ordinal" "I" (.int (0 : Int32))) (F_ordinal_w_COUNTS : Fld Z Z.heap w_COUNTS "java/lang/Enum" "ordinal" "I" (.int (1 : Int32))) (E_w_DEVIATIONS : Exa Z Z.heap w_DEVIATIONS "com/example/kalends/kalends/Form") (F_ordinal_w_DEVIATIONS : Fld Z Z.heap w_DEVIATIONS "java/lang/Enum" "ordinal" "I" (.int (2 : Int32))) (ne_w_CONTRASTS_w_COUNTS : w_CONTRASTS ≠ w_COUNTS) (ne_w_CONTRASTS_w_DEVIATIONS : w_CONTRASTS ≠ w_DEVIATIONS) (ne_w_COUNTS_w_DEVIATIONS : w_COUNTS ≠ w_DEVIATIONS) (v0 : Int32) (h0 : Heap) (n0 : Nat) (v : Option Value) (h : Heap) (L : List Loc) : Prop := v = some (.int (1 : Int32)) ∧ Fr n0 L
set_option maxRecDepth 65536 in
set_option maxHeartbeats 40000000 in
theorem own_rm0 (l : Launch) (Z : State) (a0 : Array Value) (hw : ∀ d ∈ tables_1, d.before a0 Z = true) (ws : List Jvm.Cond) (w_CONTRASTS : Addr) (w_COUNTS : Addr) (w_DEVIATIONS : Addr) (S_w_CONTRASTS : Sta Z Z.heap "com/example/kalends/kalends/Form" "CONTRASTS" "Lcom/example/kalends/kalends/Form;" (.ref w_CONTRASTS)) (S_w_COUNTS : Sta Z Z.heap "com/example/kalends/kalends/Form" "COUNTS" "Lcom/example/kalends/kalends/Form;" (.ref w_COUNTS)) (S_w_DEVIATIONS : Sta Z Z.heap "com/example/kalends/kalends/Form" "DEVIATIONS" "Lcom/example/kalends/kalends/Form;" (.ref w_DEVIATIONS)) (E_w_CONTRASTS : Exa Z Z.heap w_CONTRASTS "com/example/kalends/kalends/Form") (E_w_COUNTS : Exa Z Z.heap w_COUNTS "com/example/kalends/kalends/Form") (F_ordinal_w_CONTRASTS : Fld Z Z.heap w_CONTRASTS "java/lang/Enum" "ordinal" "I" (.int (0 : Int32))) (F_ordinal_w_COUNTS : Fld Z Z.heap w_COUNTS "java/lang/Enum" "ordinal" "I" (.int (1 : Int32))) (E_w_DEVIATIONS : Exa Z Z.heap w_DEVIATIONS "com/example/kalends/kalends/Form") (F_ordinal_w_DEVIATIONS : Fld Z Z.heap w_DEVIATIONS "java/lang/Enum" "ordinal" "I" (.int (2 : Int32))) (ne_w_CONTRASTS_w_COUNTS : w_CONTRASTS ≠ w_COUNTS) (ne_w_CONTRASTS_w_DEVIATIONS : w_CONTRASTS ≠ w_DEVIATIONS) (ne_w_COUNTS_w_DEVIATIONS : w_COUNTS ≠ w_DEVIATIONS) (v0 : Int32) (h0 : Heap) (n0 : Nat) (Z0 : n0 ≤ h0.size) (O0 : Old Z n0 h0) :
    MetFree l x (head1 (Jvm.Cond.code x code maxLocals ret :: ws) room_1) (fun a U => a = #[(.int v0)] ∧ Z.Warmed39 U.vm ∧ U.heap = h0) (fun _ _ _ _ _ => True) (fun _ U o U' => ∃ v L, o = .returned v ∧ own_Q0 Z w_CONTRASTS w_COUNTS w_DEVIATIONS S_w_CONTRASTS S_w_COUNTS S_w_DEVIATIONS E_w_CONTRASTS E_w_COUNTS F_ordinal_w_CONTRASTS F_ordinal_w_COUNTS E_w_DEVIATIONS F_ordinal_w_DEVIATIONS ne_w_CONTRASTS_w_COUNTS ne_w_CONTRASTS_w_DEVIATIONS ne_w_COUNTS_w_DEVIATIONS v0 h0 n0 v U'.heap L ∧ FrameEnd U o U' L room_1.cells room_1.slots) := by
  refine MetFree.of_bodySF (plainFor_of_name own_pn1) hisR ?_
  intro p e s m args below meth c s₁ Bd hml0 hP hK
  obtain ⟨rfl, hZ, hh⟩ := hP
  have hx := Bd.exec
  have hby := Bd.bytes
  have hlk := Bd.notSynchronized
  have hrt := Bd.returns
  have hml : c.maxLocals = 4 := hml0
  have hown : s.vm.findClass "com/example/kalends/kalends/FormCarriesHolidayMeansPinLaw" = some m.cls := findClass_of_methodNamed Bd.named
  have hnm := (name_of_methodNamed Bd.named Bd.method).1
  have X0 : Stand p l e room_1 s m #[(.int v0)] below meth c s₁ [] 0 0 := Stand.of_body Bd
  have e0 : s₁.heap = h0 := by rw [← hh, Bd.state]; rfl
  have N0 := Fr.nil n0
  refine own_in (own_ef0 m v0) ?_
  refine own_iloadN X0 hx 1 (hb hby at_0) rfl ?_
  refine own_ldcI X0 hx 3 hown (mvT hZ (hw _ (List.mem_of_getElem? (i := 0) rfl))) (hb hby at_1) ?_
  refine own_iand X0 hx 4 (hb hby at_3) ?_
  refine own_iconst X0 hx 5 (3 : Int32) (hb hby at_4) rfl ?_
  refine own_irem X0 hx 6 (hb hby at_5) (by decide) ?_
  refine own_istoreN X0 hx 7 #[.val (.int v0), .val (.int ((v0 &&& (2147483647 : Int32)) % (3 : Int32))), .unset, .unset] (hb hby at_6) rfl ?_
  refine own_iloadN X0 hx 8 (hb hby at_7) rfl ?_
  by_cases hc8_1 : ((v0 &&& (2147483647 : Int32)) % (3 : Int32)) = (0 : Int32)
  · refine own_ifNo X0 hx 11 (hb hby at_8) (teq hc8_1).2 ?_
    obtain ⟨T2, X2, e2, st2⟩ := getS2 X0 hx hZ hown (host := "") (Or.inl (hw _ (List.mem_of_getElem? (i := 1) rfl))) Via.refl e0 (S_w_CONTRASTS.ext O0.2) (g := (mkF m 11 #[.val (.int v0), .val (.int ((v0 &&& (2147483647 : Int32)) % (3 : Int32))), .unset, .unset] [])) rfl (hb hby at_11)
    refine own_st (G' := T2.setTop (mkF m 14 #[.val (.int v0), .val (.int ((v0 &&& (2147483647 : Int32)) % (3 : Int32))), .unset, .unset] [(.ref w_CONTRASTS)])) st2 ?_
    refine own_astoreN X2 hx 15 #[.val (.int v0), .val (.int ((v0 &&& (2147483647 : Int32)) % (3 : Int32))), .val (.ref w_CONTRASTS), .unset] (hb hby at_14) rfl rfl ?_
    refine own_iconst X2 hx 16 (1 : Int32) (hb hby at_15) rfl ?_
    refine own_istoreN X2 hx 17 #[.val (.int v0), .val (.int ((v0 &&& (2147483647 : Int32)) % (3 : Int32))), .val (.ref w_CONTRASTS), .val (.int (1 : Int32))] (hb hby at_16) rfl ?_
    refine own_goto X2 hx 40 (hb hby at_17) ?_
    refine own_aloadN X2 hx 41 (hb hby at_40) rfl rfl ?_
    have f4 := (E_w_CONTRASTS.ext O0.2)
    obtain ⟨cq3, kq3, q3a, q3b, q3c⟩ := isOf hZ e2 f4
    obtain ⟨_, _, ⟨T3, Lx3, kc3, nc3⟩, -, X3, ⟨Lc3, hQ3, lq3, yq3, zq3⟩, st3⟩ := X2.virtualBack hx (y := (⟨"com/example/kalends/kalends/Form", "carriesHolidayMeans", "()Z"⟩ : MethodName)) (z := (⟨"com/example/kalends/kalends/Form", "carriesHolidayMeans", "()Z"⟩ : MethodName)) hown (mvT hZ (hw _ (List.mem_of_getElem? (i := 4) rfl))) (mvT hZ (hw _ (List.mem_of_getElem? (i := 5) rfl))) (notFace_of_selects (args := #[]) (mvT hZ (hw _ (List.mem_of_getElem? (i := 7) rfl)))) (mvT hZ (hw _ (List.mem_of_getElem? (i := 7) rfl))) (mvT hZ (hw _ (List.mem_of_getElem? (i := 6) rfl))) (by decide) (backOf (W := 0) (own_rm1 l Z a0 hw [] w_CONTRASTS w_COUNTS w_DEVIATIONS S_w_CONTRASTS S_w_COUNTS S_w_DEVIATIONS E_w_CONTRASTS E_w_COUNTS F_ordinal_w_CONTRASTS F_ordinal_w_COUNTS E_w_DEVIATIONS F_ordinal_w_DEVIATIONS ne_w_CONTRASTS_w_COUNTS ne_w_CONTRASTS_w_DEVIATIONS ne_w_COUNTS_w_DEVIATIONS w_CONTRASTS h0 n0 Z0 O0) hZ (hw _ (List.mem_of_getElem? (i := 8) rfl)) (hw _ (List.mem_of_getElem? (i := 2) rfl)) (by decide) (by decide)) q3a q3c (g := (mkF m 41 #[.val (.int v0), .val (.int ((v0 &&& (2147483647 : Int32)) % (3 : Int32))), .val (.ref w_CONTRASTS), .val (.int (1 : Int32))] [(.ref w_CONTRASTS)])) rfl (by rw [hml]; rfl) (Steps.refl _) (argsL := []) (rest := []) (lenOf own_pd0 rfl) rfl (by show 2 * 0 + _ ≤ _; exact Nat.le_of_eq rfl) (hb hby at_41) (fun _ _ => ⟨rfl, e2, (by decide : 0 + 0 ≤ _), (by decide : 0 + 0 ≤ _)⟩)
    dsimp only [Pt.U, Pt.locs, Pt.cells, Pt.slots] at X3 lq3 yq3 zq3 st3 hQ3
    subst lq3 yq3 zq3
    obtain ⟨rfl, Nq3, eh3⟩ := hQ3
    have N3 := Fr.app N0 Nq3
    refine own_st (G' := T3.setTop (mkF m 44 #[.val (.int v0), .val (.int ((v0 &&& (2147483647 : Int32)) % (3 : Int32))), .val (.ref w_CONTRASTS), .val (.int (1 : Int32))] [(.int (own_car w_CONTRASTS w_COUNTS))])) (fun t k => st3.trans k) ?_
    refine own_iloadN X3 hx 45 (hb hby at_44) rfl ?_
    refine own_icmpNo X3 hx 48 (hb hby at_45) (teq (by unfold own_car; first | rw [if_pos rfl] | rw [if_neg ne_w_CONTRASTS_w_COUNTS] | rw [if_neg ne_w_COUNTS_w_DEVIATIONS] | rw [if_neg (Ne.symm ne_w_CONTRASTS_w_COUNTS)] | rw [if_neg (Ne.symm ne_w_COUNTS_w_DEVIATIONS)] : (own_car w_CONTRASTS w_COUNTS) = (1 : Int32))).2 ?_
    refine own_iconst X3 hx 49 (1 : Int32) (hb hby at_48) rfl ?_
    refine own_goto X3 hx 53 (hb hby at_49) ?_
    exact own_retN (t := .boolean) (z := (1 : Int32)) (Q := own_Q0 Z w_CONTRASTS w_COUNTS w_DEVIATIONS S_w_CONTRASTS S_w_COUNTS S_w_DEVIATIONS E_w_CONTRASTS E_w_COUNTS F_ordinal_w_CONTRASTS F_ordinal_w_COUNTS E_w_DEVIATIONS F_ordinal_w_DEVIATIONS ne_w_CONTRASTS_w_COUNTS ne_w_CONTRASTS_w_DEVIATIONS ne_w_COUNTS_w_DEVIATIONS v0 h0 n0) X3 hx hrt (by simp) (hb hby at_53) hlk eh3 ⟨rfl, N3⟩ (by decide) (by decide)
  · refine own_ifYes X0 hx 20 (hb hby at_8) (feq hc8_1).2 ?_
    refine own_iloadN X0 hx 21 (hb hby at_20) rfl ?_
    refine own_iconst X0 hx 22 (1 : Int32) (hb hby at_21) rfl ?_
    by_cases hc22_5 : ((v0 &&& (2147483647 : Int32)) % (3 : Int32)) = (1 : Int32)
    · refine own_icmpNo X0 hx 25 (hb hby at_22) (teq hc22_5).2 ?_
      obtain ⟨T6, X6, e6, st6⟩ := getS2 X0 hx hZ hown (host := "") (Or.inl (hw _ (List.mem_of_getElem? (i := 13) rfl))) Via.refl e0 (S_w_COUNTS.ext O0.2) (g := (mkF m 25 #[.val (.int v0), .val (.int ((v0 &&& (2147483647 : Int32)) % (3 : Int32))), .unset, .unset] [])) rfl (hb hby at_25)
      refine own_st (G' := T6.setTop (mkF m 28 #[.val (.int v0), .val (.int ((v0 &&& (2147483647 : Int32)) % (3 : Int32))), .unset, .unset] [(.ref w_COUNTS)])) st6 ?_
      refine own_astoreN X6 hx 29 #[.val (.int v0), .val (.int ((v0 &&& (2147483647 : Int32)) % (3 : Int32))), .val (.ref w_COUNTS), .unset] (hb hby at_28) rfl rfl ?_
      refine own_iconst X6 hx 30 (0 : Int32) (hb hby at_29) rfl ?_
      refine own_istoreN X6 hx 31 #[.val (.int v0), .val (.int ((v0 &&& (2147483647 : Int32)) % (3 : Int32))), .val (.ref w_COUNTS), .val (.int (0 : Int32))] (hb hby at_30) rfl ?_
      refine own_goto X6 hx 40 (hb hby at_31) ?_
      refine own_aloadN X6 hx 41 (hb hby at_40) rfl rfl ?_
      have f8 := (E_w_COUNTS.ext O0.2)
      obtain ⟨cq7, kq7, q7a, q7b, q7c⟩ := isOf hZ e6 f8
      obtain ⟨_, _, ⟨T7, Lx7, kc7, nc7⟩, -, X7, ⟨Lc7, hQ7, lq7, yq7, zq7⟩, st7⟩ := X6.virtualBack hx (y := (⟨"com/example/kalends/kalends/Form", "carriesHolidayMeans", "()Z"⟩ : MethodName)) (z := (⟨"com/example/kalends/kalends/Form", "carriesHolidayMeans", "()Z"⟩ : MethodName)) hown (mvT hZ (hw _ (List.mem_of_getElem? (i := 4) rfl))) (mvT hZ (hw _ (List.mem_of_getElem? (i := 5) rfl))) (notFace_of_selects (args := #[]) (mvT hZ (hw _ (List.mem_of_getElem? (i := 7) rfl)))) (mvT hZ (hw _ (List.mem_of_getElem? (i := 7) rfl))) (mvT hZ (hw _ (List.mem_of_getElem? (i := 6) rfl))) (by decide) (backOf (W := 0) (own_rm1 l Z a0 hw [] w_CONTRASTS w_COUNTS w_DEVIATIONS S_w_CONTRASTS S_w_COUNTS S_w_DEVIATIONS E_w_CONTRASTS E_w_COUNTS F_ordinal_w_CONTRASTS F_ordinal_w_COUNTS E_w_DEVIATIONS F_ordinal_w_DEVIATIONS ne_w_CONTRASTS_w_COUNTS ne_w_CONTRASTS_w_DEVIATIONS ne_w_COUNTS_w_DEVIATIONS w_COUNTS h0 n0 Z0 O0) hZ (hw _ (List.mem_of_getElem? (i := 8) rfl)) (hw _ (List.mem_of_getElem? (i := 2) rfl)) (by decide) (by decide)) q7a q7c (g := (mkF m 41 #[.val (.int v0), .val (.int ((v0 &&& (2147483647 : Int32)) % (3 : Int32))), .val (.ref w_COUNTS), .val (.int (0 : Int32))] [(.ref w_COUNTS)])) rfl (by rw [hml]; rfl) (Steps.refl _) (argsL := []) (rest := []) (lenOf own_pd0 rfl) rfl (by show 2 * 0 + _ ≤ _; exact Nat.le_of_eq rfl) (hb hby at_41) (fun _ _ => ⟨rfl, e6, (by decide : 0 + 0 ≤ _), (by decide : 0 + 0 ≤ _)⟩)
      dsimp only [Pt.U, Pt.locs, Pt.cells, Pt.slots] at X7 lq7 yq7 zq7 st7 hQ7
      subst lq7 yq7 zq7
      obtain ⟨rfl, Nq7, eh7⟩ := hQ7
      have N7 := Fr.app N0 Nq7
      refine own_st (G' := T7.setTop (mkF m 44 #[.val (.int v0), .val (.int ((v0 &&& (2147483647 : Int32)) % (3 : Int32))), .val (.ref w_COUNTS), .val (.int (0 : Int32))] [(.int (own_car w_COUNTS w_COUNTS))])) (fun t k => st7.trans k) ?_
      refine own_iloadN X7 hx 45 (hb hby at_44) rfl ?_
      refine own_icmpNo X7 hx 48 (hb hby at_45) (teq (by unfold own_car; first | rw [if_pos rfl] | rw [if_neg ne_w_CONTRASTS_w_COUNTS] | rw [if_neg ne_w_COUNTS_w_DEVIATIONS] | rw [if_neg (Ne.symm ne_w_CONTRASTS_w_COUNTS)] | rw [if_neg (Ne.symm ne_w_COUNTS_w_DEVIATIONS)] : (own_car w_COUNTS w_COUNTS) = (0 : Int32))).2 ?_
      refine own_iconst X7 hx 49 (1 : Int32) (hb hby at_48) rfl ?_
      refine own_goto X7 hx 53 (hb hby at_49) ?_
      exact own_retN (t := .boolean) (z := (1 : Int32)) (Q := own_Q0 Z w_CONTRASTS w_COUNTS w_DEVIATIONS S_w_CONTRASTS S_w_COUNTS S_w_DEVIATIONS E_w_CONTRASTS E_w_COUNTS F_ordinal_w_CONTRASTS F_ordinal_w_COUNTS E_w_DEVIATIONS F_ordinal_w_DEVIATIONS ne_w_CONTRASTS_w_COUNTS ne_w_CONTRASTS_w_DEVIATIONS ne_w_COUNTS_w_DEVIATIONS v0 h0 n0) X7 hx hrt (by simp) (hb hby at_53) hlk eh7 ⟨rfl, N7⟩ (by decide) (by decide)
    · refine own_icmpYes X0 hx 34 (hb hby at_22) (feq hc22_5).2 ?_
      obtain ⟨T9, X9, e9, st9⟩ := getS2 X0 hx hZ hown (host := "") (Or.inl (hw _ (List.mem_of_getElem? (i := 11) rfl))) Via.refl e0 (S_w_DEVIATIONS.ext O0.2) (g := (mkF m 34 #[.val (.int v0), .val (.int ((v0 &&& (2147483647 : Int32)) % (3 : Int32))), .unset, .unset] [])) rfl (hb hby at_34)
      refine own_st (G' := T9.setTop (mkF m 37 #[.val (.int v0), .val (.int ((v0 &&& (2147483647 : Int32)) % (3 : Int32))), .unset, .unset] [(.ref w_DEVIATIONS)])) st9 ?_
      refine own_astoreN X9 hx 38 #[.val (.int v0), .val (.int ((v0 &&& (2147483647 : Int32)) % (3 : Int32))), .val (.ref w_DEVIATIONS), .unset] (hb hby at_37) rfl rfl ?_
      refine own_iconst X9 hx 39 (1 : Int32) (hb hby at_38) rfl ?_
      refine own_istoreN X9 hx 40 #[.val (.int v0), .val (.int ((v0 &&& (2147483647 : Int32)) % (3 : Int32))), .val (.ref w_DEVIATIONS), .val (.int (1 : Int32))] (hb hby at_39) rfl ?_
      refine own_aloadN X9 hx 41 (hb hby at_40) rfl rfl ?_
      have f11 := (E_w_DEVIATIONS.ext O0.2)
      obtain ⟨cq10, kq10, q10a, q10b, q10c⟩ := isOf hZ e9 f11
      obtain ⟨_, _, ⟨T10, Lx10, kc10, nc10⟩, -, X10, ⟨Lc10, hQ10, lq10, yq10, zq10⟩, st10⟩ := X9.virtualBack hx (y := (⟨"com/example/kalends/kalends/Form", "carriesHolidayMeans", "()Z"⟩ : MethodName)) (z := (⟨"com/example/kalends/kalends/Form", "carriesHolidayMeans", "()Z"⟩ : MethodName)) hown (mvT hZ (hw _ (List.mem_of_getElem? (i := 4) rfl))) (mvT hZ (hw _ (List.mem_of_getElem? (i := 5) rfl))) (notFace_of_selects (args := #[]) (mvT hZ (hw _ (List.mem_of_getElem? (i := 7) rfl)))) (mvT hZ (hw _ (List.mem_of_getElem? (i := 7) rfl))) (mvT hZ (hw _ (List.mem_of_getElem? (i := 6) rfl))) (by decide) (backOf (W := 0) (own_rm1 l Z a0 hw [] w_CONTRASTS w_COUNTS w_DEVIATIONS S_w_CONTRASTS S_w_COUNTS S_w_DEVIATIONS E_w_CONTRASTS E_w_COUNTS F_ordinal_w_CONTRASTS F_ordinal_w_COUNTS E_w_DEVIATIONS F_ordinal_w_DEVIATIONS ne_w_CONTRASTS_w_COUNTS ne_w_CONTRASTS_w_DEVIATIONS ne_w_COUNTS_w_DEVIATIONS w_DEVIATIONS h0 n0 Z0 O0) hZ (hw _ (List.mem_of_getElem? (i := 8) rfl)) (hw _ (List.mem_of_getElem? (i := 2) rfl)) (by decide) (by decide)) q10a q10c (g := (mkF m 41 #[.val (.int v0), .val (.int ((v0 &&& (2147483647 : Int32)) % (3 : Int32))), .val (.ref w_DEVIATIONS), .val (.int (1 : Int32))] [(.ref w_DEVIATIONS)])) rfl (by rw [hml]; rfl) (Steps.refl _) (argsL := []) (rest := []) (lenOf own_pd0 rfl) rfl (by show 2 * 0 + _ ≤ _; exact Nat.le_of_eq rfl) (hb hby at_41) (fun _ _ => ⟨rfl, e9, (by decide : 0 + 0 ≤ _), (by decide : 0 + 0 ≤ _)⟩)
      dsimp only [Pt.U, Pt.locs, Pt.cells, Pt.slots] at X10 lq10 yq10 zq10 st10 hQ10
      subst lq10 yq10 zq10
      obtain ⟨rfl, Nq10, eh10⟩ := hQ10
      have N10 := Fr.app N0 Nq10
      refine own_st (G' := T10.setTop (mkF m 44 #[.val (.int v0), .val (.int ((v0 &&& (2147483647 : Int32)) % (3 : Int32))), .val (.ref w_DEVIATIONS), .val (.int (1 : Int32))] [(.int (own_car w_DEVIATIONS w_COUNTS))])) (fun t k => st10.trans k) ?_
      refine own_iloadN X10 hx 45 (hb hby at_44) rfl ?_
      refine own_icmpNo X10 hx 48 (hb hby at_45) (teq (by unfold own_car; first | rw [if_pos rfl] | rw [if_neg ne_w_CONTRASTS_w_COUNTS] | rw [if_neg ne_w_COUNTS_w_DEVIATIONS] | rw [if_neg (Ne.symm ne_w_CONTRASTS_w_COUNTS)] | rw [if_neg (Ne.symm ne_w_COUNTS_w_DEVIATIONS)] : (own_car w_DEVIATIONS w_COUNTS) = (1 : Int32))).2 ?_
      refine own_iconst X10 hx 49 (1 : Int32) (hb hby at_48) rfl ?_
      refine own_goto X10 hx 53 (hb hby at_49) ?_
      exact own_retN (t := .boolean) (z := (1 : Int32)) (Q := own_Q0 Z w_CONTRASTS w_COUNTS w_DEVIATIONS S_w_CONTRASTS S_w_COUNTS S_w_DEVIATIONS E_w_CONTRASTS E_w_COUNTS F_ordinal_w_CONTRASTS F_ordinal_w_COUNTS E_w_DEVIATIONS F_ordinal_w_DEVIATIONS ne_w_CONTRASTS_w_COUNTS ne_w_CONTRASTS_w_DEVIATIONS ne_w_COUNTS_w_DEVIATIONS v0 h0 n0) X10 hx hrt (by simp) (hb hby at_53) hlk eh10 ⟨rfl, N10⟩ (by decide) (by decide)
set_option maxRecDepth 65536 in
set_option maxHeartbeats 40000000 in
theorem own_comes {Post : Tables → Env → Array Value → State → Outcome → State → Prop} (hpost : ∀ tb e args s v u, (limb_1_1.after args s (.returned v) u = true ∧ limb_1_2.after args s (.returned v) u = true ∧ True) → FrameEnd s (.returned v) u (Jvm.fieldLocs frame_1_writes args s ++ Jvm.arrayLocs frame_1_arrays args s ++ Jvm.staticLocs frame_1_statics s) 0 0 → Post tb e args s (.returned v) u) :
    ArmFor flags0 classFile x code maxLocals ret World_1 tables_1 room_1 Calls_1 rest_1 Pre_1 Post := by
  intro l hfl _ _ p e ha hc hk s m args below hf hA hF happ hP
  obtain ⟨hcalls, hrest, hpre⟩ := hP
  obtain ⟨-, -, -, hnamed, -, -, -, hat⟩ := (Spec.applies_iff hf).mp happ
  obtain ⟨hg, hn⟩ := and_e (Cond.before_iff.mp (show (Jvm.Cond.and given_1 narrow_1).before args s = true from hpre))
  obtain ⟨g1, g2⟩ := and_e hg
  obtain ⟨w0, rfl⟩ : ∃ w0 : Value, args = #[w0] := by
    have hs : args.size = 1 := by simpa [Cond.value, given_1] using g1
    obtain ⟨L⟩ := args
    match L, hs with
    | [w0], _ => exact ⟨w0, rfl⟩
  have hw := fun d (hd : d ∈ tables_1) => atoms_spec (ws := Jvm.Cond.code x code maxLocals ret :: tables_1) hat d (List.mem_cons_of_mem _ hd)
  have hfit : Fit s := fun {y c} hc i hi => by
    obtain ⟨ha, rfl⟩ := Array.getElem?_eq_some_iff.mp hc
    have q := List.all_eq_true.mp ((Array.all_eq_true_iff_forall_mem.mp hF) _ (Array.getElem_mem ha)) i (List.mem_range.mpr hi)
    simpa [Array.getElem?_eq_getElem hi] using q
  obtain ⟨i0, ei0⟩ := is_v g2
  obtain rfl : w0 = (.int i0) := Option.some.inj ei0
  obtain ⟨j1a, j1b⟩ := and_e hn
  obtain ⟨j2a, j2b⟩ := and_e j1b
  obtain ⟨j3a, j3b⟩ := and_e j2b
  obtain ⟨j4a, j4b⟩ := and_e j3b
  obtain ⟨j5a, j5b⟩ := and_e j4b
  obtain ⟨w_CONTRASTS, ev_w_CONTRASTS, S_w_CONTRASTS, E_w_CONTRASTS⟩ := own_sta j1a (Or.inr ⟨(hw _ (List.mem_of_getElem? (i := 2) rfl)), (hw _ (List.mem_of_getElem? (i := 3) rfl))⟩)
  obtain ⟨w_COUNTS, ev_w_COUNTS, S_w_COUNTS, E_w_COUNTS⟩ := own_sta j2a (Or.inr ⟨(hw _ (List.mem_of_getElem? (i := 2) rfl)), (hw _ (List.mem_of_getElem? (i := 10) rfl))⟩)
  obtain ⟨w_DEVIATIONS, ev_w_DEVIATIONS, S_w_DEVIATIONS, E_w_DEVIATIONS⟩ := own_sta j5a (Or.inr ⟨(hw _ (List.mem_of_getElem? (i := 2) rfl)), (hw _ (List.mem_of_getElem? (i := 12) rfl))⟩)
  have F_ordinal_w_CONTRASTS := own_fldI ev_w_CONTRASTS j3a
  have F_ordinal_w_COUNTS := own_fldI ev_w_COUNTS j4a
  have F_ordinal_w_DEVIATIONS := own_fldI ev_w_DEVIATIONS j5b
  have ne_w_CONTRASTS_w_COUNTS : w_CONTRASTS ≠ w_COUNTS := Fld.ne F_ordinal_w_CONTRASTS F_ordinal_w_COUNTS (by decide)
  have ne_w_CONTRASTS_w_DEVIATIONS : w_CONTRASTS ≠ w_DEVIATIONS := Fld.ne F_ordinal_w_CONTRASTS F_ordinal_w_DEVIATIONS (by decide)
  have ne_w_COUNTS_w_DEVIATIONS : w_COUNTS ≠ w_DEVIATIONS := Fld.ne F_ordinal_w_COUNTS F_ordinal_w_DEVIATIONS (by decide)
  obtain ⟨n, o, h1, h2, h3, _, L, rfl, ⟨rfl, N⟩, hq⟩ := own_rm0 l s _ hw tables_1 w_CONTRASTS w_COUNTS w_DEVIATIONS S_w_CONTRASTS S_w_COUNTS S_w_DEVIATIONS E_w_CONTRASTS E_w_COUNTS F_ordinal_w_CONTRASTS F_ordinal_w_COUNTS E_w_DEVIATIONS F_ordinal_w_DEVIATIONS ne_w_CONTRASTS_w_COUNTS ne_w_CONTRASTS_w_DEVIATIONS ne_w_COUNTS_w_DEVIATIONS i0 s.heap s.heap.size (Nat.le_refl _) (Old.start s) p e ha hc hk s m _ below hf ((Spec.applies_iff_loose hf).mp happ).1 ⟨rfl, State.Warmed39.refl s, rfl⟩ trivial
  refine ⟨n, _, h1, h2, h3, hpost _ _ _ _ _ _ ⟨Cond.after_iff.mpr rfl, Cond.after_iff.mpr (eq_i res_at (Term.int_eval (1)) rfl), trivial⟩ ⟨hq.1, hq.2.1, (hq.2.2.sift fun y hy => Or.inr (N y hy)).mono (by decide) (by decide)⟩⟩
theorem main_1_1 : Claimed_1_1 := own_comes fun _ _ _ _ _ _ h hF => ⟨h.1, hF⟩
theorem main_1_2 : Claimed_1_2 := own_comes fun _ _ _ _ _ _ h hF => ⟨h.2.1, hF⟩
end Jvm.Pilot.@@N@@
namespace Jvm.Pilot.@@N@@
open Jvm Jvm.ClassFile Sem Op Lib Jvm.Free Jvm.Stand Jvm.Pilot.@@N@@.Jvm.D
/-! MADE BY PROGRAM (witnessworld.py) out of the Statement's table words and the real class files: 12 classes; the members and pool entries that the words name. The judged class is class 1, her method 1. -/
namespace start1
open Jvm.ClassFile
def u (s : String) : CpInfo := .utf8 (stringToUtf16 s)
/-- a pool by its gaps: so many unusable entries, then the entry; so many at the end -/
def gap : Nat → List CpInfo → List CpInfo
  | 0, r => r
  | n + 1, r => .unusable :: gap n r
def poolList (es : List (Nat × CpInfo)) (last : Nat) : List CpInfo := es.foldr (fun e r => gap e.1 (e.2 :: r)) (gap last [])
def pool (es : List (Nat × CpInfo)) (last : Nat) : Array CpInfo := ⟨poolList es last⟩
def fileOf (pool : Array CpInfo) (this : Nat) (attrs : Array Attribute := #[]) (ms : Array MethodInfo := #[]) (fl : Nat := 33) (sup : Nat := 0) (ifs : Array Nat := #[]) (fds : Array FieldInfo := #[]) : ClassFile where
  minorVersion := 0
  majorVersion := 65
  constantPool := pool
  accessFlags := fl
  thisClass := this
  superClass := sup
  interfaces := ifs
  fields := fds
  methods := ms
  attributes := attrs
def plain (name : String) (sup : Option ClassId) : Class where
  name := name
  kind := .ordinary
  loader := none
  accessFlags := 33
  super := sup
  interfaces := #[]
  cf := none
  fields := #[]
  methods := #[]
  instanceTypes := #[]
  staticTypes := #[]
  resolved := #[]
  callSites := []
  init := .initialized
  statics := none
  mirror := none

def pool0 : Array CpInfo := pool [(5, u "<init>"), (0, u "()V"), (1, .class_ 10), (1, u "java/lang/Object")] 113

def k0m0 : Method := { name := "<init>", desc := "()V", sig := { parameters := [], returnType := none }, accessFlags := 1, code := none }
/-- java/lang/Object -/
def k0 : Class := { plain "java/lang/Object" none with
  accessFlags := 33
  interfaces := #[]
  cf := some (fileOf pool0 8 #[] #[{ accessFlags := 1, nameIndex := 5, descriptorIndex := 6, attributes := #[] }] 33 0 #[] #[])
  fields := #[]
  methods := #[k0m0]
  instanceTypes := #[]
  staticTypes := #[]
  resolved := Array.replicate 124 none
  statics := none }

def pool1 : Array CpInfo := pool [(2, .class_ 4), (1, u "java/lang/Object"), (0, u "<init>"), (0, u "()V"), (0, .integer 2147483647), (0, .fieldref 9 10), (0, .class_ 11), (0, .nameAndType 12 13), (0, u "com/example/kalends/kalends/Form"), (0, u "CONTRASTS"), (0, u "Lcom/example/kalends/kalends/Form;"), (0, .fieldref 9 15), (0, .nameAndType 16 13), (0, u "COUNTS"), (0, .fieldref 9 18), (0, .nameAndType 19 13), (0, u "DEVIATIONS"), (0, .methodref 9 21), (0, .nameAndType 22 23), (0, u "carriesHolidayMeans"), (0, u "()Z"), (0, .class_ 25), (0, u "com/example/kalends/kalends/FormCarriesHolidayMeansPinLaw"), (2, u "law"), (0, u "(I)Z")] 3

def k1m0 : Method := { name := "<init>", desc := "()V", sig := { parameters := [], returnType := none }, accessFlags := 1, code := none }
def k1c1 : Code := { maxStack := 2, maxLocals := 4, code := code, exceptionTable := #[], attributes := #[] }
def k1m1 : Method := { name := "law", desc := "(I)Z", sig := { parameters := [.int], returnType := some .boolean }, accessFlags := 9, code := some k1c1 }
/-- com/example/kalends/kalends/FormCarriesHolidayMeansPinLaw -/
def k1 : Class := { plain "com/example/kalends/kalends/FormCarriesHolidayMeansPinLaw" (some 0) with
  accessFlags := 49
  interfaces := #[]
  cf := some (fileOf pool1 24 #[] #[{ accessFlags := 1, nameIndex := 5, descriptorIndex := 6, attributes := #[] }, { accessFlags := 9, nameIndex := 28, descriptorIndex := 29, attributes := #[] }] 49 2 #[] #[])
  fields := #[]
  methods := #[k1m0, k1m1]
  instanceTypes := #[]
  staticTypes := #[]
  resolved := Array.replicate 33 none
  statics := none }

def pool2 : Array CpInfo := pool [(1, .class_ 2), (0, u "java/lang/constant/Constable"), (0, .class_ 4), (0, u "java/lang/Object")] 6

/-- java/lang/constant/Constable -/
def k2 : Class := { plain "java/lang/constant/Constable" (some 0) with
  accessFlags := 1537
  interfaces := #[]
  cf := some (fileOf pool2 1 #[] #[] 1537 3 #[] #[])
  fields := #[]
  methods := #[]
  instanceTypes := #[]
  staticTypes := #[]
  resolved := Array.replicate 11 none
  statics := none }

def pool3 : Array CpInfo := pool [(1, .class_ 2), (0, u "java/lang/Comparable"), (0, .class_ 4), (0, u "java/lang/Object")] 7

/-- java/lang/Comparable -/
def k3 : Class := { plain "java/lang/Comparable" (some 0) with
  accessFlags := 1537
  interfaces := #[]
  cf := some (fileOf pool3 1 #[] #[] 1537 3 #[] #[])
  fields := #[]
  methods := #[]
  instanceTypes := #[]
  staticTypes := #[]
  resolved := Array.replicate 12 none
  statics := none }

def pool4 : Array CpInfo := pool [(1, .class_ 2), (0, u "java/io/Serializable"), (0, .class_ 4), (0, u "java/lang/Object")] 2

/-- java/io/Serializable -/
def k4 : Class := { plain "java/io/Serializable" (some 0) with
  accessFlags := 1537
  interfaces := #[]
  cf := some (fileOf pool4 1 #[] #[] 1537 3 #[] #[])
  fields := #[]
  methods := #[]
  instanceTypes := #[]
  staticTypes := #[]
  resolved := Array.replicate 7 none
  statics := none }

def pool5 : Array CpInfo := pool [(2, .class_ 4), (1, u "java/lang/Enum"), (0, u "name"), (0, u "Ljava/lang/String;"), (2, u "ordinal"), (0, u "I"), (1, .class_ 14), (1, u "java/lang/Object"), (4, u "hash"), (86, .class_ 108), (1, u "java/lang/Enum$EnumDesc"), (2, .class_ 112), (0, u "java/lang/constant/Constable"), (0, .class_ 114), (0, u "java/lang/Comparable"), (0, .class_ 116), (0, u "java/io/Serializable")] 87

/-- java/lang/Enum -/
def k5 : Class := { plain "java/lang/Enum" (some 0) with
  accessFlags := 1057
  interfaces := #[2, 3, 4]
  cf := some (fileOf pool5 2 #[.nestMembers #[106]] #[] 1057 12 #[111, 113, 115] #[{ accessFlags := 18, nameIndex := 5, descriptorIndex := 6, attributes := #[] }, { accessFlags := 18, nameIndex := 9, descriptorIndex := 10, attributes := #[] }, { accessFlags := 2, nameIndex := 19, descriptorIndex := 10, attributes := #[] }])
  fields := #[{ name := "name", type := (.object "java/lang/String"), accessFlags := 18, slot := 0, constantValue := 0 }, { name := "ordinal", type := .int, accessFlags := 18, slot := 1, constantValue := 0 }, { name := "hash", type := .int, accessFlags := 2, slot := 2, constantValue := 0 }]
  methods := #[]
  instanceTypes := #[(.object "java/lang/String"), .int, .int]
  staticTypes := #[]
  resolved := Array.replicate 204 none
  statics := none }

def pool6 : Array CpInfo := pool [(1, .class_ 2), (0, u "com/example/kalends/kalends/Form"), (2, u "CONTRASTS"), (0, u "Lcom/example/kalends/kalends/Form;"), (0, .fieldref 1 8), (0, .nameAndType 9 6), (0, u "COUNTS"), (2, u "DEVIATIONS"), (2, u "$VALUES"), (0, u "[Lcom/example/kalends/kalends/Form;"), (6, .class_ 25), (1, u "java/lang/Enum"), (69, u "carriesHolidayMeans"), (0, u "()Z")] 21

def k6c0 : Code := { maxStack := 2, maxLocals := 1, code := prog_22_method_5_code, exceptionTable := #[], attributes := #[] }
def k6m0 : Method := { name := "carriesHolidayMeans", desc := "()Z", sig := { parameters := [], returnType := some .boolean }, accessFlags := 0, code := some k6c0 }
/-- com/example/kalends/kalends/Form -/
def k6 : Class := { plain "com/example/kalends/kalends/Form" (some 5) with
  accessFlags := 16433
  interfaces := #[]
  cf := some (fileOf pool6 1 #[] #[{ accessFlags := 0, nameIndex := 95, descriptorIndex := 96, attributes := #[] }] 16433 23 #[] #[{ accessFlags := 16409, nameIndex := 5, descriptorIndex := 6, attributes := #[] }, { accessFlags := 16409, nameIndex := 9, descriptorIndex := 6, attributes := #[] }, { accessFlags := 16409, nameIndex := 12, descriptorIndex := 6, attributes := #[] }, { accessFlags := 4122, nameIndex := 15, descriptorIndex := 16, attributes := #[] }])
  fields := #[{ name := "CONTRASTS", type := (.object "com/example/kalends/kalends/Form"), accessFlags := 16409, slot := 0, constantValue := 0 }, { name := "COUNTS", type := (.object "com/example/kalends/kalends/Form"), accessFlags := 16409, slot := 1, constantValue := 0 }, { name := "DEVIATIONS", type := (.object "com/example/kalends/kalends/Form"), accessFlags := 16409, slot := 2, constantValue := 0 }, { name := "$VALUES", type := (.array (.object "com/example/kalends/kalends/Form")), accessFlags := 4122, slot := 3, constantValue := 0 }]
  methods := #[k6m0]
  instanceTypes := #[(.object "java/lang/String"), .int, .int]
  staticTypes := #[(.object "com/example/kalends/kalends/Form"), (.object "com/example/kalends/kalends/Form"), (.object "com/example/kalends/kalends/Form"), (.array (.object "com/example/kalends/kalends/Form"))]
  resolved := Array.replicate 118 none
  statics := some 0 }

def pool7 : Array CpInfo := pool [(1, u "java/lang/Cloneable"), (0, .class_ 1), (0, u "java/lang/Object"), (0, .class_ 3)] 3

/-- java/lang/Cloneable -/
def k7 : Class := { plain "java/lang/Cloneable" (some 0) with
  accessFlags := 1537
  interfaces := #[]
  cf := some (fileOf pool7 2 #[] #[] 1537 4 #[] #[])
  fields := #[]
  methods := #[]
  instanceTypes := #[]
  staticTypes := #[]
  resolved := Array.replicate 8 none
  statics := none }

/-- the primitive byte -/
def k8 : Class := { plain "byte" none with kind := .primitive 'B', accessFlags := 0x411 }
/-- [B -/
def k9 : Class := { plain "[B" (some 0) with kind := .array 8 .byte, interfaces := #[7, 4], accessFlags := 1041 }

/-- the primitive int -/
def k10 : Class := { plain "int" none with kind := .primitive 'I', accessFlags := 0x411 }
/-- [I -/
def k11 : Class := { plain "[I" (some 0) with kind := .array 10 .int, interfaces := #[7, 4], accessFlags := 1041 }

def heap : Heap := #[{ cls := 6, slots := #[.ref 1, .ref 2, .ref 3, .null], vm := .statics 6 },
  { cls := 6, slots := #[.null, .int 0, .int 0], vm := .none },
  { cls := 6, slots := #[.null, .int 1, .int 0], vm := .none },
  { cls := 6, slots := #[.null, .int 2, .int 0], vm := .none }]
def classes : Array Class := #[k0, k1, k2, k3, k4, k5, k6, k7, k8, k9, k10, k11]
def interned : List (Array UInt16 × Addr) := []
def slotsUsed : Nat := 13
def theMethod : MethodId := ⟨1, 1⟩
def args0 : Array Value := #[.int 5]
def aboutOver (below : List Frame) : State where
  vm := { classes := classes, interned := interned.toArray }
  heap := heap
  slotsUsed := slotsUsed
  threads := #[{ frames := .invoking theMethod args0 :: below }]
def below0 : List Frame := [.native { method := ⟨0, 0⟩, args := #[] }]
def about1 : State := aboutOver below0
def p0 : Program := .bare "" "" ""
def e0 : Env := launch0.env 0 0 0
theorem w_frames : about1.frames = Frame.invoking theMethod args0 :: below0 := rfl
set_option maxRecDepth 65536 in
theorem w_args : argsFit about1.vm theMethod args0 = true := by decide +kernel
set_option maxRecDepth 65536 in
theorem w_heap : heapFits about1 = true := by decide +kernel
set_option maxRecDepth 65536 in
theorem w_runnable : about1.curStatus? = some .runnable := by decide +kernel
set_option maxRecDepth 65536 in
theorem w_alone : about1.alone = true := by decide +kernel
set_option maxRecDepth 65536 in
theorem w_named : about1.methodNamed? x = some theMethod := by decide +kernel
set_option maxRecDepth 65536 in
theorem w_hears : about1.hears theMethod below0 = true := by decide +kernel
set_option maxRecDepth 65536 in
theorem w_ripe : about1.ripe theMethod args0 below0 = true := by decide +kernel
theorem w_running : about1.status = .running := rfl
set_option maxRecDepth 65536 in
theorem w_room : about1.hasRoom e0.platform room_1 = true :=
  launch0.hasRoom_least _ room_1 (by decide +kernel) (by decide +kernel) (by decide +kernel) (by decide +kernel) (by decide +kernel) (by decide +kernel)
theorem allAtoms_all (ts : List Jvm.Cond) (a : Array Jvm.Value) (st : Jvm.State) : (allAtoms ts).before a st = ts.all (fun c => c.before a st) := by
  induction ts with
  | nil => rfl
  | cons c t ih =>
    show (Jvm.Cond.and c (allAtoms t)).before a st = _
    rw [Jvm.Cond.before_and, ih, List.all_cons]
def words1 : List Jvm.Cond := Jvm.Cond.code x code maxLocals ret :: tables_1
/-- a 'code' word, met by the world's own term for the bytes: nothing is compared byte by byte -/
theorem code_word {y : MethodName} {bytes : ByteArray} {mx : Nat} {rt : Option FieldType} {a : Array Value} {s : State} {m : MethodId} {meth : Method} {c : Code} (h1 : s.methodNamed? y = some m) (h2 : s.vm.method? m = some meth) (h3 : meth.code = some c) (h4 : c.code = bytes)
    (h5 : (c.maxLocals == mx && c.exceptionTable.isEmpty && decide (c.maxStack ≤ mostOperands) && decide (meth.sig.returnType = rt) && !meth.locks && decide (parseMethodDescriptor y.desc = some meth.sig)) = true) : (Jvm.Cond.code y bytes mx rt).before a s = true := by
  simp only [Bool.and_eq_true, beq_iff_eq, Bool.not_eq_true', decide_eq_true_eq] at h5
  obtain ⟨⟨⟨⟨⟨g1, g2⟩, g3⟩, g4⟩, g5⟩, g6⟩ := h5
  simp [Cond.before, Cond.holds, Cond.value, h1, h2, h3, h4, g1, g2, g3, g4, g5, g6]
def isCode : Jvm.Cond → Bool
  | .code _ _ _ _ => true
  | _ => false
theorem all_split {L : List Jvm.Cond} {P : Jvm.Cond → Bool} (h1 : L.all (fun c => isCode c || P c) = true) (h2 : ∀ c ∈ L.filter isCode, P c = true) : L.all P = true := by
  refine List.all_eq_true.mpr fun c hc => ?_
  have h := List.all_eq_true.mp h1 c hc
  rcases Bool.eq_false_or_eq_true (isCode c) with hi | hi
  · exact h2 c (List.mem_filter.mpr ⟨hc, hi⟩)
  · simpa [hi] using h
set_option maxRecDepth 65536 in
theorem w_c0 : (Jvm.Cond.code x code maxLocals ret).before args0 about1 = true := code_word (m := ⟨1, 1⟩) (meth := k1m1) (c := k1c1) (by decide +kernel) rfl rfl rfl (by decide +kernel)
set_option maxRecDepth 65536 in
theorem w_c1 : (Jvm.Cond.code ({ cls := "com/example/kalends/kalends/Form", name := "carriesHolidayMeans", desc := "()Z" } : Jvm.MethodName) prog_22_method_5_code (1 : Nat) (Option.some Jvm.ClassFile.FieldType.boolean)).before args0 about1 = true := code_word (m := ⟨6, 0⟩) (meth := k6m0) (c := k6c0) (by decide +kernel) rfl rfl rfl (by decide +kernel)
def codes1 : List Jvm.Cond := [Jvm.Cond.code x code maxLocals ret, Jvm.Cond.code ({ cls := "com/example/kalends/kalends/Form", name := "carriesHolidayMeans", desc := "()Z" } : Jvm.MethodName) prog_22_method_5_code (1 : Nat) (Option.some Jvm.ClassFile.FieldType.boolean)]
set_option maxRecDepth 65536 in
theorem codes_eq : words1.filter isCode = codes1 := rfl
theorem w_codes : ∀ c ∈ words1.filter isCode, c.before args0 about1 = true := by
  rw [codes_eq]
  intro c hc
  simp only [codes1, List.mem_cons, List.not_mem_nil, or_false] at hc
  rcases hc with rfl | rfl
  · exact w_c0
  · exact w_c1
set_option maxRecDepth 65536 in
theorem w_t1 : words1.all (fun c => isCode c || c.before args0 about1) = true := by decide +kernel
theorem w_tables : (allAtoms (Jvm.Cond.code x code maxLocals ret :: tables_1)).before args0 about1 = true := by
  rw [allAtoms_all]
  show words1.all (fun c => c.before args0 about1) = true
  refine all_split ?_ w_codes
  rw [w_t1]
set_option maxRecDepth 65536 in
theorem w_case : (Jvm.Cond.and given_1 narrow_1).before args0 about1 = true := by decide +kernel
theorem w_applies : (headSpec (Jvm.Cond.code x code maxLocals ret :: tables_1) room_1).applies x e0.platform about1 = true :=
  (Spec.applies_iff w_frames).mpr ⟨w_running, w_runnable, w_alone, w_named, w_hears, w_ripe, w_room, w_tables⟩
theorem atStart : AtStart classFile x code maxLocals ret World_1 tables_1 room_1 Calls_1 rest_1 Pre_1 launch0 p0 e0 about1 theMethod args0 below0 :=
  ⟨lists_1, trivial, launch0.admits_env _ _ _, launch0.least_env, fairChoices_fair.cas, fairChoices_fair.clock, w_frames, w_args, w_heap, w_applies, trivial, trivial, w_case⟩
end start1
theorem witness_1 : WitnessClaimed_1 := ⟨start1.p0, start1.e0, start1.about1, start1.theMethod, start1.args0, start1.below0, start1.atStart⟩
end Jvm.Pilot.@@N@@
