import JvmDerived
import JvmDerived.Pilot.@@N@@Statement
import JvmDerived.Pilot.@@N@@Code
set_option linter.unusedVariables false
set_option linter.unusedSimpArgs false
namespace Jvm.RoadKit
open Sem ClassFile Op Lib Jvm.Stand Jvm.Free Jvm.LawKit
section New
variable {p : Program} {l : Launch} {e : Env} {R : Room} {s : State} {m : MethodId} {args : Array Value} {below : List Frame} {meth : Method} {c : Code} {T : State} {locs : List Loc} {cells slots : Nat}
theorem retI (X : Stand p l e R s m args below meth c T locs cells slots) (hx : p.tables.exec = Jvm.exec) {pc : Nat} {Ls : Array Slot} {z : Int32} {rest : List Value} (hret : meth.sig.returnType = some .int) (hd : decode c.code pc = .ok (.ireturn, 1)) {fs : List Frame}
    (hl : ∀ (f : JFrame) (acts : List Action), f.method = m → f.locked = none → f.entered = [] → (doReturn e (T.setTop f) acts (some (.int z))).1 = T.setFrames fs) : Steps p.tables e below (T.setTop (mkF m pc Ls (.int z :: rest))) (T.setFrames fs) := by
  have hm' : T.vm.method? m = some meth := X.method'
  have hn : narrow .int (.int z) = .int z := rfl
  show Steps p.tables e below (T.setTop { method := m, pc := pc, locals := Ls, stack := _ :: rest, locked := none }) _
  jvm_step X.here [X.here.top, hx, hd, hm', hret, hn]
  first | (intro acts; rw [hl _ acts rfl rfl rfl]) | rw [hl _ _ rfl rfl rfl]
  exact Steps.refl _
end New
end Jvm.RoadKit
namespace Jvm.Pilot.@@N@@
open Jvm Jvm.ClassFile Sem Op Lib Jvm.Free Jvm.Stand Jvm.LawKit Jvm.RoadKit Bundle Jvm.Pilot.@@N@@.Jvm.D
section Own
variable {p : Program} {l : Launch} {e : Env} {R : Room} {s : State} {m : MethodId} {args : Array Value} {below : List Frame} {meth : Method} {c : Code} {T : State} {locs : List Loc} {cells slots : Nat}
/-- from the state G the run comes to an end with an outcome of which Φ holds -/
def own_Gs (p : Program) (e : Env) (below : List Frame) (Φ : Outcome → State → Prop) (G : State) : Prop :=
  ∃ (t : State) (o : Outcome), Steps p.tables e below G t ∧ t.status = .running ∧ Ended t below o ∧ Φ o t
theorem own_st {Φ : Outcome → State → Prop} {G G' : State} (k : ∀ t, Steps p.tables e below G' t → Steps p.tables e below G t) (h : own_Gs p e below Φ G') : own_Gs p e below Φ G := by
  obtain ⟨a, b, h1, h2⟩ := h
  exact ⟨a, b, k _ h1, h2⟩
theorem own_in {Φ : Outcome → State → Prop} {g g' : JFrame} (q : g = g') (h : own_Gs p e below Φ (T.setTop g')) : ∃ (t : State) (o : Outcome), Steps p.tables e below (T.setTop g) t ∧ t.status = .running ∧ Ended t below o ∧ Φ o t := by
  subst q; exact h
theorem own_ret (X : Stand p l e R s m args below meth c T locs cells slots) {v : Option Value} (hv : meth.sig.returnType = none → v = none) (hlk : meth.locks = false) {G : State}
    (k : ∀ fs, (∀ (f : JFrame) (acts : List Action), f.method = m → f.locked = none → f.entered = [] → (doReturn e (T.setTop f) acts v).1 = T.setFrames fs) → Steps p.tables e below G (T.setFrames fs))
    {Q : Option Value → Heap → List Loc → Prop} {h : Heap} (eT : T.heap = h) (hQ : Q v h locs) {cc ss : Nat} (hc : cells ≤ cc) (hs : slots ≤ ss) :
    own_Gs p e below (fun o t => ∃ v L, o = .returned v ∧ Q v t.heap L ∧ FrameEnd s o t L cc ss) G := by
  obtain ⟨fs, hr, hrun, hended, hW, hsame⟩ := X.leave (v := v) hv hlk
  subst eT
  exact ⟨_, _, k fs hr, hrun, hended, _, _, rfl, hQ, ⟨_, rfl⟩, hW, hsame.mono hc hs⟩
theorem own_retI (X : Stand p l e R s m args below meth c T locs cells slots) (hx : p.tables.exec = Jvm.exec) {pc : Nat} {Ls : Array Slot} {z : Int32} {rest : List Value} (hret : meth.sig.returnType = some .int) (hd : decode c.code pc = .ok (.ireturn, 1)) (hlk : meth.locks = false)
    {Q : Option Value → Heap → List Loc → Prop} {h : Heap} (eT : T.heap = h) (hQ : Q (some (.int z)) h locs) {cc ss : Nat} (hc : cells ≤ cc) (hs : slots ≤ ss) :
    own_Gs p e below (fun o t => ∃ v L, o = .returned v ∧ Q v t.heap L ∧ FrameEnd s o t L cc ss) (T.setTop (mkF m pc Ls (.int z :: rest))) :=
  own_ret X (fun h => by rw [hret] at h; cases h) hlk (fun fs hr => retI X hx hret hd hr) eT hQ hc hs
theorem own_retN (X : Stand p l e R s m args below meth c T locs cells slots) (hx : p.tables.exec = Jvm.exec) {pc : Nat} {Ls : Array Slot} {z : Int32} {t : FieldType} {rest : List Value} (hret : meth.sig.returnType = some t) (ht : t = .boolean ∨ t = .byte ∨ t = .char ∨ t = .short) (hd : decode c.code pc = .ok (.ireturn, 1)) (hlk : meth.locks = false)
    {Q : Option Value → Heap → List Loc → Prop} {h : Heap} (eT : T.heap = h) (hQ : Q (some (.int (nar t z))) h locs) {cc ss : Nat} (hc : cells ≤ cc) (hs : slots ≤ ss) :
    own_Gs p e below (fun o t => ∃ v L, o = .returned v ∧ Q v t.heap L ∧ FrameEnd s o t L cc ss) (T.setTop (mkF m pc Ls (.int z :: rest))) :=
  own_ret X (fun h => by rw [hret] at h; cases h) hlk (fun fs hr => retN X hx hret ht hd hr) eT hQ hc hs
theorem own_retL (X : Stand p l e R s m args below meth c T locs cells slots) (hx : p.tables.exec = Jvm.exec) {pc : Nat} {Ls : Array Slot} {z : Int64} {rest : List Value} (hret : meth.sig.returnType = some .long) (hd : decode c.code pc = .ok (.lreturn, 1)) (hlk : meth.locks = false)
    {Q : Option Value → Heap → List Loc → Prop} {h : Heap} (eT : T.heap = h) (hQ : Q (some (.long z)) h locs) {cc ss : Nat} (hc : cells ≤ cc) (hs : slots ≤ ss) :
    own_Gs p e below (fun o t => ∃ v L, o = .returned v ∧ Q v t.heap L ∧ FrameEnd s o t L cc ss) (T.setTop (mkF m pc Ls (.long z :: rest))) :=
  own_ret X (fun h => by rw [hret] at h; cases h) hlk (fun fs hr => retOut X hx hret rfl (Or.inr (Or.inl ⟨rfl, rfl, z, rfl⟩)) hd hr) eT hQ hc hs
theorem own_retA (X : Stand p l e R s m args below meth c T locs cells slots) (hx : p.tables.exec = Jvm.exec) {pc : Nat} {Ls : Array Slot} {z : Value} {t : FieldType} {rest : List Value} (hret : meth.sig.returnType = some t) (ht : t.isReference = true) (hz : z.isRef = true) (hd : decode c.code pc = .ok (.areturn, 1)) (hlk : meth.locks = false)
    {Q : Option Value → Heap → List Loc → Prop} {h : Heap} (eT : T.heap = h) (hQ : Q (some z) h locs) {cc ss : Nat} (hc : cells ≤ cc) (hs : slots ≤ ss) :
    own_Gs p e below (fun o t => ∃ v L, o = .returned v ∧ Q v t.heap L ∧ FrameEnd s o t L cc ss) (T.setTop (mkF m pc Ls (z :: rest))) :=
  own_ret X (fun h => by rw [hret] at h; cases h) hlk (fun fs hr => retOut X hx hret (by cases t <;> first | rfl | (cases z <;> first | rfl | (simp [Value.isRef] at hz) | (simp [FieldType.isReference] at ht))) (Or.inr (Or.inr (Or.inr (Or.inr ⟨rfl, ht, hz⟩)))) hd hr) eT hQ hc hs
theorem own_retV (X : Stand p l e R s m args below meth c T locs cells slots) (hx : p.tables.exec = Jvm.exec) {pc : Nat} {Ls : Array Slot} (hret : meth.sig.returnType = none) (hd : decode c.code pc = .ok (.return_, 1)) (hlk : meth.locks = false)
    {Q : Option Value → Heap → List Loc → Prop} {h : Heap} (eT : T.heap = h) (hQ : Q none h locs) {cc ss : Nat} (hc : cells ≤ cc) (hs : slots ≤ ss) :
    own_Gs p e below (fun o t => ∃ v L, o = .returned v ∧ Q v t.heap L ∧ FrameEnd s o t L cc ss) (T.setTop (mkF m pc Ls [])) :=
  own_ret X (fun _ => rfl) hlk (fun fs hr => X.returnOut hx hret hd hr) eT hQ hc hs
theorem own_retNW {vm0 : Vm} {k0 : Nat} (X : Stand p l e R (s.setVm vm0) m args below meth c T locs cells slots) (hS : s.Since vm0 k0) {h : Heap} (hk : k0 ≤ h.size) (hx : p.tables.exec = Jvm.exec) {pc : Nat} {Ls : Array Slot} {z : Int32} {t : FieldType} {rest : List Value} (hret : meth.sig.returnType = some t) (ht : t = .boolean ∨ t = .byte ∨ t = .char ∨ t = .short) (hd : decode c.code pc = .ok (.ireturn, 1)) (hlk : meth.locks = false)
    {Q : Option Value → Heap → List Loc → Prop} (eT : T.heap = h) (hQ : Q (some (.int (nar t z))) h locs) {cc ss : Nat} (hc : cells ≤ cc) (hs : slots ≤ ss) :
    own_Gs p e below (fun o t => ∃ v L, o = .returned v ∧ Q v t.heap L ∧ ReturnedEndW s o t L cc ss) (T.setTop (mkF m pc Ls (.int z :: rest))) := by
  subst eT
  obtain ⟨fs, hr, hrun, hended, h1, h2, h3, h4⟩ := X.leaveW hS hk (v := some (.int (nar t z))) (fun h => by rw [hret] at h; cases h) hlk
  exact ⟨_, _, retN X hx hret ht hd hr, hrun, hended, _, _, rfl, hQ, h1, h2, h3, h4.mono hc hs⟩
-- steps
theorem own_iloadN {Φ : Outcome → State → Prop} (X : Stand p l e R s m args below meth c T locs cells slots) (hx : p.tables.exec = Jvm.exec) {pc : Nat} (pc' : Nat) {Ls : Array Slot} {S : List Value} {k : Fin 4} {v : Int32} (hd : decode c.code pc = .ok (.iload_n k, 1)) (hl : Ls[k.val]? = some (.val (.int v))) (h : own_Gs p e below Φ (T.setTop (mkF m pc' Ls (.int v :: S)))) (hp : pc + 1 = pc' := by rfl) : own_Gs p e below Φ (T.setTop (mkF m pc Ls (S))) := by
  subst hp; exact own_st (fun t k => XS.iloadN X.here hx rfl hd hl k) h
theorem own_iload {Φ : Outcome → State → Prop} (X : Stand p l e R s m args below meth c T locs cells slots) (hx : p.tables.exec = Jvm.exec) {pc : Nat} (pc' : Nat) {Ls : Array Slot} {S : List Value} {k : Nat} {v : Int32} (hd : decode c.code pc = .ok (.iload k, 2)) (hl : Ls[k]? = some (.val (.int v))) (h : own_Gs p e below Φ (T.setTop (mkF m pc' Ls (.int v :: S)))) (hp : pc + 2 = pc' := by rfl) : own_Gs p e below Φ (T.setTop (mkF m pc Ls (S))) := by
  subst hp; exact own_st (fun t k => XS.iload X.here hx rfl hd hl k) h
theorem own_lloadN {Φ : Outcome → State → Prop} (X : Stand p l e R s m args below meth c T locs cells slots) (hx : p.tables.exec = Jvm.exec) {pc : Nat} (pc' : Nat) {Ls : Array Slot} {S : List Value} {k : Fin 4} {v : Int64} (hd : decode c.code pc = .ok (.lload_n k, 1)) (hl : Ls[k.val]? = some (.val (.long v))) (h : own_Gs p e below Φ (T.setTop (mkF m pc' Ls (.long v :: S)))) (hp : pc + 1 = pc' := by rfl) : own_Gs p e below Φ (T.setTop (mkF m pc Ls (S))) := by
  subst hp; exact own_st (fun t k => XS.lloadN X.here hx rfl hd hl k) h
theorem own_lload {Φ : Outcome → State → Prop} (X : Stand p l e R s m args below meth c T locs cells slots) (hx : p.tables.exec = Jvm.exec) {pc : Nat} (pc' : Nat) {Ls : Array Slot} {S : List Value} {k : Nat} {v : Int64} (hd : decode c.code pc = .ok (.lload k, 2)) (hl : Ls[k]? = some (.val (.long v))) (h : own_Gs p e below Φ (T.setTop (mkF m pc' Ls (.long v :: S)))) (hp : pc + 2 = pc' := by rfl) : own_Gs p e below Φ (T.setTop (mkF m pc Ls (S))) := by
  subst hp; exact own_st (fun t k => XS.lload X.here hx rfl hd hl k) h
theorem own_aloadN {Φ : Outcome → State → Prop} (X : Stand p l e R s m args below meth c T locs cells slots) (hx : p.tables.exec = Jvm.exec) {pc : Nat} (pc' : Nat) {Ls : Array Slot} {S : List Value} {k : Fin 4} {v : Value} (hd : decode c.code pc = .ok (.aload_n k, 1)) (hl : Ls[k.val]? = some (.val v)) (hv : v.isRef = true) (h : own_Gs p e below Φ (T.setTop (mkF m pc' Ls (v :: S)))) (hp : pc + 1 = pc' := by rfl) : own_Gs p e below Φ (T.setTop (mkF m pc Ls (S))) := by
  subst hp; exact own_st (fun t k => XS.aloadN X.here hx rfl hd hl hv k) h
theorem own_aload {Φ : Outcome → State → Prop} (X : Stand p l e R s m args below meth c T locs cells slots) (hx : p.tables.exec = Jvm.exec) {pc : Nat} (pc' : Nat) {Ls : Array Slot} {S : List Value} {k : Nat} {v : Value} (hd : decode c.code pc = .ok (.aload k, 2)) (hl : Ls[k]? = some (.val v)) (hv : v.isRef = true) (h : own_Gs p e below Φ (T.setTop (mkF m pc' Ls (v :: S)))) (hp : pc + 2 = pc' := by rfl) : own_Gs p e below Φ (T.setTop (mkF m pc Ls (S))) := by
  subst hp; exact own_st (fun t k => XS.aload X.here hx rfl hd hl hv k) h
theorem own_istoreN {Φ : Outcome → State → Prop} (X : Stand p l e R s m args below meth c T locs cells slots) (hx : p.tables.exec = Jvm.exec) {pc : Nat} (pc' : Nat) {Ls : Array Slot} {S : List Value} {k : Fin 4} {v : Int32} (l' : Array Slot) (hd : decode c.code pc = .ok (.istore_n k, 1)) (hl : storeLocals Ls k.val (.int v) = some l') (h : own_Gs p e below Φ (T.setTop (mkF m pc' l' (S)))) (hp : pc + 1 = pc' := by rfl) : own_Gs p e below Φ (T.setTop (mkF m pc Ls (.int v :: S))) := by
  subst hp; exact own_st (fun t k => XS.istoreN X.here hx rfl hd rfl hl k) h
theorem own_istore {Φ : Outcome → State → Prop} (X : Stand p l e R s m args below meth c T locs cells slots) (hx : p.tables.exec = Jvm.exec) {pc : Nat} (pc' : Nat) {Ls : Array Slot} {S : List Value} {k : Nat} {v : Int32} (l' : Array Slot) (hd : decode c.code pc = .ok (.istore k, 2)) (hl : storeLocals Ls k (.int v) = some l') (h : own_Gs p e below Φ (T.setTop (mkF m pc' l' (S)))) (hp : pc + 2 = pc' := by rfl) : own_Gs p e below Φ (T.setTop (mkF m pc Ls (.int v :: S))) := by
  subst hp; exact own_st (fun t k => XS.istore X.here hx rfl hd rfl hl k) h
theorem own_lstoreN {Φ : Outcome → State → Prop} (X : Stand p l e R s m args below meth c T locs cells slots) (hx : p.tables.exec = Jvm.exec) {pc : Nat} (pc' : Nat) {Ls : Array Slot} {S : List Value} {k : Fin 4} {v : Int64} (l' : Array Slot) (hd : decode c.code pc = .ok (.lstore_n k, 1)) (hl : storeLocals Ls k.val (.long v) = some l') (h : own_Gs p e below Φ (T.setTop (mkF m pc' l' (S)))) (hp : pc + 1 = pc' := by rfl) : own_Gs p e below Φ (T.setTop (mkF m pc Ls (.long v :: S))) := by
  subst hp; exact own_st (fun t k => XS.lstoreN X.here hx rfl hd rfl hl k) h
theorem own_lstore {Φ : Outcome → State → Prop} (X : Stand p l e R s m args below meth c T locs cells slots) (hx : p.tables.exec = Jvm.exec) {pc : Nat} (pc' : Nat) {Ls : Array Slot} {S : List Value} {k : Nat} {v : Int64} (l' : Array Slot) (hd : decode c.code pc = .ok (.lstore k, 2)) (hl : storeLocals Ls k (.long v) = some l') (h : own_Gs p e below Φ (T.setTop (mkF m pc' l' (S)))) (hp : pc + 2 = pc' := by rfl) : own_Gs p e below Φ (T.setTop (mkF m pc Ls (.long v :: S))) := by
  subst hp; exact own_st (fun t k => XS.lstore X.here hx rfl hd rfl hl k) h
theorem own_astoreN {Φ : Outcome → State → Prop} (X : Stand p l e R s m args below meth c T locs cells slots) (hx : p.tables.exec = Jvm.exec) {pc : Nat} (pc' : Nat) {Ls : Array Slot} {S : List Value} {k : Fin 4} {v : Value} (l' : Array Slot) (hd : decode c.code pc = .ok (.astore_n k, 1)) (hv : v.isRef = true) (hl : storeLocals Ls k.val v = some l') (h : own_Gs p e below Φ (T.setTop (mkF m pc' l' (S)))) (hp : pc + 1 = pc' := by rfl) : own_Gs p e below Φ (T.setTop (mkF m pc Ls (v :: S))) := by
  subst hp; exact own_st (fun t k => XS.astoreN X.here hx rfl hd rfl hv hl k) h
theorem own_astore {Φ : Outcome → State → Prop} (X : Stand p l e R s m args below meth c T locs cells slots) (hx : p.tables.exec = Jvm.exec) {pc : Nat} (pc' : Nat) {Ls : Array Slot} {S : List Value} {k : Nat} {v : Value} (l' : Array Slot) (hd : decode c.code pc = .ok (.astore k, 2)) (hv : v.isRef = true) (hl : storeLocals Ls k v = some l') (h : own_Gs p e below Φ (T.setTop (mkF m pc' l' (S)))) (hp : pc + 2 = pc' := by rfl) : own_Gs p e below Φ (T.setTop (mkF m pc Ls (v :: S))) := by
  subst hp; exact own_st (fun t k => XS.astore X.here hx rfl hd rfl hv hl k) h
theorem own_iconst {Φ : Outcome → State → Prop} (X : Stand p l e R s m args below meth c T locs cells slots) (hx : p.tables.exec = Jvm.exec) {pc : Nat} (pc' : Nat) {Ls : Array Slot} {S : List Value} {i : Int} (z : Int32) (hd : decode c.code pc = .ok (.iconst i, 1)) (hz : Int32.ofInt i = z) (h : own_Gs p e below Φ (T.setTop (mkF m pc' Ls (.int z :: S)))) (hp : pc + 1 = pc' := by rfl) : own_Gs p e below Φ (T.setTop (mkF m pc Ls (S))) := by
  subst hp; exact own_st (fun t k => XS.iconst X.here hx rfl hd (hz ▸ k)) h
theorem own_bipush {Φ : Outcome → State → Prop} (X : Stand p l e R s m args below meth c T locs cells slots) (hx : p.tables.exec = Jvm.exec) {pc : Nat} (pc' : Nat) {Ls : Array Slot} {S : List Value} {i : Int} (z : Int32) (hd : decode c.code pc = .ok (.bipush i, 2)) (hz : (Int8.ofInt i).toInt32 = z) (h : own_Gs p e below Φ (T.setTop (mkF m pc' Ls (.int z :: S)))) (hp : pc + 2 = pc' := by rfl) : own_Gs p e below Φ (T.setTop (mkF m pc Ls (S))) := by
  subst hp; exact own_st (fun t k => XS.bipush X.here hx rfl hd (hz ▸ k)) h
theorem own_sipush {Φ : Outcome → State → Prop} (X : Stand p l e R s m args below meth c T locs cells slots) (hx : p.tables.exec = Jvm.exec) {pc : Nat} (pc' : Nat) {Ls : Array Slot} {S : List Value} {i : Int} (z : Int32) (hd : decode c.code pc = .ok (.sipush i, 3)) (hz : (Int16.ofInt i).toInt32 = z) (h : own_Gs p e below Φ (T.setTop (mkF m pc' Ls (.int z :: S)))) (hp : pc + 3 = pc' := by rfl) : own_Gs p e below Φ (T.setTop (mkF m pc Ls (S))) := by
  subst hp; exact own_st (fun t k => XS.sipush X.here hx rfl hd (hz ▸ k)) h
theorem own_lconst {Φ : Outcome → State → Prop} (X : Stand p l e R s m args below meth c T locs cells slots) (hx : p.tables.exec = Jvm.exec) {pc : Nat} (pc' : Nat) {Ls : Array Slot} {S : List Value} {i : Fin 2} (z : Int64) (hd : decode c.code pc = .ok (.lconst i, 1)) (hz : Int64.ofNat i = z) (h : own_Gs p e below Φ (T.setTop (mkF m pc' Ls (.long z :: S)))) (hp : pc + 1 = pc' := by rfl) : own_Gs p e below Φ (T.setTop (mkF m pc Ls (S))) := by
  subst hp; exact own_st (fun t k => XS.lconst X.here hx rfl hd (hz ▸ k)) h
theorem own_aconstNull {Φ : Outcome → State → Prop} (X : Stand p l e R s m args below meth c T locs cells slots) (hx : p.tables.exec = Jvm.exec) {pc : Nat} (pc' : Nat) {Ls : Array Slot} {S : List Value}  (hd : decode c.code pc = .ok (.aconst_null, 1)) (h : own_Gs p e below Φ (T.setTop (mkF m pc' Ls (.null :: S)))) (hp : pc + 1 = pc' := by rfl) : own_Gs p e below Φ (T.setTop (mkF m pc Ls (S))) := by
  subst hp; exact own_st (fun t k => XS.aconstNull X.here hx rfl hd k) h
theorem own_iadd {Φ : Outcome → State → Prop} (X : Stand p l e R s m args below meth c T locs cells slots) (hx : p.tables.exec = Jvm.exec) {pc : Nat} (pc' : Nat) {Ls : Array Slot} {S : List Value} {x y : Int32} (hd : decode c.code pc = .ok (.iadd, 1)) (h : own_Gs p e below Φ (T.setTop (mkF m pc' Ls (.int (x + y) :: S)))) (hp : pc + 1 = pc' := by rfl) : own_Gs p e below Φ (T.setTop (mkF m pc Ls (.int y :: .int x :: S))) := by
  subst hp; exact own_st (fun t k => XS.iadd X.here hx rfl hd rfl k) h
theorem own_ladd {Φ : Outcome → State → Prop} (X : Stand p l e R s m args below meth c T locs cells slots) (hx : p.tables.exec = Jvm.exec) {pc : Nat} (pc' : Nat) {Ls : Array Slot} {S : List Value} {x y : Int64} (hd : decode c.code pc = .ok (.ladd, 1)) (h : own_Gs p e below Φ (T.setTop (mkF m pc' Ls (.long (x + y) :: S)))) (hp : pc + 1 = pc' := by rfl) : own_Gs p e below Φ (T.setTop (mkF m pc Ls (.long y :: .long x :: S))) := by
  subst hp; exact own_st (fun t k => XS.ladd X.here hx rfl hd rfl k) h
theorem own_isub {Φ : Outcome → State → Prop} (X : Stand p l e R s m args below meth c T locs cells slots) (hx : p.tables.exec = Jvm.exec) {pc : Nat} (pc' : Nat) {Ls : Array Slot} {S : List Value} {x y : Int32} (hd : decode c.code pc = .ok (.isub, 1)) (h : own_Gs p e below Φ (T.setTop (mkF m pc' Ls (.int (x - y) :: S)))) (hp : pc + 1 = pc' := by rfl) : own_Gs p e below Φ (T.setTop (mkF m pc Ls (.int y :: .int x :: S))) := by
  subst hp; exact own_st (fun t k => XS.isub X.here hx rfl hd rfl k) h
theorem own_lsub {Φ : Outcome → State → Prop} (X : Stand p l e R s m args below meth c T locs cells slots) (hx : p.tables.exec = Jvm.exec) {pc : Nat} (pc' : Nat) {Ls : Array Slot} {S : List Value} {x y : Int64} (hd : decode c.code pc = .ok (.lsub, 1)) (h : own_Gs p e below Φ (T.setTop (mkF m pc' Ls (.long (x - y) :: S)))) (hp : pc + 1 = pc' := by rfl) : own_Gs p e below Φ (T.setTop (mkF m pc Ls (.long y :: .long x :: S))) := by
  subst hp; exact own_st (fun t k => XS.lsub X.here hx rfl hd rfl k) h
theorem own_imul {Φ : Outcome → State → Prop} (X : Stand p l e R s m args below meth c T locs cells slots) (hx : p.tables.exec = Jvm.exec) {pc : Nat} (pc' : Nat) {Ls : Array Slot} {S : List Value} {x y : Int32} (hd : decode c.code pc = .ok (.imul, 1)) (h : own_Gs p e below Φ (T.setTop (mkF m pc' Ls (.int (x * y) :: S)))) (hp : pc + 1 = pc' := by rfl) : own_Gs p e below Φ (T.setTop (mkF m pc Ls (.int y :: .int x :: S))) := by
  subst hp; exact own_st (fun t k => XS.imul X.here hx rfl hd rfl k) h
theorem own_lmul {Φ : Outcome → State → Prop} (X : Stand p l e R s m args below meth c T locs cells slots) (hx : p.tables.exec = Jvm.exec) {pc : Nat} (pc' : Nat) {Ls : Array Slot} {S : List Value} {x y : Int64} (hd : decode c.code pc = .ok (.lmul, 1)) (h : own_Gs p e below Φ (T.setTop (mkF m pc' Ls (.long (x * y) :: S)))) (hp : pc + 1 = pc' := by rfl) : own_Gs p e below Φ (T.setTop (mkF m pc Ls (.long y :: .long x :: S))) := by
  subst hp; exact own_st (fun t k => XS.lmul X.here hx rfl hd rfl k) h
theorem own_iand {Φ : Outcome → State → Prop} (X : Stand p l e R s m args below meth c T locs cells slots) (hx : p.tables.exec = Jvm.exec) {pc : Nat} (pc' : Nat) {Ls : Array Slot} {S : List Value} {x y : Int32} (hd : decode c.code pc = .ok (.iand, 1)) (h : own_Gs p e below Φ (T.setTop (mkF m pc' Ls (.int (x &&& y) :: S)))) (hp : pc + 1 = pc' := by rfl) : own_Gs p e below Φ (T.setTop (mkF m pc Ls (.int y :: .int x :: S))) := by
  subst hp; exact own_st (fun t k => XS.iand X.here hx rfl hd rfl k) h
theorem own_land {Φ : Outcome → State → Prop} (X : Stand p l e R s m args below meth c T locs cells slots) (hx : p.tables.exec = Jvm.exec) {pc : Nat} (pc' : Nat) {Ls : Array Slot} {S : List Value} {x y : Int64} (hd : decode c.code pc = .ok (.land, 1)) (h : own_Gs p e below Φ (T.setTop (mkF m pc' Ls (.long (x &&& y) :: S)))) (hp : pc + 1 = pc' := by rfl) : own_Gs p e below Φ (T.setTop (mkF m pc Ls (.long y :: .long x :: S))) := by
  subst hp; exact own_st (fun t k => XS.land X.here hx rfl hd rfl k) h
theorem own_ior {Φ : Outcome → State → Prop} (X : Stand p l e R s m args below meth c T locs cells slots) (hx : p.tables.exec = Jvm.exec) {pc : Nat} (pc' : Nat) {Ls : Array Slot} {S : List Value} {x y : Int32} (hd : decode c.code pc = .ok (.ior, 1)) (h : own_Gs p e below Φ (T.setTop (mkF m pc' Ls (.int (x ||| y) :: S)))) (hp : pc + 1 = pc' := by rfl) : own_Gs p e below Φ (T.setTop (mkF m pc Ls (.int y :: .int x :: S))) := by
  subst hp; exact own_st (fun t k => XS.ior X.here hx rfl hd rfl k) h
theorem own_lor {Φ : Outcome → State → Prop} (X : Stand p l e R s m args below meth c T locs cells slots) (hx : p.tables.exec = Jvm.exec) {pc : Nat} (pc' : Nat) {Ls : Array Slot} {S : List Value} {x y : Int64} (hd : decode c.code pc = .ok (.lor, 1)) (h : own_Gs p e below Φ (T.setTop (mkF m pc' Ls (.long (x ||| y) :: S)))) (hp : pc + 1 = pc' := by rfl) : own_Gs p e below Φ (T.setTop (mkF m pc Ls (.long y :: .long x :: S))) := by
  subst hp; exact own_st (fun t k => XS.lor X.here hx rfl hd rfl k) h
theorem own_ixor {Φ : Outcome → State → Prop} (X : Stand p l e R s m args below meth c T locs cells slots) (hx : p.tables.exec = Jvm.exec) {pc : Nat} (pc' : Nat) {Ls : Array Slot} {S : List Value} {x y : Int32} (hd : decode c.code pc = .ok (.ixor, 1)) (h : own_Gs p e below Φ (T.setTop (mkF m pc' Ls (.int (x ^^^ y) :: S)))) (hp : pc + 1 = pc' := by rfl) : own_Gs p e below Φ (T.setTop (mkF m pc Ls (.int y :: .int x :: S))) := by
  subst hp; exact own_st (fun t k => XS.ixor X.here hx rfl hd rfl k) h
theorem own_lxor {Φ : Outcome → State → Prop} (X : Stand p l e R s m args below meth c T locs cells slots) (hx : p.tables.exec = Jvm.exec) {pc : Nat} (pc' : Nat) {Ls : Array Slot} {S : List Value} {x y : Int64} (hd : decode c.code pc = .ok (.lxor, 1)) (h : own_Gs p e below Φ (T.setTop (mkF m pc' Ls (.long (x ^^^ y) :: S)))) (hp : pc + 1 = pc' := by rfl) : own_Gs p e below Φ (T.setTop (mkF m pc Ls (.long y :: .long x :: S))) := by
  subst hp; exact own_st (fun t k => XS.lxor X.here hx rfl hd rfl k) h
theorem own_idiv {Φ : Outcome → State → Prop} (X : Stand p l e R s m args below meth c T locs cells slots) (hx : p.tables.exec = Jvm.exec) {pc : Nat} (pc' : Nat) {Ls : Array Slot} {S : List Value} {x y : Int32} (hd : decode c.code pc = .ok (.idiv, 1)) (hy : y ≠ 0) (h : own_Gs p e below Φ (T.setTop (mkF m pc' Ls (.int (x / y) :: S)))) (hp : pc + 1 = pc' := by rfl) : own_Gs p e below Φ (T.setTop (mkF m pc Ls (.int y :: .int x :: S))) := by
  subst hp; exact own_st (fun t k => XS.idiv X.here hx rfl hd rfl hy k) h
theorem own_ldiv {Φ : Outcome → State → Prop} (X : Stand p l e R s m args below meth c T locs cells slots) (hx : p.tables.exec = Jvm.exec) {pc : Nat} (pc' : Nat) {Ls : Array Slot} {S : List Value} {x y : Int64} (hd : decode c.code pc = .ok (.ldiv, 1)) (hy : y ≠ 0) (h : own_Gs p e below Φ (T.setTop (mkF m pc' Ls (.long (x / y) :: S)))) (hp : pc + 1 = pc' := by rfl) : own_Gs p e below Φ (T.setTop (mkF m pc Ls (.long y :: .long x :: S))) := by
  subst hp; exact own_st (fun t k => XS.ldiv X.here hx rfl hd rfl hy k) h
theorem own_irem {Φ : Outcome → State → Prop} (X : Stand p l e R s m args below meth c T locs cells slots) (hx : p.tables.exec = Jvm.exec) {pc : Nat} (pc' : Nat) {Ls : Array Slot} {S : List Value} {x y : Int32} (hd : decode c.code pc = .ok (.irem, 1)) (hy : y ≠ 0) (h : own_Gs p e below Φ (T.setTop (mkF m pc' Ls (.int (x % y) :: S)))) (hp : pc + 1 = pc' := by rfl) : own_Gs p e below Φ (T.setTop (mkF m pc Ls (.int y :: .int x :: S))) := by
  subst hp; exact own_st (fun t k => iremM X hx rfl hd rfl hy k) h
theorem own_lrem {Φ : Outcome → State → Prop} (X : Stand p l e R s m args below meth c T locs cells slots) (hx : p.tables.exec = Jvm.exec) {pc : Nat} (pc' : Nat) {Ls : Array Slot} {S : List Value} {x y : Int64} (hd : decode c.code pc = .ok (.lrem, 1)) (hy : y ≠ 0) (h : own_Gs p e below Φ (T.setTop (mkF m pc' Ls (.long (x % y) :: S)))) (hp : pc + 1 = pc' := by rfl) : own_Gs p e below Φ (T.setTop (mkF m pc Ls (.long y :: .long x :: S))) := by
  subst hp; exact own_st (fun t k => XS.lrem X.here hx rfl hd rfl hy (by rw [lrem_mod]; exact k)) h
theorem own_ishl {Φ : Outcome → State → Prop} (X : Stand p l e R s m args below meth c T locs cells slots) (hx : p.tables.exec = Jvm.exec) {pc : Nat} (pc' : Nat) {Ls : Array Slot} {S : List Value} {x y : Int32} (hd : decode c.code pc = .ok (.ishl, 1)) (h : own_Gs p e below Φ (T.setTop (mkF m pc' Ls (.int (x <<< (y &&& 31)) :: S)))) (hp : pc + 1 = pc' := by rfl) : own_Gs p e below Φ (T.setTop (mkF m pc Ls (.int y :: .int x :: S))) := by
  subst hp; exact own_st (fun t k => XS.ishl X.here hx rfl hd rfl k) h
theorem own_ishr {Φ : Outcome → State → Prop} (X : Stand p l e R s m args below meth c T locs cells slots) (hx : p.tables.exec = Jvm.exec) {pc : Nat} (pc' : Nat) {Ls : Array Slot} {S : List Value} {x y : Int32} (hd : decode c.code pc = .ok (.ishr, 1)) (h : own_Gs p e below Φ (T.setTop (mkF m pc' Ls (.int (x >>> (y &&& 31)) :: S)))) (hp : pc + 1 = pc' := by rfl) : own_Gs p e below Φ (T.setTop (mkF m pc Ls (.int y :: .int x :: S))) := by
  subst hp; exact own_st (fun t k => XS.ishr X.here hx rfl hd rfl k) h
theorem own_iushr {Φ : Outcome → State → Prop} (X : Stand p l e R s m args below meth c T locs cells slots) (hx : p.tables.exec = Jvm.exec) {pc : Nat} (pc' : Nat) {Ls : Array Slot} {S : List Value} {x y : Int32} (hd : decode c.code pc = .ok (.iushr, 1)) (h : own_Gs p e below Φ (T.setTop (mkF m pc' Ls (.int ((x.toUInt32 >>> (y &&& 31).toUInt32).toInt32) :: S)))) (hp : pc + 1 = pc' := by rfl) : own_Gs p e below Φ (T.setTop (mkF m pc Ls (.int y :: .int x :: S))) := by
  subst hp; exact own_st (fun t k => XS.iushr X.here hx rfl hd rfl k) h
theorem own_lshl {Φ : Outcome → State → Prop} (X : Stand p l e R s m args below meth c T locs cells slots) (hx : p.tables.exec = Jvm.exec) {pc : Nat} (pc' : Nat) {Ls : Array Slot} {S : List Value} {x : Int64} {y : Int32} (hd : decode c.code pc = .ok (.lshl, 1)) (h : own_Gs p e below Φ (T.setTop (mkF m pc' Ls (.long (x <<< (y &&& 0x3f).toInt64) :: S)))) (hp : pc + 1 = pc' := by rfl) : own_Gs p e below Φ (T.setTop (mkF m pc Ls (.int y :: .long x :: S))) := by
  subst hp; exact own_st (fun t k => XS.lshl X.here hx rfl hd rfl k) h
theorem own_lshr {Φ : Outcome → State → Prop} (X : Stand p l e R s m args below meth c T locs cells slots) (hx : p.tables.exec = Jvm.exec) {pc : Nat} (pc' : Nat) {Ls : Array Slot} {S : List Value} {x : Int64} {y : Int32} (hd : decode c.code pc = .ok (.lshr, 1)) (h : own_Gs p e below Φ (T.setTop (mkF m pc' Ls (.long (x >>> (y &&& 0x3f).toInt64) :: S)))) (hp : pc + 1 = pc' := by rfl) : own_Gs p e below Φ (T.setTop (mkF m pc Ls (.int y :: .long x :: S))) := by
  subst hp; exact own_st (fun t k => XS.lshr X.here hx rfl hd rfl k) h
theorem own_lushr {Φ : Outcome → State → Prop} (X : Stand p l e R s m args below meth c T locs cells slots) (hx : p.tables.exec = Jvm.exec) {pc : Nat} (pc' : Nat) {Ls : Array Slot} {S : List Value} {x : Int64} {y : Int32} (hd : decode c.code pc = .ok (.lushr, 1)) (h : own_Gs p e below Φ (T.setTop (mkF m pc' Ls (.long ((x.toUInt64 >>> (y &&& 0x3f).toInt64.toUInt64).toInt64) :: S)))) (hp : pc + 1 = pc' := by rfl) : own_Gs p e below Φ (T.setTop (mkF m pc Ls (.int y :: .long x :: S))) := by
  subst hp; exact own_st (fun t k => XS.lushr X.here hx rfl hd rfl k) h
theorem own_ineg {Φ : Outcome → State → Prop} (X : Stand p l e R s m args below meth c T locs cells slots) (hx : p.tables.exec = Jvm.exec) {pc : Nat} (pc' : Nat) {Ls : Array Slot} {S : List Value} {x : Int32} (hd : decode c.code pc = .ok (.ineg, 1)) (h : own_Gs p e below Φ (T.setTop (mkF m pc' Ls (.int (-x) :: S)))) (hp : pc + 1 = pc' := by rfl) : own_Gs p e below Φ (T.setTop (mkF m pc Ls (.int x :: S))) := by
  subst hp; exact own_st (fun t k => XS.ineg X.here hx rfl hd rfl k) h
theorem own_lneg {Φ : Outcome → State → Prop} (X : Stand p l e R s m args below meth c T locs cells slots) (hx : p.tables.exec = Jvm.exec) {pc : Nat} (pc' : Nat) {Ls : Array Slot} {S : List Value} {x : Int64} (hd : decode c.code pc = .ok (.lneg, 1)) (h : own_Gs p e below Φ (T.setTop (mkF m pc' Ls (.long (-x) :: S)))) (hp : pc + 1 = pc' := by rfl) : own_Gs p e below Φ (T.setTop (mkF m pc Ls (.long x :: S))) := by
  subst hp; exact own_st (fun t k => XS.lneg X.here hx rfl hd rfl k) h
theorem own_i2l {Φ : Outcome → State → Prop} (X : Stand p l e R s m args below meth c T locs cells slots) (hx : p.tables.exec = Jvm.exec) {pc : Nat} (pc' : Nat) {Ls : Array Slot} {S : List Value} {x : Int32} (hd : decode c.code pc = .ok (.i2l, 1)) (h : own_Gs p e below Φ (T.setTop (mkF m pc' Ls (.long (x.toInt64) :: S)))) (hp : pc + 1 = pc' := by rfl) : own_Gs p e below Φ (T.setTop (mkF m pc Ls (.int x :: S))) := by
  subst hp; exact own_st (fun t k => XS.i2l X.here hx rfl hd rfl k) h
theorem own_l2i {Φ : Outcome → State → Prop} (X : Stand p l e R s m args below meth c T locs cells slots) (hx : p.tables.exec = Jvm.exec) {pc : Nat} (pc' : Nat) {Ls : Array Slot} {S : List Value} {x : Int64} (hd : decode c.code pc = .ok (.l2i, 1)) (h : own_Gs p e below Φ (T.setTop (mkF m pc' Ls (.int (x.toInt32) :: S)))) (hp : pc + 1 = pc' := by rfl) : own_Gs p e below Φ (T.setTop (mkF m pc Ls (.long x :: S))) := by
  subst hp; exact own_st (fun t k => XS.l2i X.here hx rfl hd rfl k) h
theorem own_i2b {Φ : Outcome → State → Prop} (X : Stand p l e R s m args below meth c T locs cells slots) (hx : p.tables.exec = Jvm.exec) {pc : Nat} (pc' : Nat) {Ls : Array Slot} {S : List Value} {x : Int32} (hd : decode c.code pc = .ok (.i2b, 1)) (h : own_Gs p e below Φ (T.setTop (mkF m pc' Ls (.int (x.toInt8.toInt32) :: S)))) (hp : pc + 1 = pc' := by rfl) : own_Gs p e below Φ (T.setTop (mkF m pc Ls (.int x :: S))) := by
  subst hp; exact own_st (fun t k => XS.i2b X.here hx rfl hd rfl k) h
theorem own_i2s {Φ : Outcome → State → Prop} (X : Stand p l e R s m args below meth c T locs cells slots) (hx : p.tables.exec = Jvm.exec) {pc : Nat} (pc' : Nat) {Ls : Array Slot} {S : List Value} {x : Int32} (hd : decode c.code pc = .ok (.i2s, 1)) (h : own_Gs p e below Φ (T.setTop (mkF m pc' Ls (.int (x.toInt16.toInt32) :: S)))) (hp : pc + 1 = pc' := by rfl) : own_Gs p e below Φ (T.setTop (mkF m pc Ls (.int x :: S))) := by
  subst hp; exact own_st (fun t k => XS.i2s X.here hx rfl hd rfl k) h
theorem own_i2c {Φ : Outcome → State → Prop} (X : Stand p l e R s m args below meth c T locs cells slots) (hx : p.tables.exec = Jvm.exec) {pc : Nat} (pc' : Nat) {Ls : Array Slot} {S : List Value} {x : Int32} (hd : decode c.code pc = .ok (.i2c, 1)) (h : own_Gs p e below Φ (T.setTop (mkF m pc' Ls (.int (x.toUInt32.toUInt16.toUInt32.toInt32) :: S)))) (hp : pc + 1 = pc' := by rfl) : own_Gs p e below Φ (T.setTop (mkF m pc Ls (.int x :: S))) := by
  subst hp; exact own_st (fun t k => XS.i2c X.here hx rfl hd rfl k) h
theorem own_lcmp {Φ : Outcome → State → Prop} (X : Stand p l e R s m args below meth c T locs cells slots) (hx : p.tables.exec = Jvm.exec) {pc : Nat} (pc' : Nat) {Ls : Array Slot} {S : List Value} {x y : Int64} (hd : decode c.code pc = .ok (.lcmp, 1)) (h : own_Gs p e below Φ (T.setTop (mkF m pc' Ls (.int (lcmpW x y) :: S)))) (hp : pc + 1 = pc' := by rfl) : own_Gs p e below Φ (T.setTop (mkF m pc Ls (.long y :: .long x :: S))) := by
  subst hp; exact own_st (fun t k => XS.lcmp X.here hx rfl hd rfl k) h
theorem own_iinc {Φ : Outcome → State → Prop} (X : Stand p l e R s m args below meth c T locs cells slots) (hx : p.tables.exec = Jvm.exec) {pc : Nat} (pc' : Nat) {Ls : Array Slot} {S : List Value} {i : Nat} {cst : Int} {x : Int32} (z : Int32) (l' : Array Slot) (hd : decode c.code pc = .ok (.iinc i cst, 3)) (hl : Ls[i]? = some (.val (.int x))) (hz : Int32.ofInt cst = z) (hl' : storeLocals Ls i (.int (x + z)) = some l') (h : own_Gs p e below Φ (T.setTop (mkF m pc' l' (S)))) (hp : pc + 3 = pc' := by rfl) : own_Gs p e below Φ (T.setTop (mkF m pc Ls (S))) := by
  subst hp; exact own_st (fun t k => XS.iinc X.here hx rfl hd hl (hz ▸ hl') k) h
theorem own_dup {Φ : Outcome → State → Prop} (X : Stand p l e R s m args below meth c T locs cells slots) (hx : p.tables.exec = Jvm.exec) {pc : Nat} (pc' : Nat) {Ls : Array Slot} {S : List Value} {v : Value} (hd : decode c.code pc = .ok (.dup, 1)) (hc : v.category = 1) (h : own_Gs p e below Φ (T.setTop (mkF m pc' Ls (v :: v :: S)))) (hp : pc + 1 = pc' := by rfl) : own_Gs p e below Φ (T.setTop (mkF m pc Ls (v :: S))) := by
  subst hp; exact own_st (fun t k => XS.dup X.here hx rfl hd rfl hc k) h
theorem own_pop {Φ : Outcome → State → Prop} (X : Stand p l e R s m args below meth c T locs cells slots) (hx : p.tables.exec = Jvm.exec) {pc : Nat} (pc' : Nat) {Ls : Array Slot} {S : List Value} {v : Value} (hd : decode c.code pc = .ok (.pop, 1)) (hc : v.category = 1) (h : own_Gs p e below Φ (T.setTop (mkF m pc' Ls (S)))) (hp : pc + 1 = pc' := by rfl) : own_Gs p e below Φ (T.setTop (mkF m pc Ls (v :: S))) := by
  subst hp; exact own_st (fun t k => XS.pop X.here hx rfl hd rfl hc k) h
theorem own_dupX1 {Φ : Outcome → State → Prop} (X : Stand p l e R s m args below meth c T locs cells slots) (hx : p.tables.exec = Jvm.exec) {pc : Nat} (pc' : Nat) {Ls : Array Slot} {S : List Value} {v w : Value} (hd : decode c.code pc = .ok (.dup_x1, 1)) (hc : v.category = 1) (hc' : w.category = 1) (h : own_Gs p e below Φ (T.setTop (mkF m pc' Ls (v :: w :: v :: S)))) (hp : pc + 1 = pc' := by rfl) : own_Gs p e below Φ (T.setTop (mkF m pc Ls (v :: w :: S))) := by
  subst hp; exact own_st (fun t k => XS.dupX1 X.here hx rfl hd rfl hc hc' k) h
theorem own_dup2 {Φ : Outcome → State → Prop} (X : Stand p l e R s m args below meth c T locs cells slots) (hx : p.tables.exec = Jvm.exec) {pc : Nat} (pc' : Nat) {Ls : Array Slot} {S : List Value} {v w : Value} (hd : decode c.code pc = .ok (.dup2, 1)) (hc : v.category = 1) (hc' : w.category = 1) (h : own_Gs p e below Φ (T.setTop (mkF m pc' Ls (v :: w :: v :: w :: S)))) (hp : pc + 1 = pc' := by rfl) : own_Gs p e below Φ (T.setTop (mkF m pc Ls (v :: w :: S))) := by
  subst hp; exact own_st (fun t k => Jvm.Free.XT.dup2 X.here hx rfl hd rfl hc hc' k) h
theorem own_dup2L {Φ : Outcome → State → Prop} (X : Stand p l e R s m args below meth c T locs cells slots) (hx : p.tables.exec = Jvm.exec) {pc : Nat} (pc' : Nat) {Ls : Array Slot} {S : List Value} {x : Int64} (hd : decode c.code pc = .ok (.dup2, 1)) (h : own_Gs p e below Φ (T.setTop (mkF m pc' Ls (.long x :: .long x :: S)))) (hp : pc + 1 = pc' := by rfl) : own_Gs p e below Φ (T.setTop (mkF m pc Ls (.long x :: S))) := by
  subst hp; exact own_st (fun t k => Jvm.Free.XT.dup2L X.here hx rfl hd rfl k) h
theorem own_goto {Φ : Outcome → State → Prop} (X : Stand p l e R s m args below meth c T locs cells slots) (hx : p.tables.exec = Jvm.exec) {pc : Nat} (pc' : Nat) {Ls : Array Slot} {S : List Value} {o : Int}  (hd : decode c.code pc = .ok (.goto o, 3)) (h : own_Gs p e below Φ (T.setTop (mkF m pc' Ls S))) (hp : decide (0 ≤ (pc : Int) + o ∧ ((pc : Int) + o).toNat = pc') = true := by rfl) : own_Gs p e below Φ (T.setTop (mkF m pc Ls (S))) := by
  have q := of_decide_eq_true hp; exact own_st (fun t k => XS.goto X.here hx rfl (pc0 := pc) (pc' := pc') rfl hd q.1 q.2 k) h
theorem own_ifYes {Φ : Outcome → State → Prop} (X : Stand p l e R s m args below meth c T locs cells slots) (hx : p.tables.exec = Jvm.exec) {pc : Nat} (pc' : Nat) {Ls : Array Slot} {S : List Value} {o : Int} {cd : ClassFile.Cond} {x : Int32} (hd : decode c.code pc = .ok (.ifCond cd o, 3)) (hc : if_icmp.holds cd x 0 = true) (h : own_Gs p e below Φ (T.setTop (mkF m pc' Ls S))) (hp : decide (0 ≤ (pc : Int) + o ∧ ((pc : Int) + o).toNat = pc') = true := by rfl) : own_Gs p e below Φ (T.setTop (mkF m pc Ls (.int x :: S))) := by
  have q := of_decide_eq_true hp; exact own_st (fun t k => XS.ifYes X.here hx rfl (pc0 := pc) (pc' := pc') rfl hd rfl ((if0 _ _).trans hc) q.1 q.2 k) h
theorem own_ifNo {Φ : Outcome → State → Prop} (X : Stand p l e R s m args below meth c T locs cells slots) (hx : p.tables.exec = Jvm.exec) {pc : Nat} (pc' : Nat) {Ls : Array Slot} {S : List Value} {o : Int} {cd : ClassFile.Cond} {x : Int32} (hd : decode c.code pc = .ok (.ifCond cd o, 3)) (hc : if_icmp.holds cd x 0 = false) (h : own_Gs p e below Φ (T.setTop (mkF m pc' Ls S))) (hp : pc + 3 = pc' := by rfl) : own_Gs p e below Φ (T.setTop (mkF m pc Ls (.int x :: S))) := by
  subst hp; exact own_st (fun t k => XS.ifNo X.here hx rfl hd rfl ((if0 _ _).trans hc) k) h
theorem own_icmpYes {Φ : Outcome → State → Prop} (X : Stand p l e R s m args below meth c T locs cells slots) (hx : p.tables.exec = Jvm.exec) {pc : Nat} (pc' : Nat) {Ls : Array Slot} {S : List Value} {o : Int} {cd : ClassFile.Cond} {x y : Int32} (hd : decode c.code pc = .ok (.if_icmp cd o, 3)) (hc : if_icmp.holds cd x y = true) (h : own_Gs p e below Φ (T.setTop (mkF m pc' Ls S))) (hp : decide (0 ≤ (pc : Int) + o ∧ ((pc : Int) + o).toNat = pc') = true := by rfl) : own_Gs p e below Φ (T.setTop (mkF m pc Ls (.int y :: .int x :: S))) := by
  have q := of_decide_eq_true hp; exact own_st (fun t k => XS.icmpYes X.here hx rfl (pc0 := pc) (pc' := pc') rfl hd rfl hc q.1 q.2 k) h
theorem own_icmpNo {Φ : Outcome → State → Prop} (X : Stand p l e R s m args below meth c T locs cells slots) (hx : p.tables.exec = Jvm.exec) {pc : Nat} (pc' : Nat) {Ls : Array Slot} {S : List Value} {o : Int} {cd : ClassFile.Cond} {x y : Int32} (hd : decode c.code pc = .ok (.if_icmp cd o, 3)) (hc : if_icmp.holds cd x y = false) (h : own_Gs p e below Φ (T.setTop (mkF m pc' Ls S))) (hp : pc + 3 = pc' := by rfl) : own_Gs p e below Φ (T.setTop (mkF m pc Ls (.int y :: .int x :: S))) := by
  subst hp; exact own_st (fun t k => XS.icmpNo X.here hx rfl hd rfl hc k) h
theorem own_ifnullYes {Φ : Outcome → State → Prop} (X : Stand p l e R s m args below meth c T locs cells slots) (hx : p.tables.exec = Jvm.exec) {pc : Nat} (pc' : Nat) {Ls : Array Slot} {S : List Value} {o : Int}  (hd : decode c.code pc = .ok (.ifnull o, 3)) (h : own_Gs p e below Φ (T.setTop (mkF m pc' Ls S))) (hp : decide (0 ≤ (pc : Int) + o ∧ ((pc : Int) + o).toNat = pc') = true := by rfl) : own_Gs p e below Φ (T.setTop (mkF m pc Ls (.null :: S))) := by
  have q := of_decide_eq_true hp; exact own_st (fun t k => XS.ifnullYes X.here hx rfl (pc0 := pc) (pc' := pc') rfl hd rfl q.1 q.2 k) h
theorem own_ifnullNo {Φ : Outcome → State → Prop} (X : Stand p l e R s m args below meth c T locs cells slots) (hx : p.tables.exec = Jvm.exec) {pc : Nat} (pc' : Nat) {Ls : Array Slot} {S : List Value} {o : Int} {b : Addr} (hd : decode c.code pc = .ok (.ifnull o, 3)) (h : own_Gs p e below Φ (T.setTop (mkF m pc' Ls S))) (hp : pc + 3 = pc' := by rfl) : own_Gs p e below Φ (T.setTop (mkF m pc Ls (.ref b :: S))) := by
  subst hp; exact own_st (fun t k => XS.ifnullNo X.here hx rfl hd rfl k) h
theorem own_ifnonnullYes {Φ : Outcome → State → Prop} (X : Stand p l e R s m args below meth c T locs cells slots) (hx : p.tables.exec = Jvm.exec) {pc : Nat} (pc' : Nat) {Ls : Array Slot} {S : List Value} {o : Int} {b : Addr} (hd : decode c.code pc = .ok (.ifnonnull o, 3)) (h : own_Gs p e below Φ (T.setTop (mkF m pc' Ls S))) (hp : decide (0 ≤ (pc : Int) + o ∧ ((pc : Int) + o).toNat = pc') = true := by rfl) : own_Gs p e below Φ (T.setTop (mkF m pc Ls (.ref b :: S))) := by
  have q := of_decide_eq_true hp; exact own_st (fun t k => XS.ifnonnullYes X.here hx rfl (pc0 := pc) (pc' := pc') rfl hd rfl q.1 q.2 k) h
theorem own_ifnonnullNo {Φ : Outcome → State → Prop} (X : Stand p l e R s m args below meth c T locs cells slots) (hx : p.tables.exec = Jvm.exec) {pc : Nat} (pc' : Nat) {Ls : Array Slot} {S : List Value} {o : Int}  (hd : decode c.code pc = .ok (.ifnonnull o, 3)) (h : own_Gs p e below Φ (T.setTop (mkF m pc' Ls S))) (hp : pc + 3 = pc' := by rfl) : own_Gs p e below Φ (T.setTop (mkF m pc Ls (.null :: S))) := by
  subst hp; exact own_st (fun t k => XS.ifnonnullNo X.here hx rfl hd rfl k) h
theorem own_acmp {Φ : Outcome → State → Prop} (X : Stand p l e R s m args below meth c T locs cells slots) (hx : p.tables.exec = Jvm.exec) {pc : Nat} (pc' : Nat) {Ls : Array Slot} {S : List Value} {o : Int} {cd : ACond} {v w : Value} (same : Bool) (hd : decode c.code pc = .ok (.if_acmp cd o, 3)) (h1 : v.isRef = true) (h2 : w.isRef = true) (hq : decide (v = w) = same) (h : own_Gs p e below Φ (T.setTop (mkF m pc' Ls S))) (hp : decide (0 ≤ (pc : Int) + o ∧ pc' = if acV cd same = true then ((pc : Int) + o).toNat else pc + 3) = true := by rfl) : own_Gs p e below Φ (T.setTop (mkF m pc Ls (w :: v :: S))) := by
  have q := of_decide_eq_true hp; exact own_st (fun t k => Jvm.RoadKit.acmp (g := mkF m pc Ls (w :: v :: S)) X hx rfl h1 h2 (pc0 := pc) (pc' := pc') (same := same) rfl hd rfl hq q.1 q.2 k) h
theorem own_ldcI {Φ : Outcome → State → Prop} (X : Stand p l e R s m args below meth c T locs cells slots) (hx : p.tables.exec = Jvm.exec) {pc : Nat} (pc' : Nat) {Ls : Array Slot} {S : List Value} {own : String} {index : Nat} {v : Int32} (hown : s.vm.findClass own = some m.cls) (hw : (Jvm.Cond.constant own index v).before args s = true) (hd : decode c.code pc = .ok (.ldc index, 2)) (h : own_Gs p e below Φ (T.setTop (mkF m pc' Ls (.int v :: S)))) (hp : pc + 2 = pc' := by rfl) : own_Gs p e below Φ (T.setTop (mkF m pc Ls S)) := by
  subst hp; exact own_st (fun t k => X.ldcInt hx hown hw (g := mkF m pc Ls S) rfl hd _ k) h
theorem own_ldcwI {Φ : Outcome → State → Prop} (X : Stand p l e R s m args below meth c T locs cells slots) (hx : p.tables.exec = Jvm.exec) {pc : Nat} (pc' : Nat) {Ls : Array Slot} {S : List Value} {own : String} {index : Nat} {v : Int32} (hown : s.vm.findClass own = some m.cls) (hw : (Jvm.Cond.constant own index v).before args s = true) (hd : decode c.code pc = .ok (.ldc_w index, 3)) (h : own_Gs p e below Φ (T.setTop (mkF m pc' Ls (.int v :: S)))) (hp : pc + 3 = pc' := by rfl) : own_Gs p e below Φ (T.setTop (mkF m pc Ls S)) := by
  subst hp; exact own_st (fun t k => X.ldcwInt hx hown hw (g := mkF m pc Ls S) rfl hd _ k) h
theorem own_ldcL {Φ : Outcome → State → Prop} (X : Stand p l e R s m args below meth c T locs cells slots) (hx : p.tables.exec = Jvm.exec) {pc : Nat} (pc' : Nat) {Ls : Array Slot} {S : List Value} {own : String} {index : Nat} {v : Int64} (hown : s.vm.findClass own = some m.cls) (hw : (Jvm.Cond.constantLong own index v).before args s = true) (hd : decode c.code pc = .ok (.ldc2_w index, 3)) (h : own_Gs p e below Φ (T.setTop (mkF m pc' Ls (.long v :: S)))) (hp : pc + 3 = pc' := by rfl) : own_Gs p e below Φ (T.setTop (mkF m pc Ls S)) := by
  subst hp; exact own_st (fun t k => X.ldc2Long hx hown hw (g := mkF m pc Ls S) rfl hd _ k) h
theorem own_pop2L {Φ : Outcome → State → Prop} (X : Stand p l e R s m args below meth c T locs cells slots) (hx : p.tables.exec = Jvm.exec) {pc : Nat} (pc' : Nat) {Ls : Array Slot} {S : List Value} {x : Int64} (hd : decode c.code pc = .ok (.pop2, 1)) (h : own_Gs p e below Φ (T.setTop (mkF m pc' Ls S))) (hp : pc + 1 = pc' := by rfl) : own_Gs p e below Φ (T.setTop (mkF m pc Ls (.long x :: S))) := by
  subst hp
  refine own_st (fun t k => ?_) h
  show Steps p.tables e below (T.setTop { method := m, pc := pc, locals := Ls, stack := .long x :: S, locked := none }) _
  jvm_step X.here [X.here.top, hx, hd, Value.category]
  exact k
-- end of steps
theorem own_leafI {z w : Int32} (h : z = w) : some (Value.int z) = some (Value.int w) := by rw [h]
theorem own_leafJ {z w : Int64} (h : z = w) : some (Value.long z) = some (Value.long w) := by rw [h]
theorem own_leafR {z w : Addr} (h : z = w) : some (Value.ref z) = some (Value.ref w) := by rw [h]
theorem own_selfsel {Z s : State} {a0 args : Array Value} {y : MethodName} {n : Nat} (hZ : Z.Warmed39 s.vm) (wi : (Jvm.Cond.instantiable y.cls n).before a0 Z = true) (wm : (Jvm.Cond.instanceMethod y).before a0 Z = true) (wp : (Jvm.Cond.privateMethod y).before a0 Z = true) (hy : y.cls ≠ "java/lang/invoke/MethodHandle" ∧ y.cls ≠ "java/lang/invoke/VarHandle") : (Jvm.Cond.selects y.cls y y).before args s = true := by
  have wi' : (Jvm.Cond.instantiable y.cls n).before args s = true := mvT hZ wi
  obtain ⟨c, k, h1, h2, h3, h4, h5, h6⟩ := Cond.instantiable_spec wi'
  exact selects_self_of_private h1 h2 (by simp only [Bool.or_eq_false_iff] at h4; exact h4.1) (Cond.privateMethod_at (mvP hZ wp (args := #[]))) (mvT hZ wm) hy
theorem own_sta {Z : State} {a0 : Array Value} {C n d K : String} (hx : (Jvm.Cond.exactly (Term.static C n d) K).value a0 Z none Z [] = some true) (hi : (Jvm.Cond.initializedFor C n d).before a0 Z = true ∨ ((Jvm.Cond.initialized C).before a0 Z = true ∧ (Jvm.Cond.laysStatic C n d).before a0 Z = true)) :
    ∃ a : Addr, (Term.static C n d).eval a0 Z none [] Z = some (.ref a) ∧ Sta Z Z.heap C n d (.ref a) ∧ Exa Z Z.heap a K := by
  obtain ⟨a, ha⟩ := exa_v hx
  exact ⟨a, ha, Sta.start ha hi, Exa.start ha hx⟩
theorem own_fldI {Z : State} {a0 : Array Value} {t : Term} {a : Addr} {C n d : String} {k : Int32} (ev : t.eval a0 Z none [] Z = some (.ref a)) (h : (Jvm.Cond.eq (Term.field t C n d) (Term.int k)).value a0 Z none Z [] = some true) : Fld Z Z.heap a C n d (.int k) := by
  refine Fld.start ?_
  rw [← fld_at (args := a0) (first := Z) (o := none) (idx := []) ev]
  obtain ⟨x, y, h1, h2, h3, h4⟩ := cmp_v (Or.inl h)
  rw [Term.int_eval] at h2
  cases h2
  obtain ⟨z, rfl⟩ := h4
  have q : (Jvm.Cond.eq (Term.field t C n d) (Term.int k)).value a0 Z none Z [] = some (decide (z = k)) := Cond.eq_ints h1 (Term.int_eval k)
  rw [h1, gotT q h]
end Own
section OwnArr
variable {p : Program} {l : Launch} {e : Env} {R : Room} {s : State} {m : MethodId} {args : Array Value} {below : List Frame} {meth : Method} {c : Code} {T : State} {locs : List Loc} {cells slots : Nat}
theorem own_len0 {Z : State} {a0 : Array Value} {t : Term} {a : Addr} {cl : Cell} {ty : FieldType} {n : Int32} (ev : t.eval a0 Z none [] Z = some (.ref a)) (A : Arr Z Z.heap a cl ty) (h : (Jvm.Cond.eq (Term.length t) (Term.int n)).value a0 Z none Z [] = some true) : cl.slots.size < 2 ^ 31 ∧ cl.slots.size.toInt32 = n := by
  obtain ⟨x, y, h1, h2, h3, h4⟩ := cmp_v (Or.inl h)
  rw [Term.int_eval] at h2
  cases h2
  obtain ⟨z, rfl⟩ := h4
  have q : z = n := gotT (Cond.eq_ints h1 (Term.int_eval n)) h
  subst q
  have ha : Z.arrayAt? a = some cl := by
    obtain ⟨a', cl', e1, e2, -⟩ := Term.length_spec h1
    cases ev.symm.trans e1
    have h5 := e2
    simp only [State.arrayAt?, Option.bind_eq_bind, Option.bind_eq_some_iff] at h5
    obtain ⟨c5, hc5, k5, hk5, h5⟩ := h5
    rw [A.1] at hc5
    cases hc5
    split at h5
    · cases h5
    · split at h5
      · cases h5; exact e2
      · cases h5
  by_cases hl : cl.slots.size < 2 ^ 31
  · rw [len_f ev ha hl] at h1
    cases h1
    exact ⟨hl, rfl⟩
  · simp [Term.eval, ev, ha, hl] at h1
theorem own_elem0 {Z : State} {a0 : Array Value} {t u : Term} {a b : Addr} {cl : Cell} {ty : FieldType} {j : Int32} (ev : t.eval a0 Z none [] Z = some (.ref a)) (A : Arr Z Z.heap a cl ty) (eu : u.eval a0 Z none [] Z = some (.ref b)) (h : (Jvm.Cond.eq (Term.elem t (Term.int j)) u).value a0 Z none Z [] = some true) : cl.slots[j.toNatClampNeg]? = some (.ref b) := by
  obtain ⟨x, y, h1, h2, h3, h4⟩ := cmp_v (Or.inl h)
  cases eu.symm.trans h2
  obtain ⟨i1, i2⟩ := elem_in h1 ev (Term.int_eval j) A.1
  have hx : x.isRef = true := h4.2
  have q := gotT (eq_R h1 h2 hx rfl) h
  rw [i2, q]
theorem own_clone {Z : State} {h : Heap} (X : Stand p l e R s m args below meth c T locs cells slots) (hx : p.tables.exec = Jvm.exec) (hZ : Z.Warmed39 s.vm) {a0 : Array Value} {own ad : String} {index : Nat} (hown : s.vm.findClass own = some m.cls)
    (w1 : (Jvm.Cond.methodLink own index ⟨ad, "clone", "()Ljava/lang/Object;"⟩).before a0 Z = true) (w2 : (Jvm.Cond.sameMethod ad "java/lang/Object" "clone" "()Ljava/lang/Object;").before a0 Z = true) (w3 : (Jvm.Cond.native ⟨"java/lang/Object", "clone", "()Ljava/lang/Object;"⟩).before a0 Z = true)
    (w4 : (Jvm.Cond.instanceMethod ⟨"java/lang/Object", "clone", "()Ljava/lang/Object;"⟩).before a0 Z = true) (w5 : (Jvm.Cond.selects ad ⟨ad, "clone", "()Ljava/lang/Object;"⟩ ⟨"java/lang/Object", "clone", "()Ljava/lang/Object;"⟩).before a0 Z = true) (w6 : (Jvm.Cond.castable ad "java/lang/Cloneable").before a0 Z = true)
    (eT : T.heap = h) {a : Addr} {ty : FieldType} {k : ClassId} {z : Int32} {vs : List Value} {dv : Value} (F : Arv Z h a k ty z vs dv) (E : Exa Z h a ad) {g : JFrame} (hg : g.method = m) (hsize : g.locals.size = c.maxLocals) {rest : List Value} (hst : g.stack = .ref a :: rest) (hd : decode c.code g.pc = .ok (.invokevirtual index, 3))
    (hf : 1 ≤ R.frames) {W cap : Nat} (hW : 2 * g.monitorRoom + (rest.map fun v => v.category).sum ≤ W) (hl : W + 14 ≤ R.locals) (hcap : z.toNatClampNeg ≤ cap) (hc : cells + 1 ≤ R.cells) (hsl : slots + cap ≤ R.slots) :
    ∃ T' h', Stand p l e R s m args below meth c T' locs (cells + 1) (slots + cap) ∧ T'.heap = h' ∧ Ext h h' ∧ Arv Z h' h.size k ty z vs dv ∧ Exa Z h' h.size ad ∧
      ∀ target, Steps p.tables e below (T'.setTop { g with pc := g.pc + 3, stack := .ref h.size :: rest }) target → Steps p.tables e below (T.setTop g) target := by
  obtain ⟨cl, A, q1, S, q3, H, G⟩ := F
  have FC : FitC Z cl := fitC_of A fun i hi v hv => by rw [H i hi] at hv; cases hv; exact G i hi
  obtain ⟨T', h', X', e', ex, A', E', st⟩ := cloneA X hx hZ hown w1 w2 w3 w4 w5 w6 eT A E FC hg hsize hst hd hf hW hl (by rw [S]; exact hcap) hc hsl
  exact ⟨T', h', X', e', ex, ⟨cloneOf cl, A', q1, S, q3, H, G⟩, E', st⟩
end OwnArr

theorem own_d2_0 : decode prog_14_method_1_code 0 = .ok (.getstatic 16, 3) := by decide +kernel
theorem own_d2_3 : decode prog_14_method_1_code 3 = .ok (.invokevirtual 20, 3) := by decide +kernel
theorem own_d2_6 : decode prog_14_method_1_code 6 = .ok (.checkcast 21, 3) := by decide +kernel
theorem own_d2_9 : decode prog_14_method_1_code 9 = .ok (.areturn, 1) := by decide +kernel
theorem own_pn0 : plainName "com/example/fates/fates/MisfirePolicy" = true := by first | (simp [plainName, overriddenIn]; done) | decide +kernel
theorem own_ef2 (m : MethodId) : entryFrame m #[] 0 = mkF m 0 #[] [] := by first | (simp [entryFrame, mkF, argsToLocals, Value.category]; done) | rfl
def own_Q2 (Z : State) (w__VALUES : Addr) (w_IGNORE : Addr) (w_SMART : Addr) (w_FIRE_NOW : Addr) (w_DO_NOTHING : Addr) (S_w__VALUES : Sta Z Z.heap "com/example/fates/fates/MisfirePolicy" "$VALUES" "[Lcom/example/fates/fates/MisfirePolicy;" (.ref w__VALUES)) (S_w_IGNORE : Sta Z Z.heap "com/example/fates/fates/MisfirePolicy" "IGNORE" "Lcom/example/fates/fates/MisfirePolicy;" (.ref w_IGNORE)) (S_w_SMART : Sta Z Z.heap "com/example/fates/fates/MisfirePolicy" "SMART" "Lcom/example/fates/fates/MisfirePolicy;" (.ref w_SMART)) (S_w_FIRE_NOW : Sta Z Z.heap "com/example/fates/fates/MisfirePolicy" "FIRE_NOW" "Lcom/example/fates/fates/MisfirePolicy;" (.ref w_FIRE_NOW)) (S_w_DO_NOTHING : Sta Z Z.heap "com/example/fates/fates/MisfirePolicy" "DO_NOTHING" "Lcom/example/fates/fates/MisfirePolicy;" (.ref w_DO_NOTHING)) (E_w__VALUES : Exa Z Z.heap w__VALUES "[Lcom/example/fates/fates/MisfirePolicy;") (E_w_IGNORE : Exa Z Z.heap w_IGNORE "com/example/fates/fates/MisfirePolicy") (E_w_SMART : Exa Z Z.heap w_SMART "com/example/fates/fates/MisfirePolicy") (E_w_FIRE_NOW : Exa Z Z.heap w_FIRE_NOW "com/example/fates/fates/MisfirePolicy") (E_w_DO_NOTHING : Exa Z Z.heap w_DO_NOTHING "com/example/fates/fates/MisfirePolicy") (F_code_w_IGNORE : Fld Z Z.heap w_IGNORE "com/example/fates/fates/MisfirePolicy" "code" "I" (.int (-1 : Int32))) (F_code_w_SMART : Fld Z Z.heap w_SMART "com/example/fates/fates/MisfirePolicy" "code" "I" (.int (0 : Int32))) (F_code_w_FIRE_NOW : Fld Z Z.heap w_FIRE_NOW "com/example/fates/fates/MisfirePolicy" "code" "I" (.int (1 : Int32))) (F_code_w_DO_NOTHING : Fld Z Z.heap w_DO_NOTHING "com/example/fates/fates/MisfirePolicy" "code" "I" (.int (2 : Int32))) (ne_w_IGNORE_w_SMART : w_IGNORE ≠ w_SMART) (ne_w_IGNORE_w_FIRE_NOW : w_IGNORE ≠ w_FIRE_NOW) (ne_w_IGNORE_w_DO_NOTHING : w_IGNORE ≠ w_DO_NOTHING) (ne_w_SMART_w_FIRE_NOW : w_SMART ≠ w_FIRE_NOW) (ne_w_SMART_w_DO_NOTHING : w_SMART ≠ w_DO_NOTHING) (ne_w_FIRE_NOW_w_DO_NOTHING : w_FIRE_NOW ≠ w_DO_NOTHING) (kV : ClassId) (V_V : Arv Z Z.heap w__VALUES kV (.object "com/example/fates/fates/MisfirePolicy") (4 : Int32) [(.ref w_IGNORE), (.ref w_SMART), (.ref w_FIRE_NOW), (.ref w_DO_NOTHING)] .null)  (h0 : Heap) (n0 : Nat) (v : Option Value) (h : Heap) (L : List Loc) : Prop := ∃ bb : Addr, v = some (.ref bb) ∧ Fr n0 L ∧ Keep h0 h [] ∧ h0.size ≤ bb ∧ Arv Z h bb kV (.object "com/example/fates/fates/MisfirePolicy") (4 : Int32) [(.ref w_IGNORE), (.ref w_SMART), (.ref w_FIRE_NOW), (.ref w_DO_NOTHING)] .null
set_option maxRecDepth 65536 in
set_option maxHeartbeats 40000000 in
theorem own_rm2 (l : Launch) (Z : State) (a0 : Array Value) (hw : ∀ d ∈ tables_1, d.before a0 Z = true) (ws : List Jvm.Cond) (w__VALUES : Addr) (w_IGNORE : Addr) (w_SMART : Addr) (w_FIRE_NOW : Addr) (w_DO_NOTHING : Addr) (S_w__VALUES : Sta Z Z.heap "com/example/fates/fates/MisfirePolicy" "$VALUES" "[Lcom/example/fates/fates/MisfirePolicy;" (.ref w__VALUES)) (S_w_IGNORE : Sta Z Z.heap "com/example/fates/fates/MisfirePolicy" "IGNORE" "Lcom/example/fates/fates/MisfirePolicy;" (.ref w_IGNORE)) (S_w_SMART : Sta Z Z.heap "com/example/fates/fates/MisfirePolicy" "SMART" "Lcom/example/fates/fates/MisfirePolicy;" (.ref w_SMART)) (S_w_FIRE_NOW : Sta Z Z.heap "com/example/fates/fates/MisfirePolicy" "FIRE_NOW" "Lcom/example/fates/fates/MisfirePolicy;" (.ref w_FIRE_NOW)) (S_w_DO_NOTHING : Sta Z Z.heap "com/example/fates/fates/MisfirePolicy" "DO_NOTHING" "Lcom/example/fates/fates/MisfirePolicy;" (.ref w_DO_NOTHING)) (E_w__VALUES : Exa Z Z.heap w__VALUES "[Lcom/example/fates/fates/MisfirePolicy;") (E_w_IGNORE : Exa Z Z.heap w_IGNORE "com/example/fates/fates/MisfirePolicy") (E_w_SMART : Exa Z Z.heap w_SMART "com/example/fates/fates/MisfirePolicy") (E_w_FIRE_NOW : Exa Z Z.heap w_FIRE_NOW "com/example/fates/fates/MisfirePolicy") (E_w_DO_NOTHING : Exa Z Z.heap w_DO_NOTHING "com/example/fates/fates/MisfirePolicy") (F_code_w_IGNORE : Fld Z Z.heap w_IGNORE "com/example/fates/fates/MisfirePolicy" "code" "I" (.int (-1 : Int32))) (F_code_w_SMART : Fld Z Z.heap w_SMART "com/example/fates/fates/MisfirePolicy" "code" "I" (.int (0 : Int32))) (F_code_w_FIRE_NOW : Fld Z Z.heap w_FIRE_NOW "com/example/fates/fates/MisfirePolicy" "code" "I" (.int (1 : Int32))) (F_code_w_DO_NOTHING : Fld Z Z.heap w_DO_NOTHING "com/example/fates/fates/MisfirePolicy" "code" "I" (.int (2 : Int32))) (ne_w_IGNORE_w_SMART : w_IGNORE ≠ w_SMART) (ne_w_IGNORE_w_FIRE_NOW : w_IGNORE ≠ w_FIRE_NOW) (ne_w_IGNORE_w_DO_NOTHING : w_IGNORE ≠ w_DO_NOTHING) (ne_w_SMART_w_FIRE_NOW : w_SMART ≠ w_FIRE_NOW) (ne_w_SMART_w_DO_NOTHING : w_SMART ≠ w_DO_NOTHING) (ne_w_FIRE_NOW_w_DO_NOTHING : w_FIRE_NOW ≠ w_DO_NOTHING) (kV : ClassId) (V_V : Arv Z Z.heap w__VALUES kV (.object "com/example/fates/fates/MisfirePolicy") (4 : Int32) [(.ref w_IGNORE), (.ref w_SMART), (.ref w_FIRE_NOW), (.ref w_DO_NOTHING)] .null)  (h0 : Heap) (n0 : Nat) (Z0 : n0 ≤ h0.size) (O0 : Old Z n0 h0) :
    MetFree l (⟨"com/example/fates/fates/MisfirePolicy", "values", "()[Lcom/example/fates/fates/MisfirePolicy;"⟩ : MethodName) (head1 (Jvm.Cond.code (⟨"com/example/fates/fates/MisfirePolicy", "values", "()[Lcom/example/fates/fates/MisfirePolicy;"⟩ : MethodName) prog_14_method_1_code 0 (some (.array (.object "com/example/fates/fates/MisfirePolicy"))) :: ws) ({ frames := 1, cells := 1, slots := 4, locals := 14 } : Room)) (fun a U => a = #[] ∧ Z.Warmed39 U.vm ∧ U.heap = h0) (fun _ _ _ _ _ => True) (fun _ U o U' => ∃ v L, o = .returned v ∧ own_Q2 Z w__VALUES w_IGNORE w_SMART w_FIRE_NOW w_DO_NOTHING S_w__VALUES S_w_IGNORE S_w_SMART S_w_FIRE_NOW S_w_DO_NOTHING E_w__VALUES E_w_IGNORE E_w_SMART E_w_FIRE_NOW E_w_DO_NOTHING F_code_w_IGNORE F_code_w_SMART F_code_w_FIRE_NOW F_code_w_DO_NOTHING ne_w_IGNORE_w_SMART ne_w_IGNORE_w_FIRE_NOW ne_w_IGNORE_w_DO_NOTHING ne_w_SMART_w_FIRE_NOW ne_w_SMART_w_DO_NOTHING ne_w_FIRE_NOW_w_DO_NOTHING kV V_V  h0 n0 v U'.heap L ∧ FrameEnd U o U' L ({ frames := 1, cells := 1, slots := 4, locals := 14 } : Room).cells ({ frames := 1, cells := 1, slots := 4, locals := 14 } : Room).slots) := by
  refine MetFree.of_bodySF (plainFor_of_name own_pn0) hisR ?_
  intro p e s m args below meth c s₁ Bd hml0 hP hK
  obtain ⟨rfl, hZ, hh⟩ := hP
  have hx := Bd.exec
  have hby := Bd.bytes
  have hlk := Bd.notSynchronized
  have hrt := Bd.returns
  have hml : c.maxLocals = 0 := hml0
  have hown : s.vm.findClass "com/example/fates/fates/MisfirePolicy" = some m.cls := findClass_of_methodNamed Bd.named
  have hnm := (name_of_methodNamed Bd.named Bd.method).1
  have X0 : Stand p l e ({ frames := 1, cells := 1, slots := 4, locals := 14 } : Room) s m #[] below meth c s₁ [] 0 0 := Stand.of_body Bd
  have e0 : s₁.heap = h0 := by rw [← hh, Bd.state]; rfl
  have N0 := Fr.nil n0
  have KC0 := Keep.refl h0 []
  refine own_in (own_ef2 m ) ?_
  obtain ⟨T1, X1, e1, st1⟩ := getS2 X0 hx hZ hown (host := "") (Or.inl (hw _ (List.mem_of_getElem? (i := 7) rfl))) Via.refl e0 (S_w__VALUES.ext O0.2) (g := (mkF m 0 #[] [])) rfl (hb hby own_d2_0)
  refine own_st (G' := T1.setTop (mkF m 3 #[] [(.ref w__VALUES)])) st1 ?_
  have f3 := (V_V.ext O0.2)
  have f4 := (E_w__VALUES.ext O0.2)
  obtain ⟨T2, h2, X2, e2, E2, V2, A2, st2⟩ := own_clone X1 hx hZ hown (hw _ (List.mem_of_getElem? (i := 9) rfl)) (hw _ (List.mem_of_getElem? (i := 10) rfl)) (hw _ (List.mem_of_getElem? (i := 14) rfl)) (hw _ (List.mem_of_getElem? (i := 12) rfl)) (hw _ (List.mem_of_getElem? (i := 13) rfl)) (hw _ (List.mem_of_getElem? (i := 15) rfl)) e1 f3 f4 (g := (mkF m 3 #[] [(.ref w__VALUES)])) rfl (by rw [hml]; rfl) rfl (hb hby own_d2_3) (by decide) (W := 0) (by show 2 * 0 + _ ≤ _; exact Nat.le_of_eq rfl) (by decide) (cap := 4) (by decide) (by decide) (by decide)
  obtain ⟨b2, g2⟩ : ∃ z, z = h0.size := ⟨_, rfl⟩
  rw [← g2] at V2 A2 st2
  have ne5 : w__VALUES ≠ b2 := Nat.ne_of_lt (Nat.lt_of_lt_of_le f3.lt (Nat.le_of_eq g2.symm))
  have gt_b2 : n0 ≤ b2 := Nat.le_trans Z0 (Nat.le_of_eq g2.symm)
  have sz_b2 : h0.size ≤ b2 := Nat.le_trans KC0.1 (Nat.le_of_eq g2.symm)
  have O6 := O0.ext E2
  have KC7 := KC0.ext E2
  have Z8 := Nat.le_trans Z0 E2.1
  refine own_st (G' := T2.setTop (mkF m 6 #[] [(.ref b2)])) st2 ?_
  obtain ⟨T9, X9, e9, st9⟩ := castY X2 hx hZ hown (hw _ (List.mem_of_getElem? (i := 21) rfl)) e2 (Ins.self A2) (g := (mkF m 6 #[] [(.ref b2)])) rfl rfl (hb hby own_d2_6)
  refine own_st (G' := T9.setTop (mkF m 9 #[] [(.ref b2)])) st9 ?_
  exact own_retA (z := (.ref b2)) (Q := own_Q2 Z w__VALUES w_IGNORE w_SMART w_FIRE_NOW w_DO_NOTHING S_w__VALUES S_w_IGNORE S_w_SMART S_w_FIRE_NOW S_w_DO_NOTHING E_w__VALUES E_w_IGNORE E_w_SMART E_w_FIRE_NOW E_w_DO_NOTHING F_code_w_IGNORE F_code_w_SMART F_code_w_FIRE_NOW F_code_w_DO_NOTHING ne_w_IGNORE_w_SMART ne_w_IGNORE_w_FIRE_NOW ne_w_IGNORE_w_DO_NOTHING ne_w_SMART_w_FIRE_NOW ne_w_SMART_w_DO_NOTHING ne_w_FIRE_NOW_w_DO_NOTHING kV V_V  h0 n0) X9 hx hrt rfl rfl (hb hby own_d2_9) hlk e9 ⟨b2, rfl, N0, KC7, sz_b2, V2⟩ (by decide) (by decide)
theorem own_d1_0 : decode prog_14_method_5_code 0 = .ok (.invokestatic 39, 3) := by decide +kernel
theorem own_d1_3 : decode prog_14_method_5_code 3 = .ok (.astore_n 1, 1) := by decide +kernel
theorem own_d1_4 : decode prog_14_method_5_code 4 = .ok (.aload_n 1, 1) := by decide +kernel
theorem own_d1_5 : decode prog_14_method_5_code 5 = .ok (.arraylength, 1) := by decide +kernel
theorem own_d1_6 : decode prog_14_method_5_code 6 = .ok (.istore_n 2, 1) := by decide +kernel
theorem own_d1_7 : decode prog_14_method_5_code 7 = .ok (.iconst 0, 1) := by decide +kernel
theorem own_d1_8 : decode prog_14_method_5_code 8 = .ok (.istore_n 3, 1) := by decide +kernel
theorem own_d1_9 : decode prog_14_method_5_code 9 = .ok (.iload_n 3, 1) := by decide +kernel
theorem own_d1_10 : decode prog_14_method_5_code 10 = .ok (.iload_n 2, 1) := by decide +kernel
theorem own_d1_11 : decode prog_14_method_5_code 11 = .ok (.if_icmp .ge 26, 3) := by decide +kernel
theorem own_d1_14 : decode prog_14_method_5_code 14 = .ok (.aload_n 1, 1) := by decide +kernel
theorem own_d1_15 : decode prog_14_method_5_code 15 = .ok (.iload_n 3, 1) := by decide +kernel
theorem own_d1_16 : decode prog_14_method_5_code 16 = .ok (.aaload, 1) := by decide +kernel
theorem own_d1_17 : decode prog_14_method_5_code 17 = .ok (.astore 4, 2) := by decide +kernel
theorem own_d1_19 : decode prog_14_method_5_code 19 = .ok (.aload 4, 2) := by decide +kernel
theorem own_d1_21 : decode prog_14_method_5_code 21 = .ok (.getfield 35, 3) := by decide +kernel
theorem own_d1_24 : decode prog_14_method_5_code 24 = .ok (.iload_n 0, 1) := by decide +kernel
theorem own_d1_25 : decode prog_14_method_5_code 25 = .ok (.if_icmp .ne 6, 3) := by decide +kernel
theorem own_d1_28 : decode prog_14_method_5_code 28 = .ok (.aload 4, 2) := by decide +kernel
theorem own_d1_30 : decode prog_14_method_5_code 30 = .ok (.areturn, 1) := by decide +kernel
theorem own_pd0 : parseMethodDescriptor "()[Lcom/example/fates/fates/MisfirePolicy;" = some ⟨[], some (.array (.object "com/example/fates/fates/MisfirePolicy"))⟩ := by decide +kernel
theorem own_ef1c0 (m : MethodId) : entryFrame m #[(.int (-1 : Int32))] 5 = mkF m 0 #[.val (.int (-1 : Int32)), .unset, .unset, .unset, .unset] [] := by first | (simp [entryFrame, mkF, argsToLocals, Value.category]; done) | rfl
def own_Q1c0 (Z : State) (w__VALUES : Addr) (w_IGNORE : Addr) (w_SMART : Addr) (w_FIRE_NOW : Addr) (w_DO_NOTHING : Addr) (S_w__VALUES : Sta Z Z.heap "com/example/fates/fates/MisfirePolicy" "$VALUES" "[Lcom/example/fates/fates/MisfirePolicy;" (.ref w__VALUES)) (S_w_IGNORE : Sta Z Z.heap "com/example/fates/fates/MisfirePolicy" "IGNORE" "Lcom/example/fates/fates/MisfirePolicy;" (.ref w_IGNORE)) (S_w_SMART : Sta Z Z.heap "com/example/fates/fates/MisfirePolicy" "SMART" "Lcom/example/fates/fates/MisfirePolicy;" (.ref w_SMART)) (S_w_FIRE_NOW : Sta Z Z.heap "com/example/fates/fates/MisfirePolicy" "FIRE_NOW" "Lcom/example/fates/fates/MisfirePolicy;" (.ref w_FIRE_NOW)) (S_w_DO_NOTHING : Sta Z Z.heap "com/example/fates/fates/MisfirePolicy" "DO_NOTHING" "Lcom/example/fates/fates/MisfirePolicy;" (.ref w_DO_NOTHING)) (E_w__VALUES : Exa Z Z.heap w__VALUES "[Lcom/example/fates/fates/MisfirePolicy;") (E_w_IGNORE : Exa Z Z.heap w_IGNORE "com/example/fates/fates/MisfirePolicy") (E_w_SMART : Exa Z Z.heap w_SMART "com/example/fates/fates/MisfirePolicy") (E_w_FIRE_NOW : Exa Z Z.heap w_FIRE_NOW "com/example/fates/fates/MisfirePolicy") (E_w_DO_NOTHING : Exa Z Z.heap w_DO_NOTHING "com/example/fates/fates/MisfirePolicy") (F_code_w_IGNORE : Fld Z Z.heap w_IGNORE "com/example/fates/fates/MisfirePolicy" "code" "I" (.int (-1 : Int32))) (F_code_w_SMART : Fld Z Z.heap w_SMART "com/example/fates/fates/MisfirePolicy" "code" "I" (.int (0 : Int32))) (F_code_w_FIRE_NOW : Fld Z Z.heap w_FIRE_NOW "com/example/fates/fates/MisfirePolicy" "code" "I" (.int (1 : Int32))) (F_code_w_DO_NOTHING : Fld Z Z.heap w_DO_NOTHING "com/example/fates/fates/MisfirePolicy" "code" "I" (.int (2 : Int32))) (ne_w_IGNORE_w_SMART : w_IGNORE ≠ w_SMART) (ne_w_IGNORE_w_FIRE_NOW : w_IGNORE ≠ w_FIRE_NOW) (ne_w_IGNORE_w_DO_NOTHING : w_IGNORE ≠ w_DO_NOTHING) (ne_w_SMART_w_FIRE_NOW : w_SMART ≠ w_FIRE_NOW) (ne_w_SMART_w_DO_NOTHING : w_SMART ≠ w_DO_NOTHING) (ne_w_FIRE_NOW_w_DO_NOTHING : w_FIRE_NOW ≠ w_DO_NOTHING) (kV : ClassId) (V_V : Arv Z Z.heap w__VALUES kV (.object "com/example/fates/fates/MisfirePolicy") (4 : Int32) [(.ref w_IGNORE), (.ref w_SMART), (.ref w_FIRE_NOW), (.ref w_DO_NOTHING)] .null)  (h0 : Heap) (n0 : Nat) (v : Option Value) (h : Heap) (L : List Loc) : Prop := v = some (.ref w_IGNORE) ∧ Fr n0 L ∧ Keep h0 h []
set_option maxRecDepth 65536 in
set_option maxHeartbeats 40000000 in
theorem own_rm1c0 (l : Launch) (Z : State) (a0 : Array Value) (hw : ∀ d ∈ tables_1, d.before a0 Z = true) (ws : List Jvm.Cond) (w__VALUES : Addr) (w_IGNORE : Addr) (w_SMART : Addr) (w_FIRE_NOW : Addr) (w_DO_NOTHING : Addr) (S_w__VALUES : Sta Z Z.heap "com/example/fates/fates/MisfirePolicy" "$VALUES" "[Lcom/example/fates/fates/MisfirePolicy;" (.ref w__VALUES)) (S_w_IGNORE : Sta Z Z.heap "com/example/fates/fates/MisfirePolicy" "IGNORE" "Lcom/example/fates/fates/MisfirePolicy;" (.ref w_IGNORE)) (S_w_SMART : Sta Z Z.heap "com/example/fates/fates/MisfirePolicy" "SMART" "Lcom/example/fates/fates/MisfirePolicy;" (.ref w_SMART)) (S_w_FIRE_NOW : Sta Z Z.heap "com/example/fates/fates/MisfirePolicy" "FIRE_NOW" "Lcom/example/fates/fates/MisfirePolicy;" (.ref w_FIRE_NOW)) (S_w_DO_NOTHING : Sta Z Z.heap "com/example/fates/fates/MisfirePolicy" "DO_NOTHING" "Lcom/example/fates/fates/MisfirePolicy;" (.ref w_DO_NOTHING)) (E_w__VALUES : Exa Z Z.heap w__VALUES "[Lcom/example/fates/fates/MisfirePolicy;") (E_w_IGNORE : Exa Z Z.heap w_IGNORE "com/example/fates/fates/MisfirePolicy") (E_w_SMART : Exa Z Z.heap w_SMART "com/example/fates/fates/MisfirePolicy") (E_w_FIRE_NOW : Exa Z Z.heap w_FIRE_NOW "com/example/fates/fates/MisfirePolicy") (E_w_DO_NOTHING : Exa Z Z.heap w_DO_NOTHING "com/example/fates/fates/MisfirePolicy") (F_code_w_IGNORE : Fld Z Z.heap w_IGNORE "com/example/fates/fates/MisfirePolicy" "code" "I" (.int (-1 : Int32))) (F_code_w_SMART : Fld Z Z.heap w_SMART "com/example/fates/fates/MisfirePolicy" "code" "I" (.int (0 : Int32))) (F_code_w_FIRE_NOW : Fld Z Z.heap w_FIRE_NOW "com/example/fates/fates/MisfirePolicy" "code" "I" (.int (1 : Int32))) (F_code_w_DO_NOTHING : Fld Z Z.heap w_DO_NOTHING "com/example/fates/fates/MisfirePolicy" "code" "I" (.int (2 : Int32))) (ne_w_IGNORE_w_SMART : w_IGNORE ≠ w_SMART) (ne_w_IGNORE_w_FIRE_NOW : w_IGNORE ≠ w_FIRE_NOW) (ne_w_IGNORE_w_DO_NOTHING : w_IGNORE ≠ w_DO_NOTHING) (ne_w_SMART_w_FIRE_NOW : w_SMART ≠ w_FIRE_NOW) (ne_w_SMART_w_DO_NOTHING : w_SMART ≠ w_DO_NOTHING) (ne_w_FIRE_NOW_w_DO_NOTHING : w_FIRE_NOW ≠ w_DO_NOTHING) (kV : ClassId) (V_V : Arv Z Z.heap w__VALUES kV (.object "com/example/fates/fates/MisfirePolicy") (4 : Int32) [(.ref w_IGNORE), (.ref w_SMART), (.ref w_FIRE_NOW), (.ref w_DO_NOTHING)] .null)  (h0 : Heap) (n0 : Nat) (Z0 : n0 ≤ h0.size) (O0 : Old Z n0 h0) :
    MetFree l (⟨"com/example/fates/fates/MisfirePolicy", "fromCode", "(I)Lcom/example/fates/fates/MisfirePolicy;"⟩ : MethodName) (head1 (Jvm.Cond.code (⟨"com/example/fates/fates/MisfirePolicy", "fromCode", "(I)Lcom/example/fates/fates/MisfirePolicy;"⟩ : MethodName) prog_14_method_5_code 5 (some (.object "com/example/fates/fates/MisfirePolicy")) :: ws) ({ frames := 2, cells := 1, slots := 4, locals := 25 } : Room)) (fun a U => a = #[(.int (-1 : Int32))] ∧ Z.Warmed39 U.vm ∧ U.heap = h0) (fun _ _ _ _ _ => True) (fun _ U o U' => ∃ v L, o = .returned v ∧ own_Q1c0 Z w__VALUES w_IGNORE w_SMART w_FIRE_NOW w_DO_NOTHING S_w__VALUES S_w_IGNORE S_w_SMART S_w_FIRE_NOW S_w_DO_NOTHING E_w__VALUES E_w_IGNORE E_w_SMART E_w_FIRE_NOW E_w_DO_NOTHING F_code_w_IGNORE F_code_w_SMART F_code_w_FIRE_NOW F_code_w_DO_NOTHING ne_w_IGNORE_w_SMART ne_w_IGNORE_w_FIRE_NOW ne_w_IGNORE_w_DO_NOTHING ne_w_SMART_w_FIRE_NOW ne_w_SMART_w_DO_NOTHING ne_w_FIRE_NOW_w_DO_NOTHING kV V_V  h0 n0 v U'.heap L ∧ FrameEnd U o U' L ({ frames := 2, cells := 1, slots := 4, locals := 25 } : Room).cells ({ frames := 2, cells := 1, slots := 4, locals := 25 } : Room).slots) := by
  refine MetFree.of_bodySF (plainFor_of_name own_pn0) hisR ?_
  intro p e s m args below meth c s₁ Bd hml0 hP hK
  obtain ⟨rfl, hZ, hh⟩ := hP
  have hx := Bd.exec
  have hby := Bd.bytes
  have hlk := Bd.notSynchronized
  have hrt := Bd.returns
  have hml : c.maxLocals = 5 := hml0
  have hown : s.vm.findClass "com/example/fates/fates/MisfirePolicy" = some m.cls := findClass_of_methodNamed Bd.named
  have hnm := (name_of_methodNamed Bd.named Bd.method).1
  have X0 : Stand p l e ({ frames := 2, cells := 1, slots := 4, locals := 25 } : Room) s m #[(.int (-1 : Int32))] below meth c s₁ [] 0 0 := Stand.of_body Bd
  have e0 : s₁.heap = h0 := by rw [← hh, Bd.state]; rfl
  have N0 := Fr.nil n0
  have KC0 := Keep.refl h0 []
  refine own_in (own_ef1c0 m ) ?_
  obtain ⟨_, _, ⟨T1, Lx1, kc1, nc1⟩, -, X1, ⟨Lc1, hQ1, lq1, yq1, zq1⟩, st1⟩ := Jvm.LawKit.callS X0 hx (y := (⟨"com/example/fates/fates/MisfirePolicy", "values", "()[Lcom/example/fates/fates/MisfirePolicy;"⟩ : MethodName)) hown (mvT hZ (hw _ (List.mem_of_getElem? (i := 4) rfl))) (mvT hZ (hw _ (List.mem_of_getElem? (i := 5) rfl))) (mvT hZ (hw _ (List.mem_of_getElem? (i := 2) rfl))) (mvT hZ (hw _ (List.mem_of_getElem? (i := 6) rfl))) (by decide) (backOf (W := 0) (own_rm2 l Z a0 hw [] w__VALUES w_IGNORE w_SMART w_FIRE_NOW w_DO_NOTHING S_w__VALUES S_w_IGNORE S_w_SMART S_w_FIRE_NOW S_w_DO_NOTHING E_w__VALUES E_w_IGNORE E_w_SMART E_w_FIRE_NOW E_w_DO_NOTHING F_code_w_IGNORE F_code_w_SMART F_code_w_FIRE_NOW F_code_w_DO_NOTHING ne_w_IGNORE_w_SMART ne_w_IGNORE_w_FIRE_NOW ne_w_IGNORE_w_DO_NOTHING ne_w_SMART_w_FIRE_NOW ne_w_SMART_w_DO_NOTHING ne_w_FIRE_NOW_w_DO_NOTHING kV V_V  h0 n0 Z0 O0) hZ (hw _ (List.mem_of_getElem? (i := 6) rfl)) (hw _ (List.mem_of_getElem? (i := 2) rfl)) (by decide) (by decide)) (g := (mkF m 0 #[.val (.int (-1 : Int32)), .unset, .unset, .unset, .unset] [])) rfl (by rw [hml]; rfl) (argsL := []) (rest := []) (lenOf own_pd0 rfl) rfl (by show 2 * 0 + _ ≤ _; exact Nat.le_of_eq rfl) (hb hby own_d1_0) (fun _ _ => ⟨rfl, e0, (by decide : 0 + 1 ≤ _), (by decide : 0 + 4 ≤ _)⟩)
  dsimp only [Pt.U, Pt.locs, Pt.cells, Pt.slots] at X1 lq1 yq1 zq1 st1 hQ1
  subst lq1 yq1 zq1
  obtain ⟨bb_1, rfl, Nq1, Kp1, G1_0, G1_1⟩ := hQ1
  have N1 := Fr.app N0 Nq1
  have gt_bb_1 : n0 ≤ bb_1 := Nat.le_trans Z0 G1_0
  have sz_bb_1 : h0.size ≤ bb_1 := Nat.le_trans KC0.1 G1_0
  have O2 := O0.keep Kp1 all0
  have KC3 := KC0.trans Kp1 all0
  have Z4 := Nat.le_trans Z0 Kp1.1
  refine own_st (G' := T1.setTop (mkF m 3 #[.val (.int (-1 : Int32)), .unset, .unset, .unset, .unset] [(.ref bb_1)])) st1 ?_
  refine own_astoreN X1 hx 4 #[.val (.int (-1 : Int32)), .val (.ref bb_1), .unset, .unset, .unset] (hb hby own_d1_3) rfl rfl ?_
  refine own_aloadN X1 hx 5 (hb hby own_d1_4) rfl rfl ?_
  obtain ⟨cl5, Ar5, qv5, S5, M5, H5, G5⟩ := id G1_1
  have ln5 := len_of S5 M5
  refine own_st (G' := T1.setTop (mkF m 6 #[.val (.int (-1 : Int32)), .val (.ref bb_1), .unset, .unset, .unset] [(.int (4 : Int32))])) (fun t k => X1.arraylength hx Ar5.1 (State.isArrayOf_alike hZ.alike Ar5.2.1) (g := (mkF m 5 #[.val (.int (-1 : Int32)), .val (.ref bb_1), .unset, .unset, .unset] [(.ref bb_1)])) rfl rfl (hb hby own_d1_5) _ (by rw [ln5]; exact k)) ?_
  refine own_istoreN X1 hx 7 #[.val (.int (-1 : Int32)), .val (.ref bb_1), .val (.int (4 : Int32)), .unset, .unset] (hb hby own_d1_6) rfl ?_
  refine own_iconst X1 hx 8 (0 : Int32) (hb hby own_d1_7) rfl ?_
  refine own_istoreN X1 hx 9 #[.val (.int (-1 : Int32)), .val (.ref bb_1), .val (.int (4 : Int32)), .val (.int (0 : Int32)), .unset] (hb hby own_d1_8) rfl ?_
  refine own_iloadN X1 hx 10 (hb hby own_d1_9) rfl ?_
  refine own_iloadN X1 hx 11 (hb hby own_d1_10) rfl ?_
  refine own_icmpNo X1 hx 14 (hb hby own_d1_11) (tlt (by decide : (0 : Int32) < (4 : Int32))).2.1 ?_
  refine own_aloadN X1 hx 15 (hb hby own_d1_14) rfl rfl ?_
  refine own_iloadN X1 hx 16 (hb hby own_d1_15) rfl ?_
  obtain ⟨cl6, Ar6, qv6, S6, M6, H6, G6⟩ := id G1_1
  have hin6 : ¬ ((0 : Int32) < 0 ∨ cl6.slots.size ≤ ((0 : Int32)).toNatClampNeg) := inb_of S6 ⟨by decide, by decide⟩
  refine own_st (G' := T1.setTop (mkF m 17 #[.val (.int (-1 : Int32)), .val (.ref bb_1), .val (.int (4 : Int32)), .val (.int (0 : Int32)), .unset] [(.ref w_IGNORE)])) (fun t k => X1.aaload hx (j := (0 : Int32)) (v := (.ref w_IGNORE)) Ar6.1 (State.isArrayOf_alike hZ.alike Ar6.2.1) rfl Ar6.2.2 hin6 (H6.at hin6 rfl) (g := (mkF m 16 #[.val (.int (-1 : Int32)), .val (.ref bb_1), .val (.int (4 : Int32)), .val (.int (0 : Int32)), .unset] [(.int (0 : Int32)), (.ref bb_1)])) rfl rfl (hb hby own_d1_16) _ k) ?_
  refine own_astore X1 hx 19 #[.val (.int (-1 : Int32)), .val (.ref bb_1), .val (.int (4 : Int32)), .val (.int (0 : Int32)), .val (.ref w_IGNORE)] (hb hby own_d1_17) rfl rfl ?_
  refine own_aload X1 hx 21 (hb hby own_d1_19) rfl rfl ?_
  have f7 := (F_code_w_IGNORE.ext O2.2)
  obtain ⟨T8, X8, e8, st8⟩ := getF X1 hx hZ hown (host := "") (Or.inl (hw _ (List.mem_of_getElem? (i := 23) rfl))) Via.refl rfl f7 (g := (mkF m 21 #[.val (.int (-1 : Int32)), .val (.ref bb_1), .val (.int (4 : Int32)), .val (.int (0 : Int32)), .val (.ref w_IGNORE)] [(.ref w_IGNORE)])) rfl rfl (hb hby own_d1_21)
  refine own_st (G' := T8.setTop (mkF m 24 #[.val (.int (-1 : Int32)), .val (.ref bb_1), .val (.int (4 : Int32)), .val (.int (0 : Int32)), .val (.ref w_IGNORE)] [(.int (-1 : Int32))])) st8 ?_
  refine own_iloadN X8 hx 25 (hb hby own_d1_24) rfl ?_
  refine own_icmpNo X8 hx 28 (hb hby own_d1_25) (teq (rfl : (-1 : Int32) = (-1 : Int32))).2 ?_
  refine own_aload X8 hx 30 (hb hby own_d1_28) rfl rfl ?_
  exact own_retA (z := (.ref w_IGNORE)) (Q := own_Q1c0 Z w__VALUES w_IGNORE w_SMART w_FIRE_NOW w_DO_NOTHING S_w__VALUES S_w_IGNORE S_w_SMART S_w_FIRE_NOW S_w_DO_NOTHING E_w__VALUES E_w_IGNORE E_w_SMART E_w_FIRE_NOW E_w_DO_NOTHING F_code_w_IGNORE F_code_w_SMART F_code_w_FIRE_NOW F_code_w_DO_NOTHING ne_w_IGNORE_w_SMART ne_w_IGNORE_w_FIRE_NOW ne_w_IGNORE_w_DO_NOTHING ne_w_SMART_w_FIRE_NOW ne_w_SMART_w_DO_NOTHING ne_w_FIRE_NOW_w_DO_NOTHING kV V_V  h0 n0) X8 hx hrt rfl rfl (hb hby own_d1_30) hlk e8 ⟨rfl, N1, KC3⟩ (by decide) (by decide)
theorem own_d1_31 : decode prog_14_method_5_code 31 = .ok (.iinc 3 1, 3) := by decide +kernel
theorem own_d1_34 : decode prog_14_method_5_code 34 = .ok (.goto (-25), 3) := by decide +kernel
theorem own_ef1c1 (m : MethodId) : entryFrame m #[(.int (0 : Int32))] 5 = mkF m 0 #[.val (.int (0 : Int32)), .unset, .unset, .unset, .unset] [] := by first | (simp [entryFrame, mkF, argsToLocals, Value.category]; done) | rfl
def own_Q1c1 (Z : State) (w__VALUES : Addr) (w_IGNORE : Addr) (w_SMART : Addr) (w_FIRE_NOW : Addr) (w_DO_NOTHING : Addr) (S_w__VALUES : Sta Z Z.heap "com/example/fates/fates/MisfirePolicy" "$VALUES" "[Lcom/example/fates/fates/MisfirePolicy;" (.ref w__VALUES)) (S_w_IGNORE : Sta Z Z.heap "com/example/fates/fates/MisfirePolicy" "IGNORE" "Lcom/example/fates/fates/MisfirePolicy;" (.ref w_IGNORE)) (S_w_SMART : Sta Z Z.heap "com/example/fates/fates/MisfirePolicy" "SMART" "Lcom/example/fates/fates/MisfirePolicy;" (.ref w_SMART)) (S_w_FIRE_NOW : Sta Z Z.heap "com/example/fates/fates/MisfirePolicy" "FIRE_NOW" "Lcom/example/fates/fates/MisfirePolicy;" (.ref w_FIRE_NOW)) (S_w_DO_NOTHING : Sta Z Z.heap "com/example/fates/fates/MisfirePolicy" "DO_NOTHING" "Lcom/example/fates/fates/MisfirePolicy;" (.ref w_DO_NOTHING)) (E_w__VALUES : Exa Z Z.heap w__VALUES "[Lcom/example/fates/fates/MisfirePolicy;") (E_w_IGNORE : Exa Z Z.heap w_IGNORE "com/example/fates/fates/MisfirePolicy") (E_w_SMART : Exa Z Z.heap w_SMART "com/example/fates/fates/MisfirePolicy") (E_w_FIRE_NOW : Exa Z Z.heap w_FIRE_NOW "com/example/fates/fates/MisfirePolicy") (E_w_DO_NOTHING : Exa Z Z.heap w_DO_NOTHING "com/example/fates/fates/MisfirePolicy") (F_code_w_IGNORE : Fld Z Z.heap w_IGNORE "com/example/fates/fates/MisfirePolicy" "code" "I" (.int (-1 : Int32))) (F_code_w_SMART : Fld Z Z.heap w_SMART "com/example/fates/fates/MisfirePolicy" "code" "I" (.int (0 : Int32))) (F_code_w_FIRE_NOW : Fld Z Z.heap w_FIRE_NOW "com/example/fates/fates/MisfirePolicy" "code" "I" (.int (1 : Int32))) (F_code_w_DO_NOTHING : Fld Z Z.heap w_DO_NOTHING "com/example/fates/fates/MisfirePolicy" "code" "I" (.int (2 : Int32))) (ne_w_IGNORE_w_SMART : w_IGNORE ≠ w_SMART) (ne_w_IGNORE_w_FIRE_NOW : w_IGNORE ≠ w_FIRE_NOW) (ne_w_IGNORE_w_DO_NOTHING : w_IGNORE ≠ w_DO_NOTHING) (ne_w_SMART_w_FIRE_NOW : w_SMART ≠ w_FIRE_NOW) (ne_w_SMART_w_DO_NOTHING : w_SMART ≠ w_DO_NOTHING) (ne_w_FIRE_NOW_w_DO_NOTHING : w_FIRE_NOW ≠ w_DO_NOTHING) (kV : ClassId) (V_V : Arv Z Z.heap w__VALUES kV (.object "com/example/fates/fates/MisfirePolicy") (4 : Int32) [(.ref w_IGNORE), (.ref w_SMART), (.ref w_FIRE_NOW), (.ref w_DO_NOTHING)] .null)  (h0 : Heap) (n0 : Nat) (v : Option Value) (h : Heap) (L : List Loc) : Prop := v = some (.ref w_SMART) ∧ Fr n0 L ∧ Keep h0 h []
set_option maxRecDepth 65536 in
set_option maxHeartbeats 40000000 in
theorem own_rm1c1 (l : Launch) (Z : State) (a0 : Array Value) (hw : ∀ d ∈ tables_1, d.before a0 Z = true) (ws : List Jvm.Cond) (w__VALUES : Addr) (w_IGNORE : Addr) (w_SMART : Addr) (w_FIRE_NOW : Addr) (w_DO_NOTHING : Addr) (S_w__VALUES : Sta Z Z.heap "com/example/fates/fates/MisfirePolicy" "$VALUES" "[Lcom/example/fates/fates/MisfirePolicy;" (.ref w__VALUES)) (S_w_IGNORE : Sta Z Z.heap "com/example/fates/fates/MisfirePolicy" "IGNORE" "Lcom/example/fates/fates/MisfirePolicy;" (.ref w_IGNORE)) (S_w_SMART : Sta Z Z.heap "com/example/fates/fates/MisfirePolicy" "SMART" "Lcom/example/fates/fates/MisfirePolicy;" (.ref w_SMART)) (S_w_FIRE_NOW : Sta Z Z.heap "com/example/fates/fates/MisfirePolicy" "FIRE_NOW" "Lcom/example/fates/fates/MisfirePolicy;" (.ref w_FIRE_NOW)) (S_w_DO_NOTHING : Sta Z Z.heap "com/example/fates/fates/MisfirePolicy" "DO_NOTHING" "Lcom/example/fates/fates/MisfirePolicy;" (.ref w_DO_NOTHING)) (E_w__VALUES : Exa Z Z.heap w__VALUES "[Lcom/example/fates/fates/MisfirePolicy;") (E_w_IGNORE : Exa Z Z.heap w_IGNORE "com/example/fates/fates/MisfirePolicy") (E_w_SMART : Exa Z Z.heap w_SMART "com/example/fates/fates/MisfirePolicy") (E_w_FIRE_NOW : Exa Z Z.heap w_FIRE_NOW "com/example/fates/fates/MisfirePolicy") (E_w_DO_NOTHING : Exa Z Z.heap w_DO_NOTHING "com/example/fates/fates/MisfirePolicy") (F_code_w_IGNORE : Fld Z Z.heap w_IGNORE "com/example/fates/fates/MisfirePolicy" "code" "I" (.int (-1 : Int32))) (F_code_w_SMART : Fld Z Z.heap w_SMART "com/example/fates/fates/MisfirePolicy" "code" "I" (.int (0 : Int32))) (F_code_w_FIRE_NOW : Fld Z Z.heap w_FIRE_NOW "com/example/fates/fates/MisfirePolicy" "code" "I" (.int (1 : Int32))) (F_code_w_DO_NOTHING : Fld Z Z.heap w_DO_NOTHING "com/example/fates/fates/MisfirePolicy" "code" "I" (.int (2 : Int32))) (ne_w_IGNORE_w_SMART : w_IGNORE ≠ w_SMART) (ne_w_IGNORE_w_FIRE_NOW : w_IGNORE ≠ w_FIRE_NOW) (ne_w_IGNORE_w_DO_NOTHING : w_IGNORE ≠ w_DO_NOTHING) (ne_w_SMART_w_FIRE_NOW : w_SMART ≠ w_FIRE_NOW) (ne_w_SMART_w_DO_NOTHING : w_SMART ≠ w_DO_NOTHING) (ne_w_FIRE_NOW_w_DO_NOTHING : w_FIRE_NOW ≠ w_DO_NOTHING) (kV : ClassId) (V_V : Arv Z Z.heap w__VALUES kV (.object "com/example/fates/fates/MisfirePolicy") (4 : Int32) [(.ref w_IGNORE), (.ref w_SMART), (.ref w_FIRE_NOW), (.ref w_DO_NOTHING)] .null)  (h0 : Heap) (n0 : Nat) (Z0 : n0 ≤ h0.size) (O0 : Old Z n0 h0) :
    MetFree l (⟨"com/example/fates/fates/MisfirePolicy", "fromCode", "(I)Lcom/example/fates/fates/MisfirePolicy;"⟩ : MethodName) (head1 (Jvm.Cond.code (⟨"com/example/fates/fates/MisfirePolicy", "fromCode", "(I)Lcom/example/fates/fates/MisfirePolicy;"⟩ : MethodName) prog_14_method_5_code 5 (some (.object "com/example/fates/fates/MisfirePolicy")) :: ws) ({ frames := 2, cells := 1, slots := 4, locals := 25 } : Room)) (fun a U => a = #[(.int (0 : Int32))] ∧ Z.Warmed39 U.vm ∧ U.heap = h0) (fun _ _ _ _ _ => True) (fun _ U o U' => ∃ v L, o = .returned v ∧ own_Q1c1 Z w__VALUES w_IGNORE w_SMART w_FIRE_NOW w_DO_NOTHING S_w__VALUES S_w_IGNORE S_w_SMART S_w_FIRE_NOW S_w_DO_NOTHING E_w__VALUES E_w_IGNORE E_w_SMART E_w_FIRE_NOW E_w_DO_NOTHING F_code_w_IGNORE F_code_w_SMART F_code_w_FIRE_NOW F_code_w_DO_NOTHING ne_w_IGNORE_w_SMART ne_w_IGNORE_w_FIRE_NOW ne_w_IGNORE_w_DO_NOTHING ne_w_SMART_w_FIRE_NOW ne_w_SMART_w_DO_NOTHING ne_w_FIRE_NOW_w_DO_NOTHING kV V_V  h0 n0 v U'.heap L ∧ FrameEnd U o U' L ({ frames := 2, cells := 1, slots := 4, locals := 25 } : Room).cells ({ frames := 2, cells := 1, slots := 4, locals := 25 } : Room).slots) := by
  refine MetFree.of_bodySF (plainFor_of_name own_pn0) hisR ?_
  intro p e s m args below meth c s₁ Bd hml0 hP hK
  obtain ⟨rfl, hZ, hh⟩ := hP
  have hx := Bd.exec
  have hby := Bd.bytes
  have hlk := Bd.notSynchronized
  have hrt := Bd.returns
  have hml : c.maxLocals = 5 := hml0
  have hown : s.vm.findClass "com/example/fates/fates/MisfirePolicy" = some m.cls := findClass_of_methodNamed Bd.named
  have hnm := (name_of_methodNamed Bd.named Bd.method).1
  have X0 : Stand p l e ({ frames := 2, cells := 1, slots := 4, locals := 25 } : Room) s m #[(.int (0 : Int32))] below meth c s₁ [] 0 0 := Stand.of_body Bd
  have e0 : s₁.heap = h0 := by rw [← hh, Bd.state]; rfl
  have N0 := Fr.nil n0
  have KC0 := Keep.refl h0 []
  refine own_in (own_ef1c1 m ) ?_
  obtain ⟨_, _, ⟨T1, Lx1, kc1, nc1⟩, -, X1, ⟨Lc1, hQ1, lq1, yq1, zq1⟩, st1⟩ := Jvm.LawKit.callS X0 hx (y := (⟨"com/example/fates/fates/MisfirePolicy", "values", "()[Lcom/example/fates/fates/MisfirePolicy;"⟩ : MethodName)) hown (mvT hZ (hw _ (List.mem_of_getElem? (i := 4) rfl))) (mvT hZ (hw _ (List.mem_of_getElem? (i := 5) rfl))) (mvT hZ (hw _ (List.mem_of_getElem? (i := 2) rfl))) (mvT hZ (hw _ (List.mem_of_getElem? (i := 6) rfl))) (by decide) (backOf (W := 0) (own_rm2 l Z a0 hw [] w__VALUES w_IGNORE w_SMART w_FIRE_NOW w_DO_NOTHING S_w__VALUES S_w_IGNORE S_w_SMART S_w_FIRE_NOW S_w_DO_NOTHING E_w__VALUES E_w_IGNORE E_w_SMART E_w_FIRE_NOW E_w_DO_NOTHING F_code_w_IGNORE F_code_w_SMART F_code_w_FIRE_NOW F_code_w_DO_NOTHING ne_w_IGNORE_w_SMART ne_w_IGNORE_w_FIRE_NOW ne_w_IGNORE_w_DO_NOTHING ne_w_SMART_w_FIRE_NOW ne_w_SMART_w_DO_NOTHING ne_w_FIRE_NOW_w_DO_NOTHING kV V_V  h0 n0 Z0 O0) hZ (hw _ (List.mem_of_getElem? (i := 6) rfl)) (hw _ (List.mem_of_getElem? (i := 2) rfl)) (by decide) (by decide)) (g := (mkF m 0 #[.val (.int (0 : Int32)), .unset, .unset, .unset, .unset] [])) rfl (by rw [hml]; rfl) (argsL := []) (rest := []) (lenOf own_pd0 rfl) rfl (by show 2 * 0 + _ ≤ _; exact Nat.le_of_eq rfl) (hb hby own_d1_0) (fun _ _ => ⟨rfl, e0, (by decide : 0 + 1 ≤ _), (by decide : 0 + 4 ≤ _)⟩)
  dsimp only [Pt.U, Pt.locs, Pt.cells, Pt.slots] at X1 lq1 yq1 zq1 st1 hQ1
  subst lq1 yq1 zq1
  obtain ⟨bb_1, rfl, Nq1, Kp1, G1_0, G1_1⟩ := hQ1
  have N1 := Fr.app N0 Nq1
  have gt_bb_1 : n0 ≤ bb_1 := Nat.le_trans Z0 G1_0
  have sz_bb_1 : h0.size ≤ bb_1 := Nat.le_trans KC0.1 G1_0
  have O2 := O0.keep Kp1 all0
  have KC3 := KC0.trans Kp1 all0
  have Z4 := Nat.le_trans Z0 Kp1.1
  refine own_st (G' := T1.setTop (mkF m 3 #[.val (.int (0 : Int32)), .unset, .unset, .unset, .unset] [(.ref bb_1)])) st1 ?_
  refine own_astoreN X1 hx 4 #[.val (.int (0 : Int32)), .val (.ref bb_1), .unset, .unset, .unset] (hb hby own_d1_3) rfl rfl ?_
  refine own_aloadN X1 hx 5 (hb hby own_d1_4) rfl rfl ?_
  obtain ⟨cl5, Ar5, qv5, S5, M5, H5, G5⟩ := id G1_1
  have ln5 := len_of S5 M5
  refine own_st (G' := T1.setTop (mkF m 6 #[.val (.int (0 : Int32)), .val (.ref bb_1), .unset, .unset, .unset] [(.int (4 : Int32))])) (fun t k => X1.arraylength hx Ar5.1 (State.isArrayOf_alike hZ.alike Ar5.2.1) (g := (mkF m 5 #[.val (.int (0 : Int32)), .val (.ref bb_1), .unset, .unset, .unset] [(.ref bb_1)])) rfl rfl (hb hby own_d1_5) _ (by rw [ln5]; exact k)) ?_
  refine own_istoreN X1 hx 7 #[.val (.int (0 : Int32)), .val (.ref bb_1), .val (.int (4 : Int32)), .unset, .unset] (hb hby own_d1_6) rfl ?_
  refine own_iconst X1 hx 8 (0 : Int32) (hb hby own_d1_7) rfl ?_
  refine own_istoreN X1 hx 9 #[.val (.int (0 : Int32)), .val (.ref bb_1), .val (.int (4 : Int32)), .val (.int (0 : Int32)), .unset] (hb hby own_d1_8) rfl ?_
  refine own_iloadN X1 hx 10 (hb hby own_d1_9) rfl ?_
  refine own_iloadN X1 hx 11 (hb hby own_d1_10) rfl ?_
  refine own_icmpNo X1 hx 14 (hb hby own_d1_11) (tlt (by decide : (0 : Int32) < (4 : Int32))).2.1 ?_
  refine own_aloadN X1 hx 15 (hb hby own_d1_14) rfl rfl ?_
  refine own_iloadN X1 hx 16 (hb hby own_d1_15) rfl ?_
  obtain ⟨cl6, Ar6, qv6, S6, M6, H6, G6⟩ := id G1_1
  have hin6 : ¬ ((0 : Int32) < 0 ∨ cl6.slots.size ≤ ((0 : Int32)).toNatClampNeg) := inb_of S6 ⟨by decide, by decide⟩
  refine own_st (G' := T1.setTop (mkF m 17 #[.val (.int (0 : Int32)), .val (.ref bb_1), .val (.int (4 : Int32)), .val (.int (0 : Int32)), .unset] [(.ref w_IGNORE)])) (fun t k => X1.aaload hx (j := (0 : Int32)) (v := (.ref w_IGNORE)) Ar6.1 (State.isArrayOf_alike hZ.alike Ar6.2.1) rfl Ar6.2.2 hin6 (H6.at hin6 rfl) (g := (mkF m 16 #[.val (.int (0 : Int32)), .val (.ref bb_1), .val (.int (4 : Int32)), .val (.int (0 : Int32)), .unset] [(.int (0 : Int32)), (.ref bb_1)])) rfl rfl (hb hby own_d1_16) _ k) ?_
  refine own_astore X1 hx 19 #[.val (.int (0 : Int32)), .val (.ref bb_1), .val (.int (4 : Int32)), .val (.int (0 : Int32)), .val (.ref w_IGNORE)] (hb hby own_d1_17) rfl rfl ?_
  refine own_aload X1 hx 21 (hb hby own_d1_19) rfl rfl ?_
  have f7 := (F_code_w_IGNORE.ext O2.2)
  obtain ⟨T8, X8, e8, st8⟩ := getF X1 hx hZ hown (host := "") (Or.inl (hw _ (List.mem_of_getElem? (i := 23) rfl))) Via.refl rfl f7 (g := (mkF m 21 #[.val (.int (0 : Int32)), .val (.ref bb_1), .val (.int (4 : Int32)), .val (.int (0 : Int32)), .val (.ref w_IGNORE)] [(.ref w_IGNORE)])) rfl rfl (hb hby own_d1_21)
  refine own_st (G' := T8.setTop (mkF m 24 #[.val (.int (0 : Int32)), .val (.ref bb_1), .val (.int (4 : Int32)), .val (.int (0 : Int32)), .val (.ref w_IGNORE)] [(.int (-1 : Int32))])) st8 ?_
  refine own_iloadN X8 hx 25 (hb hby own_d1_24) rfl ?_
  refine own_icmpYes X8 hx 31 (hb hby own_d1_25) (feq (by decide : ¬ ((-1 : Int32) = (0 : Int32)))).2 ?_
  refine own_iinc X8 hx 34 (1 : Int32) #[.val (.int (0 : Int32)), .val (.ref bb_1), .val (.int (4 : Int32)), .val (.int (1 : Int32)), .val (.ref w_IGNORE)] (hb hby own_d1_31) rfl rfl rfl ?_
  refine own_goto X8 hx 9 (hb hby own_d1_34) ?_
  refine own_iloadN X8 hx 10 (hb hby own_d1_9) rfl ?_
  refine own_iloadN X8 hx 11 (hb hby own_d1_10) rfl ?_
  refine own_icmpNo X8 hx 14 (hb hby own_d1_11) (tlt (by decide : (1 : Int32) < (4 : Int32))).2.1 ?_
  refine own_aloadN X8 hx 15 (hb hby own_d1_14) rfl rfl ?_
  refine own_iloadN X8 hx 16 (hb hby own_d1_15) rfl ?_
  obtain ⟨cl9, Ar9, qv9, S9, M9, H9, G9⟩ := id G1_1
  have hin9 : ¬ ((1 : Int32) < 0 ∨ cl9.slots.size ≤ ((1 : Int32)).toNatClampNeg) := inb_of S9 ⟨by decide, by decide⟩
  refine own_st (G' := T8.setTop (mkF m 17 #[.val (.int (0 : Int32)), .val (.ref bb_1), .val (.int (4 : Int32)), .val (.int (1 : Int32)), .val (.ref w_IGNORE)] [(.ref w_SMART)])) (fun t k => X8.aaload hx (j := (1 : Int32)) (v := (.ref w_SMART)) (by rw [e8]; exact Ar9.1) (State.isArrayOf_alike hZ.alike Ar9.2.1) rfl Ar9.2.2 hin9 (H9.at hin9 rfl) (g := (mkF m 16 #[.val (.int (0 : Int32)), .val (.ref bb_1), .val (.int (4 : Int32)), .val (.int (1 : Int32)), .val (.ref w_IGNORE)] [(.int (1 : Int32)), (.ref bb_1)])) rfl rfl (hb hby own_d1_16) _ k) ?_
  refine own_astore X8 hx 19 #[.val (.int (0 : Int32)), .val (.ref bb_1), .val (.int (4 : Int32)), .val (.int (1 : Int32)), .val (.ref w_SMART)] (hb hby own_d1_17) rfl rfl ?_
  refine own_aload X8 hx 21 (hb hby own_d1_19) rfl rfl ?_
  have f10 := (F_code_w_SMART.ext O2.2)
  obtain ⟨T11, X11, e11, st11⟩ := getF X8 hx hZ hown (host := "") (Or.inl (hw _ (List.mem_of_getElem? (i := 23) rfl))) Via.refl e8 f10 (g := (mkF m 21 #[.val (.int (0 : Int32)), .val (.ref bb_1), .val (.int (4 : Int32)), .val (.int (1 : Int32)), .val (.ref w_SMART)] [(.ref w_SMART)])) rfl rfl (hb hby own_d1_21)
  refine own_st (G' := T11.setTop (mkF m 24 #[.val (.int (0 : Int32)), .val (.ref bb_1), .val (.int (4 : Int32)), .val (.int (1 : Int32)), .val (.ref w_SMART)] [(.int (0 : Int32))])) st11 ?_
  refine own_iloadN X11 hx 25 (hb hby own_d1_24) rfl ?_
  refine own_icmpNo X11 hx 28 (hb hby own_d1_25) (teq (rfl : (0 : Int32) = (0 : Int32))).2 ?_
  refine own_aload X11 hx 30 (hb hby own_d1_28) rfl rfl ?_
  exact own_retA (z := (.ref w_SMART)) (Q := own_Q1c1 Z w__VALUES w_IGNORE w_SMART w_FIRE_NOW w_DO_NOTHING S_w__VALUES S_w_IGNORE S_w_SMART S_w_FIRE_NOW S_w_DO_NOTHING E_w__VALUES E_w_IGNORE E_w_SMART E_w_FIRE_NOW E_w_DO_NOTHING F_code_w_IGNORE F_code_w_SMART F_code_w_FIRE_NOW F_code_w_DO_NOTHING ne_w_IGNORE_w_SMART ne_w_IGNORE_w_FIRE_NOW ne_w_IGNORE_w_DO_NOTHING ne_w_SMART_w_FIRE_NOW ne_w_SMART_w_DO_NOTHING ne_w_FIRE_NOW_w_DO_NOTHING kV V_V  h0 n0) X11 hx hrt rfl rfl (hb hby own_d1_30) hlk e11 ⟨rfl, N1, KC3⟩ (by decide) (by decide)
theorem own_ef1c2 (m : MethodId) : entryFrame m #[(.int (1 : Int32))] 5 = mkF m 0 #[.val (.int (1 : Int32)), .unset, .unset, .unset, .unset] [] := by first | (simp [entryFrame, mkF, argsToLocals, Value.category]; done) | rfl
def own_Q1c2 (Z : State) (w__VALUES : Addr) (w_IGNORE : Addr) (w_SMART : Addr) (w_FIRE_NOW : Addr) (w_DO_NOTHING : Addr) (S_w__VALUES : Sta Z Z.heap "com/example/fates/fates/MisfirePolicy" "$VALUES" "[Lcom/example/fates/fates/MisfirePolicy;" (.ref w__VALUES)) (S_w_IGNORE : Sta Z Z.heap "com/example/fates/fates/MisfirePolicy" "IGNORE" "Lcom/example/fates/fates/MisfirePolicy;" (.ref w_IGNORE)) (S_w_SMART : Sta Z Z.heap "com/example/fates/fates/MisfirePolicy" "SMART" "Lcom/example/fates/fates/MisfirePolicy;" (.ref w_SMART)) (S_w_FIRE_NOW : Sta Z Z.heap "com/example/fates/fates/MisfirePolicy" "FIRE_NOW" "Lcom/example/fates/fates/MisfirePolicy;" (.ref w_FIRE_NOW)) (S_w_DO_NOTHING : Sta Z Z.heap "com/example/fates/fates/MisfirePolicy" "DO_NOTHING" "Lcom/example/fates/fates/MisfirePolicy;" (.ref w_DO_NOTHING)) (E_w__VALUES : Exa Z Z.heap w__VALUES "[Lcom/example/fates/fates/MisfirePolicy;") (E_w_IGNORE : Exa Z Z.heap w_IGNORE "com/example/fates/fates/MisfirePolicy") (E_w_SMART : Exa Z Z.heap w_SMART "com/example/fates/fates/MisfirePolicy") (E_w_FIRE_NOW : Exa Z Z.heap w_FIRE_NOW "com/example/fates/fates/MisfirePolicy") (E_w_DO_NOTHING : Exa Z Z.heap w_DO_NOTHING "com/example/fates/fates/MisfirePolicy") (F_code_w_IGNORE : Fld Z Z.heap w_IGNORE "com/example/fates/fates/MisfirePolicy" "code" "I" (.int (-1 : Int32))) (F_code_w_SMART : Fld Z Z.heap w_SMART "com/example/fates/fates/MisfirePolicy" "code" "I" (.int (0 : Int32))) (F_code_w_FIRE_NOW : Fld Z Z.heap w_FIRE_NOW "com/example/fates/fates/MisfirePolicy" "code" "I" (.int (1 : Int32))) (F_code_w_DO_NOTHING : Fld Z Z.heap w_DO_NOTHING "com/example/fates/fates/MisfirePolicy" "code" "I" (.int (2 : Int32))) (ne_w_IGNORE_w_SMART : w_IGNORE ≠ w_SMART) (ne_w_IGNORE_w_FIRE_NOW : w_IGNORE ≠ w_FIRE_NOW) (ne_w_IGNORE_w_DO_NOTHING : w_IGNORE ≠ w_DO_NOTHING) (ne_w_SMART_w_FIRE_NOW : w_SMART ≠ w_FIRE_NOW) (ne_w_SMART_w_DO_NOTHING : w_SMART ≠ w_DO_NOTHING) (ne_w_FIRE_NOW_w_DO_NOTHING : w_FIRE_NOW ≠ w_DO_NOTHING) (kV : ClassId) (V_V : Arv Z Z.heap w__VALUES kV (.object "com/example/fates/fates/MisfirePolicy") (4 : Int32) [(.ref w_IGNORE), (.ref w_SMART), (.ref w_FIRE_NOW), (.ref w_DO_NOTHING)] .null)  (h0 : Heap) (n0 : Nat) (v : Option Value) (h : Heap) (L : List Loc) : Prop := v = some (.ref w_FIRE_NOW) ∧ Fr n0 L ∧ Keep h0 h []
set_option maxRecDepth 65536 in
set_option maxHeartbeats 40000000 in
theorem own_rm1c2 (l : Launch) (Z : State) (a0 : Array Value) (hw : ∀ d ∈ tables_1, d.before a0 Z = true) (ws : List Jvm.Cond) (w__VALUES : Addr) (w_IGNORE : Addr) (w_SMART : Addr) (w_FIRE_NOW : Addr) (w_DO_NOTHING : Addr) (S_w__VALUES : Sta Z Z.heap "com/example/fates/fates/MisfirePolicy" "$VALUES" "[Lcom/example/fates/fates/MisfirePolicy;" (.ref w__VALUES)) (S_w_IGNORE : Sta Z Z.heap "com/example/fates/fates/MisfirePolicy" "IGNORE" "Lcom/example/fates/fates/MisfirePolicy;" (.ref w_IGNORE)) (S_w_SMART : Sta Z Z.heap "com/example/fates/fates/MisfirePolicy" "SMART" "Lcom/example/fates/fates/MisfirePolicy;" (.ref w_SMART)) (S_w_FIRE_NOW : Sta Z Z.heap "com/example/fates/fates/MisfirePolicy" "FIRE_NOW" "Lcom/example/fates/fates/MisfirePolicy;" (.ref w_FIRE_NOW)) (S_w_DO_NOTHING : Sta Z Z.heap "com/example/fates/fates/MisfirePolicy" "DO_NOTHING" "Lcom/example/fates/fates/MisfirePolicy;" (.ref w_DO_NOTHING)) (E_w__VALUES : Exa Z Z.heap w__VALUES "[Lcom/example/fates/fates/MisfirePolicy;") (E_w_IGNORE : Exa Z Z.heap w_IGNORE "com/example/fates/fates/MisfirePolicy") (E_w_SMART : Exa Z Z.heap w_SMART "com/example/fates/fates/MisfirePolicy") (E_w_FIRE_NOW : Exa Z Z.heap w_FIRE_NOW "com/example/fates/fates/MisfirePolicy") (E_w_DO_NOTHING : Exa Z Z.heap w_DO_NOTHING "com/example/fates/fates/MisfirePolicy") (F_code_w_IGNORE : Fld Z Z.heap w_IGNORE "com/example/fates/fates/MisfirePolicy" "code" "I" (.int (-1 : Int32))) (F_code_w_SMART : Fld Z Z.heap w_SMART "com/example/fates/fates/MisfirePolicy" "code" "I" (.int (0 : Int32))) (F_code_w_FIRE_NOW : Fld Z Z.heap w_FIRE_NOW "com/example/fates/fates/MisfirePolicy" "code" "I" (.int (1 : Int32))) (F_code_w_DO_NOTHING : Fld Z Z.heap w_DO_NOTHING "com/example/fates/fates/MisfirePolicy" "code" "I" (.int (2 : Int32))) (ne_w_IGNORE_w_SMART : w_IGNORE ≠ w_SMART) (ne_w_IGNORE_w_FIRE_NOW : w_IGNORE ≠ w_FIRE_NOW) (ne_w_IGNORE_w_DO_NOTHING : w_IGNORE ≠ w_DO_NOTHING) (ne_w_SMART_w_FIRE_NOW : w_SMART ≠ w_FIRE_NOW) (ne_w_SMART_w_DO_NOTHING : w_SMART ≠ w_DO_NOTHING) (ne_w_FIRE_NOW_w_DO_NOTHING : w_FIRE_NOW ≠ w_DO_NOTHING) (kV : ClassId) (V_V : Arv Z Z.heap w__VALUES kV (.object "com/example/fates/fates/MisfirePolicy") (4 : Int32) [(.ref w_IGNORE), (.ref w_SMART), (.ref w_FIRE_NOW), (.ref w_DO_NOTHING)] .null)  (h0 : Heap) (n0 : Nat) (Z0 : n0 ≤ h0.size) (O0 : Old Z n0 h0) :
    MetFree l (⟨"com/example/fates/fates/MisfirePolicy", "fromCode", "(I)Lcom/example/fates/fates/MisfirePolicy;"⟩ : MethodName) (head1 (Jvm.Cond.code (⟨"com/example/fates/fates/MisfirePolicy", "fromCode", "(I)Lcom/example/fates/fates/MisfirePolicy;"⟩ : MethodName) prog_14_method_5_code 5 (some (.object "com/example/fates/fates/MisfirePolicy")) :: ws) ({ frames := 2, cells := 1, slots := 4, locals := 25 } : Room)) (fun a U => a = #[(.int (1 : Int32))] ∧ Z.Warmed39 U.vm ∧ U.heap = h0) (fun _ _ _ _ _ => True) (fun _ U o U' => ∃ v L, o = .returned v ∧ own_Q1c2 Z w__VALUES w_IGNORE w_SMART w_FIRE_NOW w_DO_NOTHING S_w__VALUES S_w_IGNORE S_w_SMART S_w_FIRE_NOW S_w_DO_NOTHING E_w__VALUES E_w_IGNORE E_w_SMART E_w_FIRE_NOW E_w_DO_NOTHING F_code_w_IGNORE F_code_w_SMART F_code_w_FIRE_NOW F_code_w_DO_NOTHING ne_w_IGNORE_w_SMART ne_w_IGNORE_w_FIRE_NOW ne_w_IGNORE_w_DO_NOTHING ne_w_SMART_w_FIRE_NOW ne_w_SMART_w_DO_NOTHING ne_w_FIRE_NOW_w_DO_NOTHING kV V_V  h0 n0 v U'.heap L ∧ FrameEnd U o U' L ({ frames := 2, cells := 1, slots := 4, locals := 25 } : Room).cells ({ frames := 2, cells := 1, slots := 4, locals := 25 } : Room).slots) := by
  refine MetFree.of_bodySF (plainFor_of_name own_pn0) hisR ?_
  intro p e s m args below meth c s₁ Bd hml0 hP hK
  obtain ⟨rfl, hZ, hh⟩ := hP
  have hx := Bd.exec
  have hby := Bd.bytes
  have hlk := Bd.notSynchronized
  have hrt := Bd.returns
  have hml : c.maxLocals = 5 := hml0
  have hown : s.vm.findClass "com/example/fates/fates/MisfirePolicy" = some m.cls := findClass_of_methodNamed Bd.named
  have hnm := (name_of_methodNamed Bd.named Bd.method).1
  have X0 : Stand p l e ({ frames := 2, cells := 1, slots := 4, locals := 25 } : Room) s m #[(.int (1 : Int32))] below meth c s₁ [] 0 0 := Stand.of_body Bd
  have e0 : s₁.heap = h0 := by rw [← hh, Bd.state]; rfl
  have N0 := Fr.nil n0
  have KC0 := Keep.refl h0 []
  refine own_in (own_ef1c2 m ) ?_
  obtain ⟨_, _, ⟨T1, Lx1, kc1, nc1⟩, -, X1, ⟨Lc1, hQ1, lq1, yq1, zq1⟩, st1⟩ := Jvm.LawKit.callS X0 hx (y := (⟨"com/example/fates/fates/MisfirePolicy", "values", "()[Lcom/example/fates/fates/MisfirePolicy;"⟩ : MethodName)) hown (mvT hZ (hw _ (List.mem_of_getElem? (i := 4) rfl))) (mvT hZ (hw _ (List.mem_of_getElem? (i := 5) rfl))) (mvT hZ (hw _ (List.mem_of_getElem? (i := 2) rfl))) (mvT hZ (hw _ (List.mem_of_getElem? (i := 6) rfl))) (by decide) (backOf (W := 0) (own_rm2 l Z a0 hw [] w__VALUES w_IGNORE w_SMART w_FIRE_NOW w_DO_NOTHING S_w__VALUES S_w_IGNORE S_w_SMART S_w_FIRE_NOW S_w_DO_NOTHING E_w__VALUES E_w_IGNORE E_w_SMART E_w_FIRE_NOW E_w_DO_NOTHING F_code_w_IGNORE F_code_w_SMART F_code_w_FIRE_NOW F_code_w_DO_NOTHING ne_w_IGNORE_w_SMART ne_w_IGNORE_w_FIRE_NOW ne_w_IGNORE_w_DO_NOTHING ne_w_SMART_w_FIRE_NOW ne_w_SMART_w_DO_NOTHING ne_w_FIRE_NOW_w_DO_NOTHING kV V_V  h0 n0 Z0 O0) hZ (hw _ (List.mem_of_getElem? (i := 6) rfl)) (hw _ (List.mem_of_getElem? (i := 2) rfl)) (by decide) (by decide)) (g := (mkF m 0 #[.val (.int (1 : Int32)), .unset, .unset, .unset, .unset] [])) rfl (by rw [hml]; rfl) (argsL := []) (rest := []) (lenOf own_pd0 rfl) rfl (by show 2 * 0 + _ ≤ _; exact Nat.le_of_eq rfl) (hb hby own_d1_0) (fun _ _ => ⟨rfl, e0, (by decide : 0 + 1 ≤ _), (by decide : 0 + 4 ≤ _)⟩)
  dsimp only [Pt.U, Pt.locs, Pt.cells, Pt.slots] at X1 lq1 yq1 zq1 st1 hQ1
  subst lq1 yq1 zq1
  obtain ⟨bb_1, rfl, Nq1, Kp1, G1_0, G1_1⟩ := hQ1
  have N1 := Fr.app N0 Nq1
  have gt_bb_1 : n0 ≤ bb_1 := Nat.le_trans Z0 G1_0
  have sz_bb_1 : h0.size ≤ bb_1 := Nat.le_trans KC0.1 G1_0
  have O2 := O0.keep Kp1 all0
  have KC3 := KC0.trans Kp1 all0
  have Z4 := Nat.le_trans Z0 Kp1.1
  refine own_st (G' := T1.setTop (mkF m 3 #[.val (.int (1 : Int32)), .unset, .unset, .unset, .unset] [(.ref bb_1)])) st1 ?_
  refine own_astoreN X1 hx 4 #[.val (.int (1 : Int32)), .val (.ref bb_1), .unset, .unset, .unset] (hb hby own_d1_3) rfl rfl ?_
  refine own_aloadN X1 hx 5 (hb hby own_d1_4) rfl rfl ?_
  obtain ⟨cl5, Ar5, qv5, S5, M5, H5, G5⟩ := id G1_1
  have ln5 := len_of S5 M5
  refine own_st (G' := T1.setTop (mkF m 6 #[.val (.int (1 : Int32)), .val (.ref bb_1), .unset, .unset, .unset] [(.int (4 : Int32))])) (fun t k => X1.arraylength hx Ar5.1 (State.isArrayOf_alike hZ.alike Ar5.2.1) (g := (mkF m 5 #[.val (.int (1 : Int32)), .val (.ref bb_1), .unset, .unset, .unset] [(.ref bb_1)])) rfl rfl (hb hby own_d1_5) _ (by rw [ln5]; exact k)) ?_
  refine own_istoreN X1 hx 7 #[.val (.int (1 : Int32)), .val (.ref bb_1), .val (.int (4 : Int32)), .unset, .unset] (hb hby own_d1_6) rfl ?_
  refine own_iconst X1 hx 8 (0 : Int32) (hb hby own_d1_7) rfl ?_
  refine own_istoreN X1 hx 9 #[.val (.int (1 : Int32)), .val (.ref bb_1), .val (.int (4 : Int32)), .val (.int (0 : Int32)), .unset] (hb hby own_d1_8) rfl ?_
  refine own_iloadN X1 hx 10 (hb hby own_d1_9) rfl ?_
  refine own_iloadN X1 hx 11 (hb hby own_d1_10) rfl ?_
  refine own_icmpNo X1 hx 14 (hb hby own_d1_11) (tlt (by decide : (0 : Int32) < (4 : Int32))).2.1 ?_
  refine own_aloadN X1 hx 15 (hb hby own_d1_14) rfl rfl ?_
  refine own_iloadN X1 hx 16 (hb hby own_d1_15) rfl ?_
  obtain ⟨cl6, Ar6, qv6, S6, M6, H6, G6⟩ := id G1_1
  have hin6 : ¬ ((0 : Int32) < 0 ∨ cl6.slots.size ≤ ((0 : Int32)).toNatClampNeg) := inb_of S6 ⟨by decide, by decide⟩
  refine own_st (G' := T1.setTop (mkF m 17 #[.val (.int (1 : Int32)), .val (.ref bb_1), .val (.int (4 : Int32)), .val (.int (0 : Int32)), .unset] [(.ref w_IGNORE)])) (fun t k => X1.aaload hx (j := (0 : Int32)) (v := (.ref w_IGNORE)) Ar6.1 (State.isArrayOf_alike hZ.alike Ar6.2.1) rfl Ar6.2.2 hin6 (H6.at hin6 rfl) (g := (mkF m 16 #[.val (.int (1 : Int32)), .val (.ref bb_1), .val (.int (4 : Int32)), .val (.int (0 : Int32)), .unset] [(.int (0 : Int32)), (.ref bb_1)])) rfl rfl (hb hby own_d1_16) _ k) ?_
  refine own_astore X1 hx 19 #[.val (.int (1 : Int32)), .val (.ref bb_1), .val (.int (4 : Int32)), .val (.int (0 : Int32)), .val (.ref w_IGNORE)] (hb hby own_d1_17) rfl rfl ?_
  refine own_aload X1 hx 21 (hb hby own_d1_19) rfl rfl ?_
  have f7 := (F_code_w_IGNORE.ext O2.2)
  obtain ⟨T8, X8, e8, st8⟩ := getF X1 hx hZ hown (host := "") (Or.inl (hw _ (List.mem_of_getElem? (i := 23) rfl))) Via.refl rfl f7 (g := (mkF m 21 #[.val (.int (1 : Int32)), .val (.ref bb_1), .val (.int (4 : Int32)), .val (.int (0 : Int32)), .val (.ref w_IGNORE)] [(.ref w_IGNORE)])) rfl rfl (hb hby own_d1_21)
  refine own_st (G' := T8.setTop (mkF m 24 #[.val (.int (1 : Int32)), .val (.ref bb_1), .val (.int (4 : Int32)), .val (.int (0 : Int32)), .val (.ref w_IGNORE)] [(.int (-1 : Int32))])) st8 ?_
  refine own_iloadN X8 hx 25 (hb hby own_d1_24) rfl ?_
  refine own_icmpYes X8 hx 31 (hb hby own_d1_25) (feq (by decide : ¬ ((-1 : Int32) = (1 : Int32)))).2 ?_
  refine own_iinc X8 hx 34 (1 : Int32) #[.val (.int (1 : Int32)), .val (.ref bb_1), .val (.int (4 : Int32)), .val (.int (1 : Int32)), .val (.ref w_IGNORE)] (hb hby own_d1_31) rfl rfl rfl ?_
  refine own_goto X8 hx 9 (hb hby own_d1_34) ?_
  refine own_iloadN X8 hx 10 (hb hby own_d1_9) rfl ?_
  refine own_iloadN X8 hx 11 (hb hby own_d1_10) rfl ?_
  refine own_icmpNo X8 hx 14 (hb hby own_d1_11) (tlt (by decide : (1 : Int32) < (4 : Int32))).2.1 ?_
  refine own_aloadN X8 hx 15 (hb hby own_d1_14) rfl rfl ?_
  refine own_iloadN X8 hx 16 (hb hby own_d1_15) rfl ?_
  obtain ⟨cl9, Ar9, qv9, S9, M9, H9, G9⟩ := id G1_1
  have hin9 : ¬ ((1 : Int32) < 0 ∨ cl9.slots.size ≤ ((1 : Int32)).toNatClampNeg) := inb_of S9 ⟨by decide, by decide⟩
  refine own_st (G' := T8.setTop (mkF m 17 #[.val (.int (1 : Int32)), .val (.ref bb_1), .val (.int (4 : Int32)), .val (.int (1 : Int32)), .val (.ref w_IGNORE)] [(.ref w_SMART)])) (fun t k => X8.aaload hx (j := (1 : Int32)) (v := (.ref w_SMART)) (by rw [e8]; exact Ar9.1) (State.isArrayOf_alike hZ.alike Ar9.2.1) rfl Ar9.2.2 hin9 (H9.at hin9 rfl) (g := (mkF m 16 #[.val (.int (1 : Int32)), .val (.ref bb_1), .val (.int (4 : Int32)), .val (.int (1 : Int32)), .val (.ref w_IGNORE)] [(.int (1 : Int32)), (.ref bb_1)])) rfl rfl (hb hby own_d1_16) _ k) ?_
  refine own_astore X8 hx 19 #[.val (.int (1 : Int32)), .val (.ref bb_1), .val (.int (4 : Int32)), .val (.int (1 : Int32)), .val (.ref w_SMART)] (hb hby own_d1_17) rfl rfl ?_
  refine own_aload X8 hx 21 (hb hby own_d1_19) rfl rfl ?_
  have f10 := (F_code_w_SMART.ext O2.2)
  obtain ⟨T11, X11, e11, st11⟩ := getF X8 hx hZ hown (host := "") (Or.inl (hw _ (List.mem_of_getElem? (i := 23) rfl))) Via.refl e8 f10 (g := (mkF m 21 #[.val (.int (1 : Int32)), .val (.ref bb_1), .val (.int (4 : Int32)), .val (.int (1 : Int32)), .val (.ref w_SMART)] [(.ref w_SMART)])) rfl rfl (hb hby own_d1_21)
  refine own_st (G' := T11.setTop (mkF m 24 #[.val (.int (1 : Int32)), .val (.ref bb_1), .val (.int (4 : Int32)), .val (.int (1 : Int32)), .val (.ref w_SMART)] [(.int (0 : Int32))])) st11 ?_
  refine own_iloadN X11 hx 25 (hb hby own_d1_24) rfl ?_
  refine own_icmpYes X11 hx 31 (hb hby own_d1_25) (feq (by decide : ¬ ((0 : Int32) = (1 : Int32)))).2 ?_
  refine own_iinc X11 hx 34 (1 : Int32) #[.val (.int (1 : Int32)), .val (.ref bb_1), .val (.int (4 : Int32)), .val (.int (2 : Int32)), .val (.ref w_SMART)] (hb hby own_d1_31) rfl rfl rfl ?_
  refine own_goto X11 hx 9 (hb hby own_d1_34) ?_
  refine own_iloadN X11 hx 10 (hb hby own_d1_9) rfl ?_
  refine own_iloadN X11 hx 11 (hb hby own_d1_10) rfl ?_
  refine own_icmpNo X11 hx 14 (hb hby own_d1_11) (tlt (by decide : (2 : Int32) < (4 : Int32))).2.1 ?_
  refine own_aloadN X11 hx 15 (hb hby own_d1_14) rfl rfl ?_
  refine own_iloadN X11 hx 16 (hb hby own_d1_15) rfl ?_
  obtain ⟨cl12, Ar12, qv12, S12, M12, H12, G12⟩ := id G1_1
  have hin12 : ¬ ((2 : Int32) < 0 ∨ cl12.slots.size ≤ ((2 : Int32)).toNatClampNeg) := inb_of S12 ⟨by decide, by decide⟩
  refine own_st (G' := T11.setTop (mkF m 17 #[.val (.int (1 : Int32)), .val (.ref bb_1), .val (.int (4 : Int32)), .val (.int (2 : Int32)), .val (.ref w_SMART)] [(.ref w_FIRE_NOW)])) (fun t k => X11.aaload hx (j := (2 : Int32)) (v := (.ref w_FIRE_NOW)) (by rw [e11]; exact Ar12.1) (State.isArrayOf_alike hZ.alike Ar12.2.1) rfl Ar12.2.2 hin12 (H12.at hin12 rfl) (g := (mkF m 16 #[.val (.int (1 : Int32)), .val (.ref bb_1), .val (.int (4 : Int32)), .val (.int (2 : Int32)), .val (.ref w_SMART)] [(.int (2 : Int32)), (.ref bb_1)])) rfl rfl (hb hby own_d1_16) _ k) ?_
  refine own_astore X11 hx 19 #[.val (.int (1 : Int32)), .val (.ref bb_1), .val (.int (4 : Int32)), .val (.int (2 : Int32)), .val (.ref w_FIRE_NOW)] (hb hby own_d1_17) rfl rfl ?_
  refine own_aload X11 hx 21 (hb hby own_d1_19) rfl rfl ?_
  have f13 := (F_code_w_FIRE_NOW.ext O2.2)
  obtain ⟨T14, X14, e14, st14⟩ := getF X11 hx hZ hown (host := "") (Or.inl (hw _ (List.mem_of_getElem? (i := 23) rfl))) Via.refl e11 f13 (g := (mkF m 21 #[.val (.int (1 : Int32)), .val (.ref bb_1), .val (.int (4 : Int32)), .val (.int (2 : Int32)), .val (.ref w_FIRE_NOW)] [(.ref w_FIRE_NOW)])) rfl rfl (hb hby own_d1_21)
  refine own_st (G' := T14.setTop (mkF m 24 #[.val (.int (1 : Int32)), .val (.ref bb_1), .val (.int (4 : Int32)), .val (.int (2 : Int32)), .val (.ref w_FIRE_NOW)] [(.int (1 : Int32))])) st14 ?_
  refine own_iloadN X14 hx 25 (hb hby own_d1_24) rfl ?_
  refine own_icmpNo X14 hx 28 (hb hby own_d1_25) (teq (rfl : (1 : Int32) = (1 : Int32))).2 ?_
  refine own_aload X14 hx 30 (hb hby own_d1_28) rfl rfl ?_
  exact own_retA (z := (.ref w_FIRE_NOW)) (Q := own_Q1c2 Z w__VALUES w_IGNORE w_SMART w_FIRE_NOW w_DO_NOTHING S_w__VALUES S_w_IGNORE S_w_SMART S_w_FIRE_NOW S_w_DO_NOTHING E_w__VALUES E_w_IGNORE E_w_SMART E_w_FIRE_NOW E_w_DO_NOTHING F_code_w_IGNORE F_code_w_SMART F_code_w_FIRE_NOW F_code_w_DO_NOTHING ne_w_IGNORE_w_SMART ne_w_IGNORE_w_FIRE_NOW ne_w_IGNORE_w_DO_NOTHING ne_w_SMART_w_FIRE_NOW ne_w_SMART_w_DO_NOTHING ne_w_FIRE_NOW_w_DO_NOTHING kV V_V  h0 n0) X14 hx hrt rfl rfl (hb hby own_d1_30) hlk e14 ⟨rfl, N1, KC3⟩ (by decide) (by decide)
theorem own_ef1c3 (m : MethodId) : entryFrame m #[(.int (2 : Int32))] 5 = mkF m 0 #[.val (.int (2 : Int32)), .unset, .unset, .unset, .unset] [] := by first | (simp [entryFrame, mkF, argsToLocals, Value.category]; done) | rfl
def own_Q1c3 (Z : State) (w__VALUES : Addr) (w_IGNORE : Addr) (w_SMART : Addr) (w_FIRE_NOW : Addr) (w_DO_NOTHING : Addr) (S_w__VALUES : Sta Z Z.heap "com/example/fates/fates/MisfirePolicy" "$VALUES" "[Lcom/example/fates/fates/MisfirePolicy;" (.ref w__VALUES)) (S_w_IGNORE : Sta Z Z.heap "com/example/fates/fates/MisfirePolicy" "IGNORE" "Lcom/example/fates/fates/MisfirePolicy;" (.ref w_IGNORE)) (S_w_SMART : Sta Z Z.heap "com/example/fates/fates/MisfirePolicy" "SMART" "Lcom/example/fates/fates/MisfirePolicy;" (.ref w_SMART)) (S_w_FIRE_NOW : Sta Z Z.heap "com/example/fates/fates/MisfirePolicy" "FIRE_NOW" "Lcom/example/fates/fates/MisfirePolicy;" (.ref w_FIRE_NOW)) (S_w_DO_NOTHING : Sta Z Z.heap "com/example/fates/fates/MisfirePolicy" "DO_NOTHING" "Lcom/example/fates/fates/MisfirePolicy;" (.ref w_DO_NOTHING)) (E_w__VALUES : Exa Z Z.heap w__VALUES "[Lcom/example/fates/fates/MisfirePolicy;") (E_w_IGNORE : Exa Z Z.heap w_IGNORE "com/example/fates/fates/MisfirePolicy") (E_w_SMART : Exa Z Z.heap w_SMART "com/example/fates/fates/MisfirePolicy") (E_w_FIRE_NOW : Exa Z Z.heap w_FIRE_NOW "com/example/fates/fates/MisfirePolicy") (E_w_DO_NOTHING : Exa Z Z.heap w_DO_NOTHING "com/example/fates/fates/MisfirePolicy") (F_code_w_IGNORE : Fld Z Z.heap w_IGNORE "com/example/fates/fates/MisfirePolicy" "code" "I" (.int (-1 : Int32))) (F_code_w_SMART : Fld Z Z.heap w_SMART "com/example/fates/fates/MisfirePolicy" "code" "I" (.int (0 : Int32))) (F_code_w_FIRE_NOW : Fld Z Z.heap w_FIRE_NOW "com/example/fates/fates/MisfirePolicy" "code" "I" (.int (1 : Int32))) (F_code_w_DO_NOTHING : Fld Z Z.heap w_DO_NOTHING "com/example/fates/fates/MisfirePolicy" "code" "I" (.int (2 : Int32))) (ne_w_IGNORE_w_SMART : w_IGNORE ≠ w_SMART) (ne_w_IGNORE_w_FIRE_NOW : w_IGNORE ≠ w_FIRE_NOW) (ne_w_IGNORE_w_DO_NOTHING : w_IGNORE ≠ w_DO_NOTHING) (ne_w_SMART_w_FIRE_NOW : w_SMART ≠ w_FIRE_NOW) (ne_w_SMART_w_DO_NOTHING : w_SMART ≠ w_DO_NOTHING) (ne_w_FIRE_NOW_w_DO_NOTHING : w_FIRE_NOW ≠ w_DO_NOTHING) (kV : ClassId) (V_V : Arv Z Z.heap w__VALUES kV (.object "com/example/fates/fates/MisfirePolicy") (4 : Int32) [(.ref w_IGNORE), (.ref w_SMART), (.ref w_FIRE_NOW), (.ref w_DO_NOTHING)] .null)  (h0 : Heap) (n0 : Nat) (v : Option Value) (h : Heap) (L : List Loc) : Prop := v = some (.ref w_DO_NOTHING) ∧ Fr n0 L ∧ Keep h0 h []
set_option maxRecDepth 65536 in
set_option maxHeartbeats 40000000 in
theorem own_rm1c3 (l : Launch) (Z : State) (a0 : Array Value) (hw : ∀ d ∈ tables_1, d.before a0 Z = true) (ws : List Jvm.Cond) (w__VALUES : Addr) (w_IGNORE : Addr) (w_SMART : Addr) (w_FIRE_NOW : Addr) (w_DO_NOTHING : Addr) (S_w__VALUES : Sta Z Z.heap "com/example/fates/fates/MisfirePolicy" "$VALUES" "[Lcom/example/fates/fates/MisfirePolicy;" (.ref w__VALUES)) (S_w_IGNORE : Sta Z Z.heap "com/example/fates/fates/MisfirePolicy" "IGNORE" "Lcom/example/fates/fates/MisfirePolicy;" (.ref w_IGNORE)) (S_w_SMART : Sta Z Z.heap "com/example/fates/fates/MisfirePolicy" "SMART" "Lcom/example/fates/fates/MisfirePolicy;" (.ref w_SMART)) (S_w_FIRE_NOW : Sta Z Z.heap "com/example/fates/fates/MisfirePolicy" "FIRE_NOW" "Lcom/example/fates/fates/MisfirePolicy;" (.ref w_FIRE_NOW)) (S_w_DO_NOTHING : Sta Z Z.heap "com/example/fates/fates/MisfirePolicy" "DO_NOTHING" "Lcom/example/fates/fates/MisfirePolicy;" (.ref w_DO_NOTHING)) (E_w__VALUES : Exa Z Z.heap w__VALUES "[Lcom/example/fates/fates/MisfirePolicy;") (E_w_IGNORE : Exa Z Z.heap w_IGNORE "com/example/fates/fates/MisfirePolicy") (E_w_SMART : Exa Z Z.heap w_SMART "com/example/fates/fates/MisfirePolicy") (E_w_FIRE_NOW : Exa Z Z.heap w_FIRE_NOW "com/example/fates/fates/MisfirePolicy") (E_w_DO_NOTHING : Exa Z Z.heap w_DO_NOTHING "com/example/fates/fates/MisfirePolicy") (F_code_w_IGNORE : Fld Z Z.heap w_IGNORE "com/example/fates/fates/MisfirePolicy" "code" "I" (.int (-1 : Int32))) (F_code_w_SMART : Fld Z Z.heap w_SMART "com/example/fates/fates/MisfirePolicy" "code" "I" (.int (0 : Int32))) (F_code_w_FIRE_NOW : Fld Z Z.heap w_FIRE_NOW "com/example/fates/fates/MisfirePolicy" "code" "I" (.int (1 : Int32))) (F_code_w_DO_NOTHING : Fld Z Z.heap w_DO_NOTHING "com/example/fates/fates/MisfirePolicy" "code" "I" (.int (2 : Int32))) (ne_w_IGNORE_w_SMART : w_IGNORE ≠ w_SMART) (ne_w_IGNORE_w_FIRE_NOW : w_IGNORE ≠ w_FIRE_NOW) (ne_w_IGNORE_w_DO_NOTHING : w_IGNORE ≠ w_DO_NOTHING) (ne_w_SMART_w_FIRE_NOW : w_SMART ≠ w_FIRE_NOW) (ne_w_SMART_w_DO_NOTHING : w_SMART ≠ w_DO_NOTHING) (ne_w_FIRE_NOW_w_DO_NOTHING : w_FIRE_NOW ≠ w_DO_NOTHING) (kV : ClassId) (V_V : Arv Z Z.heap w__VALUES kV (.object "com/example/fates/fates/MisfirePolicy") (4 : Int32) [(.ref w_IGNORE), (.ref w_SMART), (.ref w_FIRE_NOW), (.ref w_DO_NOTHING)] .null)  (h0 : Heap) (n0 : Nat) (Z0 : n0 ≤ h0.size) (O0 : Old Z n0 h0) :
    MetFree l (⟨"com/example/fates/fates/MisfirePolicy", "fromCode", "(I)Lcom/example/fates/fates/MisfirePolicy;"⟩ : MethodName) (head1 (Jvm.Cond.code (⟨"com/example/fates/fates/MisfirePolicy", "fromCode", "(I)Lcom/example/fates/fates/MisfirePolicy;"⟩ : MethodName) prog_14_method_5_code 5 (some (.object "com/example/fates/fates/MisfirePolicy")) :: ws) ({ frames := 2, cells := 1, slots := 4, locals := 25 } : Room)) (fun a U => a = #[(.int (2 : Int32))] ∧ Z.Warmed39 U.vm ∧ U.heap = h0) (fun _ _ _ _ _ => True) (fun _ U o U' => ∃ v L, o = .returned v ∧ own_Q1c3 Z w__VALUES w_IGNORE w_SMART w_FIRE_NOW w_DO_NOTHING S_w__VALUES S_w_IGNORE S_w_SMART S_w_FIRE_NOW S_w_DO_NOTHING E_w__VALUES E_w_IGNORE E_w_SMART E_w_FIRE_NOW E_w_DO_NOTHING F_code_w_IGNORE F_code_w_SMART F_code_w_FIRE_NOW F_code_w_DO_NOTHING ne_w_IGNORE_w_SMART ne_w_IGNORE_w_FIRE_NOW ne_w_IGNORE_w_DO_NOTHING ne_w_SMART_w_FIRE_NOW ne_w_SMART_w_DO_NOTHING ne_w_FIRE_NOW_w_DO_NOTHING kV V_V  h0 n0 v U'.heap L ∧ FrameEnd U o U' L ({ frames := 2, cells := 1, slots := 4, locals := 25 } : Room).cells ({ frames := 2, cells := 1, slots := 4, locals := 25 } : Room).slots) := by
  refine MetFree.of_bodySF (plainFor_of_name own_pn0) hisR ?_
  intro p e s m args below meth c s₁ Bd hml0 hP hK
  obtain ⟨rfl, hZ, hh⟩ := hP
  have hx := Bd.exec
  have hby := Bd.bytes
  have hlk := Bd.notSynchronized
  have hrt := Bd.returns
  have hml : c.maxLocals = 5 := hml0
  have hown : s.vm.findClass "com/example/fates/fates/MisfirePolicy" = some m.cls := findClass_of_methodNamed Bd.named
  have hnm := (name_of_methodNamed Bd.named Bd.method).1
  have X0 : Stand p l e ({ frames := 2, cells := 1, slots := 4, locals := 25 } : Room) s m #[(.int (2 : Int32))] below meth c s₁ [] 0 0 := Stand.of_body Bd
  have e0 : s₁.heap = h0 := by rw [← hh, Bd.state]; rfl
  have N0 := Fr.nil n0
  have KC0 := Keep.refl h0 []
  refine own_in (own_ef1c3 m ) ?_
  obtain ⟨_, _, ⟨T1, Lx1, kc1, nc1⟩, -, X1, ⟨Lc1, hQ1, lq1, yq1, zq1⟩, st1⟩ := Jvm.LawKit.callS X0 hx (y := (⟨"com/example/fates/fates/MisfirePolicy", "values", "()[Lcom/example/fates/fates/MisfirePolicy;"⟩ : MethodName)) hown (mvT hZ (hw _ (List.mem_of_getElem? (i := 4) rfl))) (mvT hZ (hw _ (List.mem_of_getElem? (i := 5) rfl))) (mvT hZ (hw _ (List.mem_of_getElem? (i := 2) rfl))) (mvT hZ (hw _ (List.mem_of_getElem? (i := 6) rfl))) (by decide) (backOf (W := 0) (own_rm2 l Z a0 hw [] w__VALUES w_IGNORE w_SMART w_FIRE_NOW w_DO_NOTHING S_w__VALUES S_w_IGNORE S_w_SMART S_w_FIRE_NOW S_w_DO_NOTHING E_w__VALUES E_w_IGNORE E_w_SMART E_w_FIRE_NOW E_w_DO_NOTHING F_code_w_IGNORE F_code_w_SMART F_code_w_FIRE_NOW F_code_w_DO_NOTHING ne_w_IGNORE_w_SMART ne_w_IGNORE_w_FIRE_NOW ne_w_IGNORE_w_DO_NOTHING ne_w_SMART_w_FIRE_NOW ne_w_SMART_w_DO_NOTHING ne_w_FIRE_NOW_w_DO_NOTHING kV V_V  h0 n0 Z0 O0) hZ (hw _ (List.mem_of_getElem? (i := 6) rfl)) (hw _ (List.mem_of_getElem? (i := 2) rfl)) (by decide) (by decide)) (g := (mkF m 0 #[.val (.int (2 : Int32)), .unset, .unset, .unset, .unset] [])) rfl (by rw [hml]; rfl) (argsL := []) (rest := []) (lenOf own_pd0 rfl) rfl (by show 2 * 0 + _ ≤ _; exact Nat.le_of_eq rfl) (hb hby own_d1_0) (fun _ _ => ⟨rfl, e0, (by decide : 0 + 1 ≤ _), (by decide : 0 + 4 ≤ _)⟩)
  dsimp only [Pt.U, Pt.locs, Pt.cells, Pt.slots] at X1 lq1 yq1 zq1 st1 hQ1
  subst lq1 yq1 zq1
  obtain ⟨bb_1, rfl, Nq1, Kp1, G1_0, G1_1⟩ := hQ1
  have N1 := Fr.app N0 Nq1
  have gt_bb_1 : n0 ≤ bb_1 := Nat.le_trans Z0 G1_0
  have sz_bb_1 : h0.size ≤ bb_1 := Nat.le_trans KC0.1 G1_0
  have O2 := O0.keep Kp1 all0
  have KC3 := KC0.trans Kp1 all0
  have Z4 := Nat.le_trans Z0 Kp1.1
  refine own_st (G' := T1.setTop (mkF m 3 #[.val (.int (2 : Int32)), .unset, .unset, .unset, .unset] [(.ref bb_1)])) st1 ?_
  refine own_astoreN X1 hx 4 #[.val (.int (2 : Int32)), .val (.ref bb_1), .unset, .unset, .unset] (hb hby own_d1_3) rfl rfl ?_
  refine own_aloadN X1 hx 5 (hb hby own_d1_4) rfl rfl ?_
  obtain ⟨cl5, Ar5, qv5, S5, M5, H5, G5⟩ := id G1_1
  have ln5 := len_of S5 M5
  refine own_st (G' := T1.setTop (mkF m 6 #[.val (.int (2 : Int32)), .val (.ref bb_1), .unset, .unset, .unset] [(.int (4 : Int32))])) (fun t k => X1.arraylength hx Ar5.1 (State.isArrayOf_alike hZ.alike Ar5.2.1) (g := (mkF m 5 #[.val (.int (2 : Int32)), .val (.ref bb_1), .unset, .unset, .unset] [(.ref bb_1)])) rfl rfl (hb hby own_d1_5) _ (by rw [ln5]; exact k)) ?_
  refine own_istoreN X1 hx 7 #[.val (.int (2 : Int32)), .val (.ref bb_1), .val (.int (4 : Int32)), .unset, .unset] (hb hby own_d1_6) rfl ?_
  refine own_iconst X1 hx 8 (0 : Int32) (hb hby own_d1_7) rfl ?_
  refine own_istoreN X1 hx 9 #[.val (.int (2 : Int32)), .val (.ref bb_1), .val (.int (4 : Int32)), .val (.int (0 : Int32)), .unset] (hb hby own_d1_8) rfl ?_
  refine own_iloadN X1 hx 10 (hb hby own_d1_9) rfl ?_
  refine own_iloadN X1 hx 11 (hb hby own_d1_10) rfl ?_
  refine own_icmpNo X1 hx 14 (hb hby own_d1_11) (tlt (by decide : (0 : Int32) < (4 : Int32))).2.1 ?_
  refine own_aloadN X1 hx 15 (hb hby own_d1_14) rfl rfl ?_
  refine own_iloadN X1 hx 16 (hb hby own_d1_15) rfl ?_
  obtain ⟨cl6, Ar6, qv6, S6, M6, H6, G6⟩ := id G1_1
  have hin6 : ¬ ((0 : Int32) < 0 ∨ cl6.slots.size ≤ ((0 : Int32)).toNatClampNeg) := inb_of S6 ⟨by decide, by decide⟩
  refine own_st (G' := T1.setTop (mkF m 17 #[.val (.int (2 : Int32)), .val (.ref bb_1), .val (.int (4 : Int32)), .val (.int (0 : Int32)), .unset] [(.ref w_IGNORE)])) (fun t k => X1.aaload hx (j := (0 : Int32)) (v := (.ref w_IGNORE)) Ar6.1 (State.isArrayOf_alike hZ.alike Ar6.2.1) rfl Ar6.2.2 hin6 (H6.at hin6 rfl) (g := (mkF m 16 #[.val (.int (2 : Int32)), .val (.ref bb_1), .val (.int (4 : Int32)), .val (.int (0 : Int32)), .unset] [(.int (0 : Int32)), (.ref bb_1)])) rfl rfl (hb hby own_d1_16) _ k) ?_
  refine own_astore X1 hx 19 #[.val (.int (2 : Int32)), .val (.ref bb_1), .val (.int (4 : Int32)), .val (.int (0 : Int32)), .val (.ref w_IGNORE)] (hb hby own_d1_17) rfl rfl ?_
  refine own_aload X1 hx 21 (hb hby own_d1_19) rfl rfl ?_
  have f7 := (F_code_w_IGNORE.ext O2.2)
  obtain ⟨T8, X8, e8, st8⟩ := getF X1 hx hZ hown (host := "") (Or.inl (hw _ (List.mem_of_getElem? (i := 23) rfl))) Via.refl rfl f7 (g := (mkF m 21 #[.val (.int (2 : Int32)), .val (.ref bb_1), .val (.int (4 : Int32)), .val (.int (0 : Int32)), .val (.ref w_IGNORE)] [(.ref w_IGNORE)])) rfl rfl (hb hby own_d1_21)
  refine own_st (G' := T8.setTop (mkF m 24 #[.val (.int (2 : Int32)), .val (.ref bb_1), .val (.int (4 : Int32)), .val (.int (0 : Int32)), .val (.ref w_IGNORE)] [(.int (-1 : Int32))])) st8 ?_
  refine own_iloadN X8 hx 25 (hb hby own_d1_24) rfl ?_
  refine own_icmpYes X8 hx 31 (hb hby own_d1_25) (feq (by decide : ¬ ((-1 : Int32) = (2 : Int32)))).2 ?_
  refine own_iinc X8 hx 34 (1 : Int32) #[.val (.int (2 : Int32)), .val (.ref bb_1), .val (.int (4 : Int32)), .val (.int (1 : Int32)), .val (.ref w_IGNORE)] (hb hby own_d1_31) rfl rfl rfl ?_
  refine own_goto X8 hx 9 (hb hby own_d1_34) ?_
  refine own_iloadN X8 hx 10 (hb hby own_d1_9) rfl ?_
  refine own_iloadN X8 hx 11 (hb hby own_d1_10) rfl ?_
  refine own_icmpNo X8 hx 14 (hb hby own_d1_11) (tlt (by decide : (1 : Int32) < (4 : Int32))).2.1 ?_
  refine own_aloadN X8 hx 15 (hb hby own_d1_14) rfl rfl ?_
  refine own_iloadN X8 hx 16 (hb hby own_d1_15) rfl ?_
  obtain ⟨cl9, Ar9, qv9, S9, M9, H9, G9⟩ := id G1_1
  have hin9 : ¬ ((1 : Int32) < 0 ∨ cl9.slots.size ≤ ((1 : Int32)).toNatClampNeg) := inb_of S9 ⟨by decide, by decide⟩
  refine own_st (G' := T8.setTop (mkF m 17 #[.val (.int (2 : Int32)), .val (.ref bb_1), .val (.int (4 : Int32)), .val (.int (1 : Int32)), .val (.ref w_IGNORE)] [(.ref w_SMART)])) (fun t k => X8.aaload hx (j := (1 : Int32)) (v := (.ref w_SMART)) (by rw [e8]; exact Ar9.1) (State.isArrayOf_alike hZ.alike Ar9.2.1) rfl Ar9.2.2 hin9 (H9.at hin9 rfl) (g := (mkF m 16 #[.val (.int (2 : Int32)), .val (.ref bb_1), .val (.int (4 : Int32)), .val (.int (1 : Int32)), .val (.ref w_IGNORE)] [(.int (1 : Int32)), (.ref bb_1)])) rfl rfl (hb hby own_d1_16) _ k) ?_
  refine own_astore X8 hx 19 #[.val (.int (2 : Int32)), .val (.ref bb_1), .val (.int (4 : Int32)), .val (.int (1 : Int32)), .val (.ref w_SMART)] (hb hby own_d1_17) rfl rfl ?_
  refine own_aload X8 hx 21 (hb hby own_d1_19) rfl rfl ?_
  have f10 := (F_code_w_SMART.ext O2.2)
  obtain ⟨T11, X11, e11, st11⟩ := getF X8 hx hZ hown (host := "") (Or.inl (hw _ (List.mem_of_getElem? (i := 23) rfl))) Via.refl e8 f10 (g := (mkF m 21 #[.val (.int (2 : Int32)), .val (.ref bb_1), .val (.int (4 : Int32)), .val (.int (1 : Int32)), .val (.ref w_SMART)] [(.ref w_SMART)])) rfl rfl (hb hby own_d1_21)
  refine own_st (G' := T11.setTop (mkF m 24 #[.val (.int (2 : Int32)), .val (.ref bb_1), .val (.int (4 : Int32)), .val (.int (1 : Int32)), .val (.ref w_SMART)] [(.int (0 : Int32))])) st11 ?_
  refine own_iloadN X11 hx 25 (hb hby own_d1_24) rfl ?_
  refine own_icmpYes X11 hx 31 (hb hby own_d1_25) (feq (by decide : ¬ ((0 : Int32) = (2 : Int32)))).2 ?_
  refine own_iinc X11 hx 34 (1 : Int32) #[.val (.int (2 : Int32)), .val (.ref bb_1), .val (.int (4 : Int32)), .val (.int (2 : Int32)), .val (.ref w_SMART)] (hb hby own_d1_31) rfl rfl rfl ?_
  refine own_goto X11 hx 9 (hb hby own_d1_34) ?_
  refine own_iloadN X11 hx 10 (hb hby own_d1_9) rfl ?_
  refine own_iloadN X11 hx 11 (hb hby own_d1_10) rfl ?_
  refine own_icmpNo X11 hx 14 (hb hby own_d1_11) (tlt (by decide : (2 : Int32) < (4 : Int32))).2.1 ?_
  refine own_aloadN X11 hx 15 (hb hby own_d1_14) rfl rfl ?_
  refine own_iloadN X11 hx 16 (hb hby own_d1_15) rfl ?_
  obtain ⟨cl12, Ar12, qv12, S12, M12, H12, G12⟩ := id G1_1
  have hin12 : ¬ ((2 : Int32) < 0 ∨ cl12.slots.size ≤ ((2 : Int32)).toNatClampNeg) := inb_of S12 ⟨by decide, by decide⟩
  refine own_st (G' := T11.setTop (mkF m 17 #[.val (.int (2 : Int32)), .val (.ref bb_1), .val (.int (4 : Int32)), .val (.int (2 : Int32)), .val (.ref w_SMART)] [(.ref w_FIRE_NOW)])) (fun t k => X11.aaload hx (j := (2 : Int32)) (v := (.ref w_FIRE_NOW)) (by rw [e11]; exact Ar12.1) (State.isArrayOf_alike hZ.alike Ar12.2.1) rfl Ar12.2.2 hin12 (H12.at hin12 rfl) (g := (mkF m 16 #[.val (.int (2 : Int32)), .val (.ref bb_1), .val (.int (4 : Int32)), .val (.int (2 : Int32)), .val (.ref w_SMART)] [(.int (2 : Int32)), (.ref bb_1)])) rfl rfl (hb hby own_d1_16) _ k) ?_
  refine own_astore X11 hx 19 #[.val (.int (2 : Int32)), .val (.ref bb_1), .val (.int (4 : Int32)), .val (.int (2 : Int32)), .val (.ref w_FIRE_NOW)] (hb hby own_d1_17) rfl rfl ?_
  refine own_aload X11 hx 21 (hb hby own_d1_19) rfl rfl ?_
  have f13 := (F_code_w_FIRE_NOW.ext O2.2)
  obtain ⟨T14, X14, e14, st14⟩ := getF X11 hx hZ hown (host := "") (Or.inl (hw _ (List.mem_of_getElem? (i := 23) rfl))) Via.refl e11 f13 (g := (mkF m 21 #[.val (.int (2 : Int32)), .val (.ref bb_1), .val (.int (4 : Int32)), .val (.int (2 : Int32)), .val (.ref w_FIRE_NOW)] [(.ref w_FIRE_NOW)])) rfl rfl (hb hby own_d1_21)
  refine own_st (G' := T14.setTop (mkF m 24 #[.val (.int (2 : Int32)), .val (.ref bb_1), .val (.int (4 : Int32)), .val (.int (2 : Int32)), .val (.ref w_FIRE_NOW)] [(.int (1 : Int32))])) st14 ?_
  refine own_iloadN X14 hx 25 (hb hby own_d1_24) rfl ?_
  refine own_icmpYes X14 hx 31 (hb hby own_d1_25) (feq (by decide : ¬ ((1 : Int32) = (2 : Int32)))).2 ?_
  refine own_iinc X14 hx 34 (1 : Int32) #[.val (.int (2 : Int32)), .val (.ref bb_1), .val (.int (4 : Int32)), .val (.int (3 : Int32)), .val (.ref w_FIRE_NOW)] (hb hby own_d1_31) rfl rfl rfl ?_
  refine own_goto X14 hx 9 (hb hby own_d1_34) ?_
  refine own_iloadN X14 hx 10 (hb hby own_d1_9) rfl ?_
  refine own_iloadN X14 hx 11 (hb hby own_d1_10) rfl ?_
  refine own_icmpNo X14 hx 14 (hb hby own_d1_11) (tlt (by decide : (3 : Int32) < (4 : Int32))).2.1 ?_
  refine own_aloadN X14 hx 15 (hb hby own_d1_14) rfl rfl ?_
  refine own_iloadN X14 hx 16 (hb hby own_d1_15) rfl ?_
  obtain ⟨cl15, Ar15, qv15, S15, M15, H15, G15⟩ := id G1_1
  have hin15 : ¬ ((3 : Int32) < 0 ∨ cl15.slots.size ≤ ((3 : Int32)).toNatClampNeg) := inb_of S15 ⟨by decide, by decide⟩
  refine own_st (G' := T14.setTop (mkF m 17 #[.val (.int (2 : Int32)), .val (.ref bb_1), .val (.int (4 : Int32)), .val (.int (3 : Int32)), .val (.ref w_FIRE_NOW)] [(.ref w_DO_NOTHING)])) (fun t k => X14.aaload hx (j := (3 : Int32)) (v := (.ref w_DO_NOTHING)) (by rw [e14]; exact Ar15.1) (State.isArrayOf_alike hZ.alike Ar15.2.1) rfl Ar15.2.2 hin15 (H15.at hin15 rfl) (g := (mkF m 16 #[.val (.int (2 : Int32)), .val (.ref bb_1), .val (.int (4 : Int32)), .val (.int (3 : Int32)), .val (.ref w_FIRE_NOW)] [(.int (3 : Int32)), (.ref bb_1)])) rfl rfl (hb hby own_d1_16) _ k) ?_
  refine own_astore X14 hx 19 #[.val (.int (2 : Int32)), .val (.ref bb_1), .val (.int (4 : Int32)), .val (.int (3 : Int32)), .val (.ref w_DO_NOTHING)] (hb hby own_d1_17) rfl rfl ?_
  refine own_aload X14 hx 21 (hb hby own_d1_19) rfl rfl ?_
  have f16 := (F_code_w_DO_NOTHING.ext O2.2)
  obtain ⟨T17, X17, e17, st17⟩ := getF X14 hx hZ hown (host := "") (Or.inl (hw _ (List.mem_of_getElem? (i := 23) rfl))) Via.refl e14 f16 (g := (mkF m 21 #[.val (.int (2 : Int32)), .val (.ref bb_1), .val (.int (4 : Int32)), .val (.int (3 : Int32)), .val (.ref w_DO_NOTHING)] [(.ref w_DO_NOTHING)])) rfl rfl (hb hby own_d1_21)
  refine own_st (G' := T17.setTop (mkF m 24 #[.val (.int (2 : Int32)), .val (.ref bb_1), .val (.int (4 : Int32)), .val (.int (3 : Int32)), .val (.ref w_DO_NOTHING)] [(.int (2 : Int32))])) st17 ?_
  refine own_iloadN X17 hx 25 (hb hby own_d1_24) rfl ?_
  refine own_icmpNo X17 hx 28 (hb hby own_d1_25) (teq (rfl : (2 : Int32) = (2 : Int32))).2 ?_
  refine own_aload X17 hx 30 (hb hby own_d1_28) rfl rfl ?_
  exact own_retA (z := (.ref w_DO_NOTHING)) (Q := own_Q1c3 Z w__VALUES w_IGNORE w_SMART w_FIRE_NOW w_DO_NOTHING S_w__VALUES S_w_IGNORE S_w_SMART S_w_FIRE_NOW S_w_DO_NOTHING E_w__VALUES E_w_IGNORE E_w_SMART E_w_FIRE_NOW E_w_DO_NOTHING F_code_w_IGNORE F_code_w_SMART F_code_w_FIRE_NOW F_code_w_DO_NOTHING ne_w_IGNORE_w_SMART ne_w_IGNORE_w_FIRE_NOW ne_w_IGNORE_w_DO_NOTHING ne_w_SMART_w_FIRE_NOW ne_w_SMART_w_DO_NOTHING ne_w_FIRE_NOW_w_DO_NOTHING kV V_V  h0 n0) X17 hx hrt rfl rfl (hb hby own_d1_30) hlk e17 ⟨rfl, N1, KC3⟩ (by decide) (by decide)
theorem own_d3_0 : decode prog_14_method_4_code 0 = .ok (.aload_n 0, 1) := by decide +kernel
theorem own_d3_1 : decode prog_14_method_4_code 1 = .ok (.getfield 35, 3) := by decide +kernel
theorem own_d3_4 : decode prog_14_method_4_code 4 = .ok (.ireturn, 1) := by decide +kernel
theorem own_ef3 (m : MethodId) (o1 : Addr) : entryFrame m #[(.ref o1)] 1 = mkF m 0 #[.val (.ref o1)] [] := by first | (simp [entryFrame, mkF, argsToLocals, Value.category]; done) | rfl
def own_Q3 (Z : State) (o1 : Addr) (v1 : Int32) (h0 : Heap) (n0 : Nat) (v : Option Value) (h : Heap) (L : List Loc) : Prop := v = some (.int v1) ∧ Fr n0 L ∧ h = h0
set_option maxRecDepth 65536 in
set_option maxHeartbeats 40000000 in
theorem own_rm3 (l : Launch) (Z : State) (a0 : Array Value) (hw : ∀ d ∈ tables_1, d.before a0 Z = true) (ws : List Jvm.Cond) (o1 : Addr) (v1 : Int32) (h0 : Heap) (n0 : Nat) (Z0 : n0 ≤ h0.size) (pF1 : Fld Z h0 o1 "com/example/fates/fates/MisfirePolicy" "code" "I" (.int v1)) :
    MetFree l (⟨"com/example/fates/fates/MisfirePolicy", "code", "()I"⟩ : MethodName) (head1 (Jvm.Cond.code (⟨"com/example/fates/fates/MisfirePolicy", "code", "()I"⟩ : MethodName) prog_14_method_4_code 1 (some .int) :: ws) ({ frames := 0, cells := 0, slots := 0, locals := 0 } : Room)) (fun a U => a = #[(.ref o1)] ∧ Z.Warmed39 U.vm ∧ U.heap = h0) (fun _ _ _ _ _ => True) (fun _ U o U' => ∃ v L, o = .returned v ∧ own_Q3 Z o1 v1 h0 n0 v U'.heap L ∧ FrameEnd U o U' L ({ frames := 0, cells := 0, slots := 0, locals := 0 } : Room).cells ({ frames := 0, cells := 0, slots := 0, locals := 0 } : Room).slots) := by
  refine MetFree.of_bodySF (plainFor_of_name own_pn0) hisR ?_
  intro p e s m args below meth c s₁ Bd hml0 hP hK
  obtain ⟨rfl, hZ, hh⟩ := hP
  have hx := Bd.exec
  have hby := Bd.bytes
  have hlk := Bd.notSynchronized
  have hrt := Bd.returns
  have hml : c.maxLocals = 1 := hml0
  have hown : s.vm.findClass "com/example/fates/fates/MisfirePolicy" = some m.cls := findClass_of_methodNamed Bd.named
  have hnm := (name_of_methodNamed Bd.named Bd.method).1
  have X0 : Stand p l e ({ frames := 0, cells := 0, slots := 0, locals := 0 } : Room) s m #[(.ref o1)] below meth c s₁ [] 0 0 := Stand.of_body Bd
  have e0 : s₁.heap = h0 := by rw [← hh, Bd.state]; rfl
  have N0 := Fr.nil n0
  refine own_in (own_ef3 m o1) ?_
  refine own_aloadN X0 hx 1 (hb hby own_d3_0) rfl rfl ?_
  obtain ⟨T1, X1, e1, st1⟩ := getF X0 hx hZ hown (host := "") (Or.inl (hw _ (List.mem_of_getElem? (i := 23) rfl))) Via.refl e0 pF1 (g := (mkF m 1 #[.val (.ref o1)] [(.ref o1)])) rfl rfl (hb hby own_d3_1)
  refine own_st (G' := T1.setTop (mkF m 4 #[.val (.ref o1)] [(.int v1)])) st1 ?_
  exact own_retI (z := v1) (Q := own_Q3 Z o1 v1 h0 n0) X1 hx hrt (hb hby own_d3_4) hlk e1 ⟨rfl, N0, rfl⟩ (by decide) (by decide)
theorem own_four (v : Int32) : (v &&& (3 : Int32)) = 0 ∨ (v &&& (3 : Int32)) = 1 ∨ (v &&& (3 : Int32)) = 2 ∨ (v &&& (3 : Int32)) = 3 := by
  have h := c_mask v 3 2 (by decide) (by decide)
  simp only [← Int32.toInt_inj, Int32.reduceToInt]
  omega
theorem own_pn1 : plainName "com/example/fates/fates/MisfirePolicyFromCodePinLaw" = true := by first | (simp [plainName, overriddenIn]; done) | decide +kernel
theorem own_pd1 : parseMethodDescriptor "(I)Lcom/example/fates/fates/MisfirePolicy;" = some ⟨[.int], some (.object "com/example/fates/fates/MisfirePolicy")⟩ := by decide +kernel
theorem own_pd2 : parseMethodDescriptor "()I" = some ⟨[], some .int⟩ := by decide +kernel
theorem own_ef0 (m : MethodId) (v0 : Int32) : entryFrame m #[(.int v0)] maxLocals = mkF m 0 #[.val (.int v0), .unset, .unset, .unset] [] := by first | (simp [entryFrame, mkF, argsToLocals, Value.category, maxLocals]; done) | rfl
def own_Q0 (Z : State) (w__VALUES : Addr) (w_IGNORE : Addr) (w_SMART : Addr) (w_FIRE_NOW : Addr) (w_DO_NOTHING : Addr) (S_w__VALUES : Sta Z Z.heap "com/example/fates/fates/MisfirePolicy" "$VALUES" "[Lcom/example/fates/fates/MisfirePolicy;" (.ref w__VALUES)) (S_w_IGNORE : Sta Z Z.heap "com/example/fates/fates/MisfirePolicy" "IGNORE" "Lcom/example/fates/fates/MisfirePolicy;" (.ref w_IGNORE)) (S_w_SMART : Sta Z Z.heap "com/example/fates/fates/MisfirePolicy" "SMART" "Lcom/example/fates/fates/MisfirePolicy;" (.ref w_SMART)) (S_w_FIRE_NOW : Sta Z Z.heap "com/example/fates/fates/MisfirePolicy" "FIRE_NOW" "Lcom/example/fates/fates/MisfirePolicy;" (.ref w_FIRE_NOW)) (S_w_DO_NOTHING : Sta Z Z.heap "com/example/fates/fates/MisfirePolicy" "DO_NOTHING" "Lcom/example/fates/fates/MisfirePolicy;" (.ref w_DO_NOTHING)) (E_w__VALUES : Exa Z Z.heap w__VALUES "[Lcom/example/fates/fates/MisfirePolicy;") (E_w_IGNORE : Exa Z Z.heap w_IGNORE "com/example/fates/fates/MisfirePolicy") (E_w_SMART : Exa Z Z.heap w_SMART "com/example/fates/fates/MisfirePolicy") (E_w_FIRE_NOW : Exa Z Z.heap w_FIRE_NOW "com/example/fates/fates/MisfirePolicy") (E_w_DO_NOTHING : Exa Z Z.heap w_DO_NOTHING "com/example/fates/fates/MisfirePolicy") (F_code_w_IGNORE : Fld Z Z.heap w_IGNORE "com/example/fates/fates/MisfirePolicy" "code" "I" (.int (-1 : Int32))) (F_code_w_SMART : Fld Z Z.heap w_SMART "com/example/fates/fates/MisfirePolicy" "code" "I" (.int (0 : Int32))) (F_code_w_FIRE_NOW : Fld Z Z.heap w_FIRE_NOW "com/example/fates/fates/MisfirePolicy" "code" "I" (.int (1 : Int32))) (F_code_w_DO_NOTHING : Fld Z Z.heap w_DO_NOTHING "com/example/fates/fates/MisfirePolicy" "code" "I" (.int (2 : Int32))) (ne_w_IGNORE_w_SMART : w_IGNORE ≠ w_SMART) (ne_w_IGNORE_w_FIRE_NOW : w_IGNORE ≠ w_FIRE_NOW) (ne_w_IGNORE_w_DO_NOTHING : w_IGNORE ≠ w_DO_NOTHING) (ne_w_SMART_w_FIRE_NOW : w_SMART ≠ w_FIRE_NOW) (ne_w_SMART_w_DO_NOTHING : w_SMART ≠ w_DO_NOTHING) (ne_w_FIRE_NOW_w_DO_NOTHING : w_FIRE_NOW ≠ w_DO_NOTHING) (kV : ClassId) (V_V : Arv Z Z.heap w__VALUES kV (.object "com/example/fates/fates/MisfirePolicy") (4 : Int32) [(.ref w_IGNORE), (.ref w_SMART), (.ref w_FIRE_NOW), (.ref w_DO_NOTHING)] .null) (v0 : Int32) (h0 : Heap) (n0 : Nat) (v : Option Value) (h : Heap) (L : List Loc) : Prop := v = some (.int (1 : Int32)) ∧ Fr n0 L
set_option maxRecDepth 65536 in
set_option maxHeartbeats 40000000 in
theorem own_rm0 (l : Launch) (Z : State) (a0 : Array Value) (hw : ∀ d ∈ tables_1, d.before a0 Z = true) (ws : List Jvm.Cond) (w__VALUES : Addr) (w_IGNORE : Addr) (w_SMART : Addr) (w_FIRE_NOW : Addr) (w_DO_NOTHING : Addr) (S_w__VALUES : Sta Z Z.heap "com/example/fates/fates/MisfirePolicy" "$VALUES" "[Lcom/example/fates/fates/MisfirePolicy;" (.ref w__VALUES)) (S_w_IGNORE : Sta Z Z.heap "com/example/fates/fates/MisfirePolicy" "IGNORE" "Lcom/example/fates/fates/MisfirePolicy;" (.ref w_IGNORE)) (S_w_SMART : Sta Z Z.heap "com/example/fates/fates/MisfirePolicy" "SMART" "Lcom/example/fates/fates/MisfirePolicy;" (.ref w_SMART)) (S_w_FIRE_NOW : Sta Z Z.heap "com/example/fates/fates/MisfirePolicy" "FIRE_NOW" "Lcom/example/fates/fates/MisfirePolicy;" (.ref w_FIRE_NOW)) (S_w_DO_NOTHING : Sta Z Z.heap "com/example/fates/fates/MisfirePolicy" "DO_NOTHING" "Lcom/example/fates/fates/MisfirePolicy;" (.ref w_DO_NOTHING)) (E_w__VALUES : Exa Z Z.heap w__VALUES "[Lcom/example/fates/fates/MisfirePolicy;") (E_w_IGNORE : Exa Z Z.heap w_IGNORE "com/example/fates/fates/MisfirePolicy") (E_w_SMART : Exa Z Z.heap w_SMART "com/example/fates/fates/MisfirePolicy") (E_w_FIRE_NOW : Exa Z Z.heap w_FIRE_NOW "com/example/fates/fates/MisfirePolicy") (E_w_DO_NOTHING : Exa Z Z.heap w_DO_NOTHING "com/example/fates/fates/MisfirePolicy") (F_code_w_IGNORE : Fld Z Z.heap w_IGNORE "com/example/fates/fates/MisfirePolicy" "code" "I" (.int (-1 : Int32))) (F_code_w_SMART : Fld Z Z.heap w_SMART "com/example/fates/fates/MisfirePolicy" "code" "I" (.int (0 : Int32))) (F_code_w_FIRE_NOW : Fld Z Z.heap w_FIRE_NOW "com/example/fates/fates/MisfirePolicy" "code" "I" (.int (1 : Int32))) (F_code_w_DO_NOTHING : Fld Z Z.heap w_DO_NOTHING "com/example/fates/fates/MisfirePolicy" "code" "I" (.int (2 : Int32))) (ne_w_IGNORE_w_SMART : w_IGNORE ≠ w_SMART) (ne_w_IGNORE_w_FIRE_NOW : w_IGNORE ≠ w_FIRE_NOW) (ne_w_IGNORE_w_DO_NOTHING : w_IGNORE ≠ w_DO_NOTHING) (ne_w_SMART_w_FIRE_NOW : w_SMART ≠ w_FIRE_NOW) (ne_w_SMART_w_DO_NOTHING : w_SMART ≠ w_DO_NOTHING) (ne_w_FIRE_NOW_w_DO_NOTHING : w_FIRE_NOW ≠ w_DO_NOTHING) (kV : ClassId) (V_V : Arv Z Z.heap w__VALUES kV (.object "com/example/fates/fates/MisfirePolicy") (4 : Int32) [(.ref w_IGNORE), (.ref w_SMART), (.ref w_FIRE_NOW), (.ref w_DO_NOTHING)] .null) (v0 : Int32) (h0 : Heap) (n0 : Nat) (Z0 : n0 ≤ h0.size) (O0 : Old Z n0 h0) :
    MetFree l x (head1 (Jvm.Cond.code x code maxLocals ret :: ws) room_1) (fun a U => a = #[(.int v0)] ∧ Z.Warmed39 U.vm ∧ U.heap = h0) (fun _ _ _ _ _ => True) (fun _ U o U' => ∃ v L, o = .returned v ∧ own_Q0 Z w__VALUES w_IGNORE w_SMART w_FIRE_NOW w_DO_NOTHING S_w__VALUES S_w_IGNORE S_w_SMART S_w_FIRE_NOW S_w_DO_NOTHING E_w__VALUES E_w_IGNORE E_w_SMART E_w_FIRE_NOW E_w_DO_NOTHING F_code_w_IGNORE F_code_w_SMART F_code_w_FIRE_NOW F_code_w_DO_NOTHING ne_w_IGNORE_w_SMART ne_w_IGNORE_w_FIRE_NOW ne_w_IGNORE_w_DO_NOTHING ne_w_SMART_w_FIRE_NOW ne_w_SMART_w_DO_NOTHING ne_w_FIRE_NOW_w_DO_NOTHING kV V_V v0 h0 n0 v U'.heap L ∧ FrameEnd U o U' L room_1.cells room_1.slots) := by
  refine MetFree.of_bodySF (plainFor_of_name own_pn1) hisR ?_
  intro p e s m args below meth c s₁ Bd hml0 hP hK
  obtain ⟨rfl, hZ, hh⟩ := hP
  have hx := Bd.exec
  have hby := Bd.bytes
  have hlk := Bd.notSynchronized
  have hrt := Bd.returns
  have hml : c.maxLocals = 4 := hml0
  have hown : s.vm.findClass "com/example/fates/fates/MisfirePolicyFromCodePinLaw" = some m.cls := findClass_of_methodNamed Bd.named
  have hnm := (name_of_methodNamed Bd.named Bd.method).1
  have X0 : Stand p l e room_1 s m #[(.int v0)] below meth c s₁ [] 0 0 := Stand.of_body Bd
  have e0 : s₁.heap = h0 := by rw [← hh, Bd.state]; rfl
  have N0 := Fr.nil n0
  refine own_in (own_ef0 m v0) ?_
  refine own_iloadN X0 hx 1 (hb hby at_0) rfl ?_
  refine own_iconst X0 hx 2 (3 : Int32) (hb hby at_1) rfl ?_
  refine own_iand X0 hx 3 (hb hby at_2) ?_
  rcases own_four v0 with hk1 | hk2 | hk3 | hk4
  · rw [hk1]
    refine own_iconst X0 hx 4 (1 : Int32) (hb hby at_3) rfl ?_
    refine own_isub X0 hx 5 (hb hby at_4) ?_
    show own_Gs p e below _ (s₁.setTop (mkF m 5 #[.val (.int v0), .unset, .unset, .unset] [(.int (-1 : Int32))]))
    refine own_istoreN X0 hx 6 #[.val (.int v0), .val (.int (-1 : Int32)), .unset, .unset] (hb hby at_5) rfl ?_
    refine own_iloadN X0 hx 7 (hb hby at_6) rfl ?_
    obtain ⟨_, _, ⟨T5, Lx5, kc5, nc5⟩, -, X5, ⟨Lc5, hQ5, lq5, yq5, zq5⟩, st5⟩ := Jvm.LawKit.callS X0 hx (y := (⟨"com/example/fates/fates/MisfirePolicy", "fromCode", "(I)Lcom/example/fates/fates/MisfirePolicy;"⟩ : MethodName)) hown (mvT hZ (hw _ (List.mem_of_getElem? (i := 0) rfl))) (mvT hZ (hw _ (List.mem_of_getElem? (i := 1) rfl))) (mvT hZ (hw _ (List.mem_of_getElem? (i := 2) rfl))) (mvT hZ (hw _ (List.mem_of_getElem? (i := 3) rfl))) (by decide) (backOf (W := 0) (own_rm1c0 l Z a0 hw [] w__VALUES w_IGNORE w_SMART w_FIRE_NOW w_DO_NOTHING S_w__VALUES S_w_IGNORE S_w_SMART S_w_FIRE_NOW S_w_DO_NOTHING E_w__VALUES E_w_IGNORE E_w_SMART E_w_FIRE_NOW E_w_DO_NOTHING F_code_w_IGNORE F_code_w_SMART F_code_w_FIRE_NOW F_code_w_DO_NOTHING ne_w_IGNORE_w_SMART ne_w_IGNORE_w_FIRE_NOW ne_w_IGNORE_w_DO_NOTHING ne_w_SMART_w_FIRE_NOW ne_w_SMART_w_DO_NOTHING ne_w_FIRE_NOW_w_DO_NOTHING kV V_V  h0 n0 Z0 O0) hZ (hw _ (List.mem_of_getElem? (i := 3) rfl)) (hw _ (List.mem_of_getElem? (i := 2) rfl)) (by decide) (by decide)) (g := (mkF m 7 #[.val (.int v0), .val (.int (-1 : Int32)), .unset, .unset] [(.int (-1 : Int32))])) rfl (by rw [hml]; rfl) (argsL := [(.int (-1 : Int32))]) (rest := []) (lenOf own_pd1 rfl) rfl (by show 2 * 0 + _ ≤ _; exact Nat.le_of_eq rfl) (hb hby at_7) (fun _ _ => ⟨rfl, e0, (by decide : 0 + 1 ≤ _), (by decide : 0 + 4 ≤ _)⟩)
    dsimp only [Pt.U, Pt.locs, Pt.cells, Pt.slots] at X5 lq5 yq5 zq5 st5 hQ5
    subst lq5 yq5 zq5
    obtain ⟨rfl, Nq5, Kp5⟩ := hQ5
    have N5 := Fr.app N0 Nq5
    have O6 := O0.keep Kp5 all0
    have Z7 := Nat.le_trans Z0 Kp5.1
    refine own_st (G' := T5.setTop (mkF m 10 #[.val (.int v0), .val (.int (-1 : Int32)), .unset, .unset] [(.ref w_IGNORE)])) st5 ?_
    refine own_astoreN X5 hx 11 #[.val (.int v0), .val (.int (-1 : Int32)), .val (.ref w_IGNORE), .unset] (hb hby at_10) rfl rfl ?_
    refine own_iloadN X5 hx 12 (hb hby at_11) rfl ?_
    refine own_iconst X5 hx 13 (-1 : Int32) (hb hby at_12) rfl ?_
    refine own_icmpNo X5 hx 16 (hb hby at_13) (teq (rfl : (-1 : Int32) = (-1 : Int32))).2 ?_
    obtain ⟨T8, X8, e8, st8⟩ := getS2 X5 hx hZ hown (host := "") (Or.inl (hw _ (List.mem_of_getElem? (i := 25) rfl))) Via.refl rfl (S_w_IGNORE.ext O6.2) (g := (mkF m 16 #[.val (.int v0), .val (.int (-1 : Int32)), .val (.ref w_IGNORE), .unset] [])) rfl (hb hby at_16)
    refine own_st (G' := T8.setTop (mkF m 19 #[.val (.int v0), .val (.int (-1 : Int32)), .val (.ref w_IGNORE), .unset] [(.ref w_IGNORE)])) st8 ?_
    refine own_astoreN X8 hx 20 #[.val (.int v0), .val (.int (-1 : Int32)), .val (.ref w_IGNORE), .val (.ref w_IGNORE)] (hb hby at_19) rfl rfl ?_
    refine own_goto X8 hx 50 (hb hby at_20) ?_
    refine own_aloadN X8 hx 51 (hb hby at_50) rfl rfl ?_
    refine own_aloadN X8 hx 52 (hb hby at_51) rfl rfl ?_
    refine own_acmp X8 hx 55 true (hb hby at_52) rfl rfl (decide_eq_true rfl) ?_
    refine own_aloadN X8 hx 56 (hb hby at_55) rfl rfl ?_
    have f9 := (F_code_w_IGNORE.ext O6.2)
    have f11 := (E_w_IGNORE.ext O6.2)
    obtain ⟨cq10, kq10, q10a, q10b, q10c⟩ := isOf hZ e8 f11
    obtain ⟨_, _, ⟨T10, Lx10, kc10, nc10⟩, -, X10, ⟨Lc10, hQ10, lq10, yq10, zq10⟩, st10⟩ := X8.virtualBack hx (y := (⟨"com/example/fates/fates/MisfirePolicy", "code", "()I"⟩ : MethodName)) (z := (⟨"com/example/fates/fates/MisfirePolicy", "code", "()I"⟩ : MethodName)) hown (mvT hZ (hw _ (List.mem_of_getElem? (i := 26) rfl))) (mvT hZ (hw _ (List.mem_of_getElem? (i := 27) rfl))) (notFace_of_selects (args := #[]) (mvT hZ (hw _ (List.mem_of_getElem? (i := 29) rfl)))) (mvT hZ (hw _ (List.mem_of_getElem? (i := 29) rfl))) (mvT hZ (hw _ (List.mem_of_getElem? (i := 28) rfl))) (by decide) (backOf (W := 0) (own_rm3 l Z a0 hw [] w_IGNORE (-1 : Int32) T5.heap n0 Z7 f9) hZ (hw _ (List.mem_of_getElem? (i := 30) rfl)) (hw _ (List.mem_of_getElem? (i := 2) rfl)) (by decide) (by decide)) q10a q10c (g := (mkF m 56 #[.val (.int v0), .val (.int (-1 : Int32)), .val (.ref w_IGNORE), .val (.ref w_IGNORE)] [(.ref w_IGNORE)])) rfl (by rw [hml]; rfl) (Steps.refl _) (argsL := []) (rest := []) (lenOf own_pd2 rfl) rfl (by show 2 * 0 + _ ≤ _; exact Nat.le_of_eq rfl) (hb hby at_56) (fun _ _ => ⟨rfl, e8, (by decide : 1 + 0 ≤ _), (by decide : 4 + 0 ≤ _)⟩)
    dsimp only [Pt.U, Pt.locs, Pt.cells, Pt.slots] at X10 lq10 yq10 zq10 st10 hQ10
    subst lq10 yq10 zq10
    obtain ⟨rfl, Nq10, eh10⟩ := hQ10
    have N10 := Fr.app N5 Nq10
    refine own_st (G' := T10.setTop (mkF m 59 #[.val (.int v0), .val (.int (-1 : Int32)), .val (.ref w_IGNORE), .val (.ref w_IGNORE)] [(.int (-1 : Int32))])) (fun t k => st10.trans k) ?_
    refine own_iloadN X10 hx 60 (hb hby at_59) rfl ?_
    refine own_icmpNo X10 hx 63 (hb hby at_60) (teq (rfl : (-1 : Int32) = (-1 : Int32))).2 ?_
    refine own_iconst X10 hx 64 (1 : Int32) (hb hby at_63) rfl ?_
    refine own_goto X10 hx 68 (hb hby at_64) ?_
    exact own_retN (t := .boolean) (z := (1 : Int32)) (Q := own_Q0 Z w__VALUES w_IGNORE w_SMART w_FIRE_NOW w_DO_NOTHING S_w__VALUES S_w_IGNORE S_w_SMART S_w_FIRE_NOW S_w_DO_NOTHING E_w__VALUES E_w_IGNORE E_w_SMART E_w_FIRE_NOW E_w_DO_NOTHING F_code_w_IGNORE F_code_w_SMART F_code_w_FIRE_NOW F_code_w_DO_NOTHING ne_w_IGNORE_w_SMART ne_w_IGNORE_w_FIRE_NOW ne_w_IGNORE_w_DO_NOTHING ne_w_SMART_w_FIRE_NOW ne_w_SMART_w_DO_NOTHING ne_w_FIRE_NOW_w_DO_NOTHING kV V_V v0 h0 n0) X10 hx hrt (by simp) (hb hby at_68) hlk eh10 ⟨rfl, N10⟩ (by decide) (by decide)
  · rw [hk2]
    refine own_iconst X0 hx 4 (1 : Int32) (hb hby at_3) rfl ?_
    refine own_isub X0 hx 5 (hb hby at_4) ?_
    show own_Gs p e below _ (s₁.setTop (mkF m 5 #[.val (.int v0), .unset, .unset, .unset] [(.int (0 : Int32))]))
    refine own_istoreN X0 hx 6 #[.val (.int v0), .val (.int (0 : Int32)), .unset, .unset] (hb hby at_5) rfl ?_
    refine own_iloadN X0 hx 7 (hb hby at_6) rfl ?_
    obtain ⟨_, _, ⟨T12, Lx12, kc12, nc12⟩, -, X12, ⟨Lc12, hQ12, lq12, yq12, zq12⟩, st12⟩ := Jvm.LawKit.callS X0 hx (y := (⟨"com/example/fates/fates/MisfirePolicy", "fromCode", "(I)Lcom/example/fates/fates/MisfirePolicy;"⟩ : MethodName)) hown (mvT hZ (hw _ (List.mem_of_getElem? (i := 0) rfl))) (mvT hZ (hw _ (List.mem_of_getElem? (i := 1) rfl))) (mvT hZ (hw _ (List.mem_of_getElem? (i := 2) rfl))) (mvT hZ (hw _ (List.mem_of_getElem? (i := 3) rfl))) (by decide) (backOf (W := 0) (own_rm1c1 l Z a0 hw [] w__VALUES w_IGNORE w_SMART w_FIRE_NOW w_DO_NOTHING S_w__VALUES S_w_IGNORE S_w_SMART S_w_FIRE_NOW S_w_DO_NOTHING E_w__VALUES E_w_IGNORE E_w_SMART E_w_FIRE_NOW E_w_DO_NOTHING F_code_w_IGNORE F_code_w_SMART F_code_w_FIRE_NOW F_code_w_DO_NOTHING ne_w_IGNORE_w_SMART ne_w_IGNORE_w_FIRE_NOW ne_w_IGNORE_w_DO_NOTHING ne_w_SMART_w_FIRE_NOW ne_w_SMART_w_DO_NOTHING ne_w_FIRE_NOW_w_DO_NOTHING kV V_V  h0 n0 Z0 O0) hZ (hw _ (List.mem_of_getElem? (i := 3) rfl)) (hw _ (List.mem_of_getElem? (i := 2) rfl)) (by decide) (by decide)) (g := (mkF m 7 #[.val (.int v0), .val (.int (0 : Int32)), .unset, .unset] [(.int (0 : Int32))])) rfl (by rw [hml]; rfl) (argsL := [(.int (0 : Int32))]) (rest := []) (lenOf own_pd1 rfl) rfl (by show 2 * 0 + _ ≤ _; exact Nat.le_of_eq rfl) (hb hby at_7) (fun _ _ => ⟨rfl, e0, (by decide : 0 + 1 ≤ _), (by decide : 0 + 4 ≤ _)⟩)
    dsimp only [Pt.U, Pt.locs, Pt.cells, Pt.slots] at X12 lq12 yq12 zq12 st12 hQ12
    subst lq12 yq12 zq12
    obtain ⟨rfl, Nq12, Kp12⟩ := hQ12
    have N12 := Fr.app N0 Nq12
    have O13 := O0.keep Kp12 all0
    have Z14 := Nat.le_trans Z0 Kp12.1
    refine own_st (G' := T12.setTop (mkF m 10 #[.val (.int v0), .val (.int (0 : Int32)), .unset, .unset] [(.ref w_SMART)])) st12 ?_
    refine own_astoreN X12 hx 11 #[.val (.int v0), .val (.int (0 : Int32)), .val (.ref w_SMART), .unset] (hb hby at_10) rfl rfl ?_
    refine own_iloadN X12 hx 12 (hb hby at_11) rfl ?_
    refine own_iconst X12 hx 13 (-1 : Int32) (hb hby at_12) rfl ?_
    refine own_icmpYes X12 hx 23 (hb hby at_13) (feq (by decide : ¬ ((0 : Int32) = (-1 : Int32)))).2 ?_
    refine own_iloadN X12 hx 24 (hb hby at_23) rfl ?_
    refine own_ifNo X12 hx 27 (hb hby at_24) (teq (rfl : (0 : Int32) = (0 : Int32))).2 ?_
    obtain ⟨T15, X15, e15, st15⟩ := getS2 X12 hx hZ hown (host := "") (Or.inl (hw _ (List.mem_of_getElem? (i := 33) rfl))) Via.refl rfl (S_w_SMART.ext O13.2) (g := (mkF m 27 #[.val (.int v0), .val (.int (0 : Int32)), .val (.ref w_SMART), .unset] [])) rfl (hb hby at_27)
    refine own_st (G' := T15.setTop (mkF m 30 #[.val (.int v0), .val (.int (0 : Int32)), .val (.ref w_SMART), .unset] [(.ref w_SMART)])) st15 ?_
    refine own_astoreN X15 hx 31 #[.val (.int v0), .val (.int (0 : Int32)), .val (.ref w_SMART), .val (.ref w_SMART)] (hb hby at_30) rfl rfl ?_
    refine own_goto X15 hx 50 (hb hby at_31) ?_
    refine own_aloadN X15 hx 51 (hb hby at_50) rfl rfl ?_
    refine own_aloadN X15 hx 52 (hb hby at_51) rfl rfl ?_
    refine own_acmp X15 hx 55 true (hb hby at_52) rfl rfl (decide_eq_true rfl) ?_
    refine own_aloadN X15 hx 56 (hb hby at_55) rfl rfl ?_
    have f16 := (F_code_w_SMART.ext O13.2)
    have f18 := (E_w_SMART.ext O13.2)
    obtain ⟨cq17, kq17, q17a, q17b, q17c⟩ := isOf hZ e15 f18
    obtain ⟨_, _, ⟨T17, Lx17, kc17, nc17⟩, -, X17, ⟨Lc17, hQ17, lq17, yq17, zq17⟩, st17⟩ := X15.virtualBack hx (y := (⟨"com/example/fates/fates/MisfirePolicy", "code", "()I"⟩ : MethodName)) (z := (⟨"com/example/fates/fates/MisfirePolicy", "code", "()I"⟩ : MethodName)) hown (mvT hZ (hw _ (List.mem_of_getElem? (i := 26) rfl))) (mvT hZ (hw _ (List.mem_of_getElem? (i := 27) rfl))) (notFace_of_selects (args := #[]) (mvT hZ (hw _ (List.mem_of_getElem? (i := 29) rfl)))) (mvT hZ (hw _ (List.mem_of_getElem? (i := 29) rfl))) (mvT hZ (hw _ (List.mem_of_getElem? (i := 28) rfl))) (by decide) (backOf (W := 0) (own_rm3 l Z a0 hw [] w_SMART (0 : Int32) T12.heap n0 Z14 f16) hZ (hw _ (List.mem_of_getElem? (i := 30) rfl)) (hw _ (List.mem_of_getElem? (i := 2) rfl)) (by decide) (by decide)) q17a q17c (g := (mkF m 56 #[.val (.int v0), .val (.int (0 : Int32)), .val (.ref w_SMART), .val (.ref w_SMART)] [(.ref w_SMART)])) rfl (by rw [hml]; rfl) (Steps.refl _) (argsL := []) (rest := []) (lenOf own_pd2 rfl) rfl (by show 2 * 0 + _ ≤ _; exact Nat.le_of_eq rfl) (hb hby at_56) (fun _ _ => ⟨rfl, e15, (by decide : 1 + 0 ≤ _), (by decide : 4 + 0 ≤ _)⟩)
    dsimp only [Pt.U, Pt.locs, Pt.cells, Pt.slots] at X17 lq17 yq17 zq17 st17 hQ17
    subst lq17 yq17 zq17
    obtain ⟨rfl, Nq17, eh17⟩ := hQ17
    have N17 := Fr.app N12 Nq17
    refine own_st (G' := T17.setTop (mkF m 59 #[.val (.int v0), .val (.int (0 : Int32)), .val (.ref w_SMART), .val (.ref w_SMART)] [(.int (0 : Int32))])) (fun t k => st17.trans k) ?_
    refine own_iloadN X17 hx 60 (hb hby at_59) rfl ?_
    refine own_icmpNo X17 hx 63 (hb hby at_60) (teq (rfl : (0 : Int32) = (0 : Int32))).2 ?_
    refine own_iconst X17 hx 64 (1 : Int32) (hb hby at_63) rfl ?_
    refine own_goto X17 hx 68 (hb hby at_64) ?_
    exact own_retN (t := .boolean) (z := (1 : Int32)) (Q := own_Q0 Z w__VALUES w_IGNORE w_SMART w_FIRE_NOW w_DO_NOTHING S_w__VALUES S_w_IGNORE S_w_SMART S_w_FIRE_NOW S_w_DO_NOTHING E_w__VALUES E_w_IGNORE E_w_SMART E_w_FIRE_NOW E_w_DO_NOTHING F_code_w_IGNORE F_code_w_SMART F_code_w_FIRE_NOW F_code_w_DO_NOTHING ne_w_IGNORE_w_SMART ne_w_IGNORE_w_FIRE_NOW ne_w_IGNORE_w_DO_NOTHING ne_w_SMART_w_FIRE_NOW ne_w_SMART_w_DO_NOTHING ne_w_FIRE_NOW_w_DO_NOTHING kV V_V v0 h0 n0) X17 hx hrt (by simp) (hb hby at_68) hlk eh17 ⟨rfl, N17⟩ (by decide) (by decide)
  · rw [hk3]
    refine own_iconst X0 hx 4 (1 : Int32) (hb hby at_3) rfl ?_
    refine own_isub X0 hx 5 (hb hby at_4) ?_
    show own_Gs p e below _ (s₁.setTop (mkF m 5 #[.val (.int v0), .unset, .unset, .unset] [(.int (1 : Int32))]))
    refine own_istoreN X0 hx 6 #[.val (.int v0), .val (.int (1 : Int32)), .unset, .unset] (hb hby at_5) rfl ?_
    refine own_iloadN X0 hx 7 (hb hby at_6) rfl ?_
    obtain ⟨_, _, ⟨T19, Lx19, kc19, nc19⟩, -, X19, ⟨Lc19, hQ19, lq19, yq19, zq19⟩, st19⟩ := Jvm.LawKit.callS X0 hx (y := (⟨"com/example/fates/fates/MisfirePolicy", "fromCode", "(I)Lcom/example/fates/fates/MisfirePolicy;"⟩ : MethodName)) hown (mvT hZ (hw _ (List.mem_of_getElem? (i := 0) rfl))) (mvT hZ (hw _ (List.mem_of_getElem? (i := 1) rfl))) (mvT hZ (hw _ (List.mem_of_getElem? (i := 2) rfl))) (mvT hZ (hw _ (List.mem_of_getElem? (i := 3) rfl))) (by decide) (backOf (W := 0) (own_rm1c2 l Z a0 hw [] w__VALUES w_IGNORE w_SMART w_FIRE_NOW w_DO_NOTHING S_w__VALUES S_w_IGNORE S_w_SMART S_w_FIRE_NOW S_w_DO_NOTHING E_w__VALUES E_w_IGNORE E_w_SMART E_w_FIRE_NOW E_w_DO_NOTHING F_code_w_IGNORE F_code_w_SMART F_code_w_FIRE_NOW F_code_w_DO_NOTHING ne_w_IGNORE_w_SMART ne_w_IGNORE_w_FIRE_NOW ne_w_IGNORE_w_DO_NOTHING ne_w_SMART_w_FIRE_NOW ne_w_SMART_w_DO_NOTHING ne_w_FIRE_NOW_w_DO_NOTHING kV V_V  h0 n0 Z0 O0) hZ (hw _ (List.mem_of_getElem? (i := 3) rfl)) (hw _ (List.mem_of_getElem? (i := 2) rfl)) (by decide) (by decide)) (g := (mkF m 7 #[.val (.int v0), .val (.int (1 : Int32)), .unset, .unset] [(.int (1 : Int32))])) rfl (by rw [hml]; rfl) (argsL := [(.int (1 : Int32))]) (rest := []) (lenOf own_pd1 rfl) rfl (by show 2 * 0 + _ ≤ _; exact Nat.le_of_eq rfl) (hb hby at_7) (fun _ _ => ⟨rfl, e0, (by decide : 0 + 1 ≤ _), (by decide : 0 + 4 ≤ _)⟩)
    dsimp only [Pt.U, Pt.locs, Pt.cells, Pt.slots] at X19 lq19 yq19 zq19 st19 hQ19
    subst lq19 yq19 zq19
    obtain ⟨rfl, Nq19, Kp19⟩ := hQ19
    have N19 := Fr.app N0 Nq19
    have O20 := O0.keep Kp19 all0
    have Z21 := Nat.le_trans Z0 Kp19.1
    refine own_st (G' := T19.setTop (mkF m 10 #[.val (.int v0), .val (.int (1 : Int32)), .unset, .unset] [(.ref w_FIRE_NOW)])) st19 ?_
    refine own_astoreN X19 hx 11 #[.val (.int v0), .val (.int (1 : Int32)), .val (.ref w_FIRE_NOW), .unset] (hb hby at_10) rfl rfl ?_
    refine own_iloadN X19 hx 12 (hb hby at_11) rfl ?_
    refine own_iconst X19 hx 13 (-1 : Int32) (hb hby at_12) rfl ?_
    refine own_icmpYes X19 hx 23 (hb hby at_13) (feq (by decide : ¬ ((1 : Int32) = (-1 : Int32)))).2 ?_
    refine own_iloadN X19 hx 24 (hb hby at_23) rfl ?_
    refine own_ifYes X19 hx 34 (hb hby at_24) (feq (by decide : ¬ ((1 : Int32) = (0 : Int32)))).2 ?_
    refine own_iloadN X19 hx 35 (hb hby at_34) rfl ?_
    refine own_iconst X19 hx 36 (1 : Int32) (hb hby at_35) rfl ?_
    refine own_icmpNo X19 hx 39 (hb hby at_36) (teq (rfl : (1 : Int32) = (1 : Int32))).2 ?_
    obtain ⟨T22, X22, e22, st22⟩ := getS2 X19 hx hZ hown (host := "") (Or.inl (hw _ (List.mem_of_getElem? (i := 32) rfl))) Via.refl rfl (S_w_FIRE_NOW.ext O20.2) (g := (mkF m 39 #[.val (.int v0), .val (.int (1 : Int32)), .val (.ref w_FIRE_NOW), .unset] [])) rfl (hb hby at_39)
    refine own_st (G' := T22.setTop (mkF m 42 #[.val (.int v0), .val (.int (1 : Int32)), .val (.ref w_FIRE_NOW), .unset] [(.ref w_FIRE_NOW)])) st22 ?_
    refine own_astoreN X22 hx 43 #[.val (.int v0), .val (.int (1 : Int32)), .val (.ref w_FIRE_NOW), .val (.ref w_FIRE_NOW)] (hb hby at_42) rfl rfl ?_
    refine own_goto X22 hx 50 (hb hby at_43) ?_
    refine own_aloadN X22 hx 51 (hb hby at_50) rfl rfl ?_
    refine own_aloadN X22 hx 52 (hb hby at_51) rfl rfl ?_
    refine own_acmp X22 hx 55 true (hb hby at_52) rfl rfl (decide_eq_true rfl) ?_
    refine own_aloadN X22 hx 56 (hb hby at_55) rfl rfl ?_
    have f23 := (F_code_w_FIRE_NOW.ext O20.2)
    have f25 := (E_w_FIRE_NOW.ext O20.2)
    obtain ⟨cq24, kq24, q24a, q24b, q24c⟩ := isOf hZ e22 f25
    obtain ⟨_, _, ⟨T24, Lx24, kc24, nc24⟩, -, X24, ⟨Lc24, hQ24, lq24, yq24, zq24⟩, st24⟩ := X22.virtualBack hx (y := (⟨"com/example/fates/fates/MisfirePolicy", "code", "()I"⟩ : MethodName)) (z := (⟨"com/example/fates/fates/MisfirePolicy", "code", "()I"⟩ : MethodName)) hown (mvT hZ (hw _ (List.mem_of_getElem? (i := 26) rfl))) (mvT hZ (hw _ (List.mem_of_getElem? (i := 27) rfl))) (notFace_of_selects (args := #[]) (mvT hZ (hw _ (List.mem_of_getElem? (i := 29) rfl)))) (mvT hZ (hw _ (List.mem_of_getElem? (i := 29) rfl))) (mvT hZ (hw _ (List.mem_of_getElem? (i := 28) rfl))) (by decide) (backOf (W := 0) (own_rm3 l Z a0 hw [] w_FIRE_NOW (1 : Int32) T19.heap n0 Z21 f23) hZ (hw _ (List.mem_of_getElem? (i := 30) rfl)) (hw _ (List.mem_of_getElem? (i := 2) rfl)) (by decide) (by decide)) q24a q24c (g := (mkF m 56 #[.val (.int v0), .val (.int (1 : Int32)), .val (.ref w_FIRE_NOW), .val (.ref w_FIRE_NOW)] [(.ref w_FIRE_NOW)])) rfl (by rw [hml]; rfl) (Steps.refl _) (argsL := []) (rest := []) (lenOf own_pd2 rfl) rfl (by show 2 * 0 + _ ≤ _; exact Nat.le_of_eq rfl) (hb hby at_56) (fun _ _ => ⟨rfl, e22, (by decide : 1 + 0 ≤ _), (by decide : 4 + 0 ≤ _)⟩)
    dsimp only [Pt.U, Pt.locs, Pt.cells, Pt.slots] at X24 lq24 yq24 zq24 st24 hQ24
    subst lq24 yq24 zq24
    obtain ⟨rfl, Nq24, eh24⟩ := hQ24
    have N24 := Fr.app N19 Nq24
    refine own_st (G' := T24.setTop (mkF m 59 #[.val (.int v0), .val (.int (1 : Int32)), .val (.ref w_FIRE_NOW), .val (.ref w_FIRE_NOW)] [(.int (1 : Int32))])) (fun t k => st24.trans k) ?_
    refine own_iloadN X24 hx 60 (hb hby at_59) rfl ?_
    refine own_icmpNo X24 hx 63 (hb hby at_60) (teq (rfl : (1 : Int32) = (1 : Int32))).2 ?_
    refine own_iconst X24 hx 64 (1 : Int32) (hb hby at_63) rfl ?_
    refine own_goto X24 hx 68 (hb hby at_64) ?_
    exact own_retN (t := .boolean) (z := (1 : Int32)) (Q := own_Q0 Z w__VALUES w_IGNORE w_SMART w_FIRE_NOW w_DO_NOTHING S_w__VALUES S_w_IGNORE S_w_SMART S_w_FIRE_NOW S_w_DO_NOTHING E_w__VALUES E_w_IGNORE E_w_SMART E_w_FIRE_NOW E_w_DO_NOTHING F_code_w_IGNORE F_code_w_SMART F_code_w_FIRE_NOW F_code_w_DO_NOTHING ne_w_IGNORE_w_SMART ne_w_IGNORE_w_FIRE_NOW ne_w_IGNORE_w_DO_NOTHING ne_w_SMART_w_FIRE_NOW ne_w_SMART_w_DO_NOTHING ne_w_FIRE_NOW_w_DO_NOTHING kV V_V v0 h0 n0) X24 hx hrt (by simp) (hb hby at_68) hlk eh24 ⟨rfl, N24⟩ (by decide) (by decide)
  · rw [hk4]
    refine own_iconst X0 hx 4 (1 : Int32) (hb hby at_3) rfl ?_
    refine own_isub X0 hx 5 (hb hby at_4) ?_
    show own_Gs p e below _ (s₁.setTop (mkF m 5 #[.val (.int v0), .unset, .unset, .unset] [(.int (2 : Int32))]))
    refine own_istoreN X0 hx 6 #[.val (.int v0), .val (.int (2 : Int32)), .unset, .unset] (hb hby at_5) rfl ?_
    refine own_iloadN X0 hx 7 (hb hby at_6) rfl ?_
    obtain ⟨_, _, ⟨T26, Lx26, kc26, nc26⟩, -, X26, ⟨Lc26, hQ26, lq26, yq26, zq26⟩, st26⟩ := Jvm.LawKit.callS X0 hx (y := (⟨"com/example/fates/fates/MisfirePolicy", "fromCode", "(I)Lcom/example/fates/fates/MisfirePolicy;"⟩ : MethodName)) hown (mvT hZ (hw _ (List.mem_of_getElem? (i := 0) rfl))) (mvT hZ (hw _ (List.mem_of_getElem? (i := 1) rfl))) (mvT hZ (hw _ (List.mem_of_getElem? (i := 2) rfl))) (mvT hZ (hw _ (List.mem_of_getElem? (i := 3) rfl))) (by decide) (backOf (W := 0) (own_rm1c3 l Z a0 hw [] w__VALUES w_IGNORE w_SMART w_FIRE_NOW w_DO_NOTHING S_w__VALUES S_w_IGNORE S_w_SMART S_w_FIRE_NOW S_w_DO_NOTHING E_w__VALUES E_w_IGNORE E_w_SMART E_w_FIRE_NOW E_w_DO_NOTHING F_code_w_IGNORE F_code_w_SMART F_code_w_FIRE_NOW F_code_w_DO_NOTHING ne_w_IGNORE_w_SMART ne_w_IGNORE_w_FIRE_NOW ne_w_IGNORE_w_DO_NOTHING ne_w_SMART_w_FIRE_NOW ne_w_SMART_w_DO_NOTHING ne_w_FIRE_NOW_w_DO_NOTHING kV V_V  h0 n0 Z0 O0) hZ (hw _ (List.mem_of_getElem? (i := 3) rfl)) (hw _ (List.mem_of_getElem? (i := 2) rfl)) (by decide) (by decide)) (g := (mkF m 7 #[.val (.int v0), .val (.int (2 : Int32)), .unset, .unset] [(.int (2 : Int32))])) rfl (by rw [hml]; rfl) (argsL := [(.int (2 : Int32))]) (rest := []) (lenOf own_pd1 rfl) rfl (by show 2 * 0 + _ ≤ _; exact Nat.le_of_eq rfl) (hb hby at_7) (fun _ _ => ⟨rfl, e0, (by decide : 0 + 1 ≤ _), (by decide : 0 + 4 ≤ _)⟩)
    dsimp only [Pt.U, Pt.locs, Pt.cells, Pt.slots] at X26 lq26 yq26 zq26 st26 hQ26
    subst lq26 yq26 zq26
    obtain ⟨rfl, Nq26, Kp26⟩ := hQ26
    have N26 := Fr.app N0 Nq26
    have O27 := O0.keep Kp26 all0
    have Z28 := Nat.le_trans Z0 Kp26.1
    refine own_st (G' := T26.setTop (mkF m 10 #[.val (.int v0), .val (.int (2 : Int32)), .unset, .unset] [(.ref w_DO_NOTHING)])) st26 ?_
    refine own_astoreN X26 hx 11 #[.val (.int v0), .val (.int (2 : Int32)), .val (.ref w_DO_NOTHING), .unset] (hb hby at_10) rfl rfl ?_
    refine own_iloadN X26 hx 12 (hb hby at_11) rfl ?_
    refine own_iconst X26 hx 13 (-1 : Int32) (hb hby at_12) rfl ?_
    refine own_icmpYes X26 hx 23 (hb hby at_13) (feq (by decide : ¬ ((2 : Int32) = (-1 : Int32)))).2 ?_
    refine own_iloadN X26 hx 24 (hb hby at_23) rfl ?_
    refine own_ifYes X26 hx 34 (hb hby at_24) (feq (by decide : ¬ ((2 : Int32) = (0 : Int32)))).2 ?_
    refine own_iloadN X26 hx 35 (hb hby at_34) rfl ?_
    refine own_iconst X26 hx 36 (1 : Int32) (hb hby at_35) rfl ?_
    refine own_icmpYes X26 hx 46 (hb hby at_36) (feq (by decide : ¬ ((2 : Int32) = (1 : Int32)))).2 ?_
    obtain ⟨T29, X29, e29, st29⟩ := getS2 X26 hx hZ hown (host := "") (Or.inl (hw _ (List.mem_of_getElem? (i := 31) rfl))) Via.refl rfl (S_w_DO_NOTHING.ext O27.2) (g := (mkF m 46 #[.val (.int v0), .val (.int (2 : Int32)), .val (.ref w_DO_NOTHING), .unset] [])) rfl (hb hby at_46)
    refine own_st (G' := T29.setTop (mkF m 49 #[.val (.int v0), .val (.int (2 : Int32)), .val (.ref w_DO_NOTHING), .unset] [(.ref w_DO_NOTHING)])) st29 ?_
    refine own_astoreN X29 hx 50 #[.val (.int v0), .val (.int (2 : Int32)), .val (.ref w_DO_NOTHING), .val (.ref w_DO_NOTHING)] (hb hby at_49) rfl rfl ?_
    refine own_aloadN X29 hx 51 (hb hby at_50) rfl rfl ?_
    refine own_aloadN X29 hx 52 (hb hby at_51) rfl rfl ?_
    refine own_acmp X29 hx 55 true (hb hby at_52) rfl rfl (decide_eq_true rfl) ?_
    refine own_aloadN X29 hx 56 (hb hby at_55) rfl rfl ?_
    have f30 := (F_code_w_DO_NOTHING.ext O27.2)
    have f32 := (E_w_DO_NOTHING.ext O27.2)
    obtain ⟨cq31, kq31, q31a, q31b, q31c⟩ := isOf hZ e29 f32
    obtain ⟨_, _, ⟨T31, Lx31, kc31, nc31⟩, -, X31, ⟨Lc31, hQ31, lq31, yq31, zq31⟩, st31⟩ := X29.virtualBack hx (y := (⟨"com/example/fates/fates/MisfirePolicy", "code", "()I"⟩ : MethodName)) (z := (⟨"com/example/fates/fates/MisfirePolicy", "code", "()I"⟩ : MethodName)) hown (mvT hZ (hw _ (List.mem_of_getElem? (i := 26) rfl))) (mvT hZ (hw _ (List.mem_of_getElem? (i := 27) rfl))) (notFace_of_selects (args := #[]) (mvT hZ (hw _ (List.mem_of_getElem? (i := 29) rfl)))) (mvT hZ (hw _ (List.mem_of_getElem? (i := 29) rfl))) (mvT hZ (hw _ (List.mem_of_getElem? (i := 28) rfl))) (by decide) (backOf (W := 0) (own_rm3 l Z a0 hw [] w_DO_NOTHING (2 : Int32) T26.heap n0 Z28 f30) hZ (hw _ (List.mem_of_getElem? (i := 30) rfl)) (hw _ (List.mem_of_getElem? (i := 2) rfl)) (by decide) (by decide)) q31a q31c (g := (mkF m 56 #[.val (.int v0), .val (.int (2 : Int32)), .val (.ref w_DO_NOTHING), .val (.ref w_DO_NOTHING)] [(.ref w_DO_NOTHING)])) rfl (by rw [hml]; rfl) (Steps.refl _) (argsL := []) (rest := []) (lenOf own_pd2 rfl) rfl (by show 2 * 0 + _ ≤ _; exact Nat.le_of_eq rfl) (hb hby at_56) (fun _ _ => ⟨rfl, e29, (by decide : 1 + 0 ≤ _), (by decide : 4 + 0 ≤ _)⟩)
    dsimp only [Pt.U, Pt.locs, Pt.cells, Pt.slots] at X31 lq31 yq31 zq31 st31 hQ31
    subst lq31 yq31 zq31
    obtain ⟨rfl, Nq31, eh31⟩ := hQ31
    have N31 := Fr.app N26 Nq31
    refine own_st (G' := T31.setTop (mkF m 59 #[.val (.int v0), .val (.int (2 : Int32)), .val (.ref w_DO_NOTHING), .val (.ref w_DO_NOTHING)] [(.int (2 : Int32))])) (fun t k => st31.trans k) ?_
    refine own_iloadN X31 hx 60 (hb hby at_59) rfl ?_
    refine own_icmpNo X31 hx 63 (hb hby at_60) (teq (rfl : (2 : Int32) = (2 : Int32))).2 ?_
    refine own_iconst X31 hx 64 (1 : Int32) (hb hby at_63) rfl ?_
    refine own_goto X31 hx 68 (hb hby at_64) ?_
    exact own_retN (t := .boolean) (z := (1 : Int32)) (Q := own_Q0 Z w__VALUES w_IGNORE w_SMART w_FIRE_NOW w_DO_NOTHING S_w__VALUES S_w_IGNORE S_w_SMART S_w_FIRE_NOW S_w_DO_NOTHING E_w__VALUES E_w_IGNORE E_w_SMART E_w_FIRE_NOW E_w_DO_NOTHING F_code_w_IGNORE F_code_w_SMART F_code_w_FIRE_NOW F_code_w_DO_NOTHING ne_w_IGNORE_w_SMART ne_w_IGNORE_w_FIRE_NOW ne_w_IGNORE_w_DO_NOTHING ne_w_SMART_w_FIRE_NOW ne_w_SMART_w_DO_NOTHING ne_w_FIRE_NOW_w_DO_NOTHING kV V_V v0 h0 n0) X31 hx hrt (by simp) (hb hby at_68) hlk eh31 ⟨rfl, N31⟩ (by decide) (by decide)
set_option maxRecDepth 65536 in
set_option maxHeartbeats 40000000 in
theorem own_comes {Post : Tables → Env → Array Value → State → Outcome → State → Prop} (hpost : ∀ tb e args s v u, (limb_1_1.after args s (.returned v) u = true ∧ limb_1_2.after args s (.returned v) u = true ∧ True) → FrameEnd s (.returned v) u (Jvm.fieldLocs frame_1_writes args s ++ Jvm.arrayLocs frame_1_arrays args s ++ Jvm.staticLocs frame_1_statics s) 16 128 → Post tb e args s (.returned v) u) :
    ArmFor flags0 classFile x code maxLocals ret World_1 tables_1 room_1 Calls_1 rest_1 Pre_1 Post := by
  intro l hfl _ _ p e ha hc hk s m args below hf hA hF happ hP
  obtain ⟨hcalls, hrest, hpre⟩ := hP
  obtain ⟨-, -, -, hnamed, -, -, -, hat⟩ := (Spec.applies_iff hf).mp happ
  obtain ⟨hg, hn⟩ := and_e (Cond.before_iff.mp (show (Jvm.Cond.and given_1 narrow_1).before args s = true from hpre))
  obtain ⟨g1, g2⟩ := and_e hg
  obtain ⟨w0, rfl⟩ : ∃ w0 : Value, args = #[w0] := by
    have hs : args.size = 1 := by simpa [Cond.value, given_1] using g1
    obtain ⟨L⟩ := args
    match L, hs with
    | [w0], _ => exact ⟨w0, rfl⟩
  have hw := fun d (hd : d ∈ tables_1) => atoms_spec (ws := Jvm.Cond.code x code maxLocals ret :: tables_1) hat d (List.mem_cons_of_mem _ hd)
  have hfit : Fit s := fun {y c} hc i hi => by
    obtain ⟨ha, rfl⟩ := Array.getElem?_eq_some_iff.mp hc
    have q := List.all_eq_true.mp ((Array.all_eq_true_iff_forall_mem.mp hF) _ (Array.getElem_mem ha)) i (List.mem_range.mpr hi)
    simpa [Array.getElem?_eq_getElem hi] using q
  obtain ⟨i0, ei0⟩ := is_v g2
  obtain rfl : w0 = (.int i0) := Option.some.inj ei0
  obtain ⟨j1a, j1b⟩ := and_e hn
  obtain ⟨j2a, j2b⟩ := and_e j1b
  obtain ⟨j3a, j3b⟩ := and_e j2b
  obtain ⟨j4a, j4b⟩ := and_e j3b
  obtain ⟨j5a, j5b⟩ := and_e j4b
  obtain ⟨j6a, j6b⟩ := and_e j5b
  obtain ⟨j7a, j7b⟩ := and_e j6b
  obtain ⟨j8a, j8b⟩ := and_e j7b
  obtain ⟨j9a, j9b⟩ := and_e j8b
  obtain ⟨j10a, j10b⟩ := and_e j9b
  obtain ⟨j11a, j11b⟩ := and_e j10b
  obtain ⟨j12a, j12b⟩ := and_e j11b
  obtain ⟨j13a, j13b⟩ := and_e j12b
  obtain ⟨j14a, j14b⟩ := and_e j13b
  obtain ⟨w__VALUES, ev_w__VALUES, S_w__VALUES, E_w__VALUES⟩ := own_sta j2a (Or.inr ⟨(hw _ (List.mem_of_getElem? (i := 2) rfl)), (hw _ (List.mem_of_getElem? (i := 8) rfl))⟩)
  obtain ⟨w_IGNORE, ev_w_IGNORE, S_w_IGNORE, E_w_IGNORE⟩ := own_sta j4a (Or.inr ⟨(hw _ (List.mem_of_getElem? (i := 2) rfl)), (hw _ (List.mem_of_getElem? (i := 16) rfl))⟩)
  obtain ⟨w_SMART, ev_w_SMART, S_w_SMART, E_w_SMART⟩ := own_sta j6a (Or.inr ⟨(hw _ (List.mem_of_getElem? (i := 2) rfl)), (hw _ (List.mem_of_getElem? (i := 17) rfl))⟩)
  obtain ⟨w_FIRE_NOW, ev_w_FIRE_NOW, S_w_FIRE_NOW, E_w_FIRE_NOW⟩ := own_sta j8a (Or.inr ⟨(hw _ (List.mem_of_getElem? (i := 2) rfl)), (hw _ (List.mem_of_getElem? (i := 18) rfl))⟩)
  obtain ⟨w_DO_NOTHING, ev_w_DO_NOTHING, S_w_DO_NOTHING, E_w_DO_NOTHING⟩ := own_sta j10a (Or.inr ⟨(hw _ (List.mem_of_getElem? (i := 2) rfl)), (hw _ (List.mem_of_getElem? (i := 19) rfl))⟩)
  have F_code_w_IGNORE := own_fldI ev_w_IGNORE j12a
  have F_code_w_SMART := own_fldI ev_w_SMART j13a
  have F_code_w_FIRE_NOW := own_fldI ev_w_FIRE_NOW j14a
  have F_code_w_DO_NOTHING := own_fldI ev_w_DO_NOTHING j14b
  have ne_w_IGNORE_w_SMART : w_IGNORE ≠ w_SMART := Fld.ne F_code_w_IGNORE F_code_w_SMART (by decide)
  have ne_w_IGNORE_w_FIRE_NOW : w_IGNORE ≠ w_FIRE_NOW := Fld.ne F_code_w_IGNORE F_code_w_FIRE_NOW (by decide)
  have ne_w_IGNORE_w_DO_NOTHING : w_IGNORE ≠ w_DO_NOTHING := Fld.ne F_code_w_IGNORE F_code_w_DO_NOTHING (by decide)
  have ne_w_SMART_w_FIRE_NOW : w_SMART ≠ w_FIRE_NOW := Fld.ne F_code_w_SMART F_code_w_FIRE_NOW (by decide)
  have ne_w_SMART_w_DO_NOTHING : w_SMART ≠ w_DO_NOTHING := Fld.ne F_code_w_SMART F_code_w_DO_NOTHING (by decide)
  have ne_w_FIRE_NOW_w_DO_NOTHING : w_FIRE_NOW ≠ w_DO_NOTHING := Fld.ne F_code_w_FIRE_NOW F_code_w_DO_NOTHING (by decide)
  obtain ⟨clV, A_V⟩ := Arr.start ev_w__VALUES j1a
  obtain ⟨lV1, lV2⟩ := own_len0 ev_w__VALUES A_V j3a
  have V_V : Arv s s.heap w__VALUES clV.cls (.object "com/example/fates/fates/MisfirePolicy") (4 : Int32) [(.ref w_IGNORE), (.ref w_SMART), (.ref w_FIRE_NOW), (.ref w_DO_NOTHING)] .null := Arv.start hfit A_V lV1 lV2 (by decide) rfl ⟨own_elem0 ev_w__VALUES A_V ev_w_IGNORE j5a, own_elem0 ev_w__VALUES A_V ev_w_SMART j7a, own_elem0 ev_w__VALUES A_V ev_w_FIRE_NOW j9a, own_elem0 ev_w__VALUES A_V ev_w_DO_NOTHING j11a, trivial⟩
  obtain ⟨n, o, h1, h2, h3, _, L, rfl, ⟨rfl, N⟩, hq⟩ := own_rm0 l s _ hw tables_1 w__VALUES w_IGNORE w_SMART w_FIRE_NOW w_DO_NOTHING S_w__VALUES S_w_IGNORE S_w_SMART S_w_FIRE_NOW S_w_DO_NOTHING E_w__VALUES E_w_IGNORE E_w_SMART E_w_FIRE_NOW E_w_DO_NOTHING F_code_w_IGNORE F_code_w_SMART F_code_w_FIRE_NOW F_code_w_DO_NOTHING ne_w_IGNORE_w_SMART ne_w_IGNORE_w_FIRE_NOW ne_w_IGNORE_w_DO_NOTHING ne_w_SMART_w_FIRE_NOW ne_w_SMART_w_DO_NOTHING ne_w_FIRE_NOW_w_DO_NOTHING clV.cls V_V i0 s.heap s.heap.size (Nat.le_refl _) (Old.start s) p e ha hc hk s m _ below hf ((Spec.applies_iff_loose hf).mp happ).1 ⟨rfl, State.Warmed39.refl s, rfl⟩ trivial
  refine ⟨n, _, h1, h2, h3, hpost _ _ _ _ _ _ ⟨Cond.after_iff.mpr rfl, Cond.after_iff.mpr (eq_i res_at (Term.int_eval (1)) rfl), trivial⟩ ⟨hq.1, hq.2.1, (hq.2.2.sift fun y hy => Or.inr (N y hy)).mono (by decide) (by decide)⟩⟩
theorem main_1_1 : Claimed_1_1 := own_comes fun _ _ _ _ _ _ h hF => ⟨h.1, hF⟩
theorem main_1_2 : Claimed_1_2 := own_comes fun _ _ _ _ _ _ h hF => ⟨h.2.1, hF⟩
end Jvm.Pilot.@@N@@
namespace Jvm.Pilot.@@N@@
open Jvm Jvm.ClassFile Sem Op Lib Jvm.Free Jvm.Stand Jvm.Pilot.@@N@@.Jvm.D
/-! MADE BY PROGRAM (witnessworld.py) out of the Statement's table words and the real class files: 13 classes; the members and pool entries that the words name. The judged class is class 1, her method 1. -/
namespace start1
open Jvm.ClassFile
def u (s : String) : CpInfo := .utf8 (stringToUtf16 s)
/-- a pool by its gaps: so many unusable entries, then the entry; so many at the end -/
def gap : Nat → List CpInfo → List CpInfo
  | 0, r => r
  | n + 1, r => .unusable :: gap n r
def poolList (es : List (Nat × CpInfo)) (last : Nat) : List CpInfo := es.foldr (fun e r => gap e.1 (e.2 :: r)) (gap last [])
def pool (es : List (Nat × CpInfo)) (last : Nat) : Array CpInfo := ⟨poolList es last⟩
def fileOf (pool : Array CpInfo) (this : Nat) (attrs : Array Attribute := #[]) (ms : Array MethodInfo := #[]) (fl : Nat := 33) (sup : Nat := 0) (ifs : Array Nat := #[]) (fds : Array FieldInfo := #[]) : ClassFile where
  minorVersion := 0
  majorVersion := 65
  constantPool := pool
  accessFlags := fl
  thisClass := this
  superClass := sup
  interfaces := ifs
  fields := fds
  methods := ms
  attributes := attrs
def plain (name : String) (sup : Option ClassId) : Class where
  name := name
  kind := .ordinary
  loader := none
  accessFlags := 33
  super := sup
  interfaces := #[]
  cf := none
  fields := #[]
  methods := #[]
  instanceTypes := #[]
  staticTypes := #[]
  resolved := #[]
  callSites := []
  init := .initialized
  statics := none
  mirror := none

def pool0 : Array CpInfo := pool [(5, u "<init>"), (0, u "()V"), (1, .class_ 10), (1, u "java/lang/Object"), (85, u "clone"), (0, u "()Ljava/lang/Object;")] 26

def k0m0 : Method := { name := "<init>", desc := "()V", sig := { parameters := [], returnType := none }, accessFlags := 1, code := none }
def k0m1 : Method := { name := "clone", desc := "()Ljava/lang/Object;", sig := { parameters := [], returnType := some (.object "java/lang/Object") }, accessFlags := 260, code := none }
/-- java/lang/Object -/
def k0 : Class := { plain "java/lang/Object" none with
  accessFlags := 33
  interfaces := #[]
  cf := some (fileOf pool0 8 #[] #[{ accessFlags := 1, nameIndex := 5, descriptorIndex := 6, attributes := #[] }, { accessFlags := 260, nameIndex := 96, descriptorIndex := 97, attributes := #[] }] 33 0 #[] #[])
  fields := #[]
  methods := #[k0m0, k0m1]
  instanceTypes := #[]
  staticTypes := #[]
  resolved := Array.replicate 124 none
  statics := none }

def pool1 : Array CpInfo := pool [(2, .class_ 4), (1, u "java/lang/Object"), (0, u "<init>"), (0, u "()V"), (0, .methodref 8 9), (0, .class_ 10), (0, .nameAndType 11 12), (0, u "com/example/fates/fates/MisfirePolicy"), (0, u "fromCode"), (0, u "(I)Lcom/example/fates/fates/MisfirePolicy;"), (0, .fieldref 8 14), (0, .nameAndType 15 16), (0, u "IGNORE"), (0, u "Lcom/example/fates/fates/MisfirePolicy;"), (0, .fieldref 8 18), (0, .nameAndType 19 16), (0, u "SMART"), (0, .fieldref 8 21), (0, .nameAndType 22 16), (0, u "FIRE_NOW"), (0, .fieldref 8 24), (0, .nameAndType 25 16), (0, u "DO_NOTHING"), (0, .methodref 8 27), (0, .nameAndType 28 29), (0, u "code"), (0, u "()I"), (0, .class_ 31), (0, u "com/example/fates/fates/MisfirePolicyFromCodePinLaw"), (2, u "law"), (0, u "(I)Z")] 3

def k1m0 : Method := { name := "<init>", desc := "()V", sig := { parameters := [], returnType := none }, accessFlags := 2, code := none }
def k1c1 : Code := { maxStack := 2, maxLocals := 4, code := code, exceptionTable := #[], attributes := #[] }
def k1m1 : Method := { name := "law", desc := "(I)Z", sig := { parameters := [.int], returnType := some .boolean }, accessFlags := 9, code := some k1c1 }
/-- com/example/fates/fates/MisfirePolicyFromCodePinLaw -/
def k1 : Class := { plain "com/example/fates/fates/MisfirePolicyFromCodePinLaw" (some 0) with
  accessFlags := 49
  interfaces := #[]
  cf := some (fileOf pool1 30 #[] #[{ accessFlags := 2, nameIndex := 5, descriptorIndex := 6, attributes := #[] }, { accessFlags := 9, nameIndex := 34, descriptorIndex := 35, attributes := #[] }] 49 2 #[] #[])
  fields := #[]
  methods := #[k1m0, k1m1]
  instanceTypes := #[]
  staticTypes := #[]
  resolved := Array.replicate 39 none
  statics := none }

def pool2 : Array CpInfo := pool [(1, .class_ 2), (0, u "java/lang/constant/Constable"), (0, .class_ 4), (0, u "java/lang/Object")] 6

/-- java/lang/constant/Constable -/
def k2 : Class := { plain "java/lang/constant/Constable" (some 0) with
  accessFlags := 1537
  interfaces := #[]
  cf := some (fileOf pool2 1 #[] #[] 1537 3 #[] #[])
  fields := #[]
  methods := #[]
  instanceTypes := #[]
  staticTypes := #[]
  resolved := Array.replicate 11 none
  statics := none }

def pool3 : Array CpInfo := pool [(1, .class_ 2), (0, u "java/lang/Comparable"), (0, .class_ 4), (0, u "java/lang/Object")] 7

/-- java/lang/Comparable -/
def k3 : Class := { plain "java/lang/Comparable" (some 0) with
  accessFlags := 1537
  interfaces := #[]
  cf := some (fileOf pool3 1 #[] #[] 1537 3 #[] #[])
  fields := #[]
  methods := #[]
  instanceTypes := #[]
  staticTypes := #[]
  resolved := Array.replicate 12 none
  statics := none }

def pool4 : Array CpInfo := pool [(1, .class_ 2), (0, u "java/io/Serializable"), (0, .class_ 4), (0, u "java/lang/Object")] 2

/-- java/io/Serializable -/
def k4 : Class := { plain "java/io/Serializable" (some 0) with
  accessFlags := 1537
  interfaces := #[]
  cf := some (fileOf pool4 1 #[] #[] 1537 3 #[] #[])
  fields := #[]
  methods := #[]
  instanceTypes := #[]
  staticTypes := #[]
  resolved := Array.replicate 7 none
  statics := none }

def pool5 : Array CpInfo := pool [(2, .class_ 4), (1, u "java/lang/Enum"), (0, u "name"), (0, u "Ljava/lang/String;"), (2, u "ordinal"), (0, u "I"), (1, .class_ 14), (1, u "java/lang/Object"), (4, u "hash"), (86, .class_ 108), (1, u "java/lang/Enum$EnumDesc"), (2, .class_ 112), (0, u "java/lang/constant/Constable"), (0, .class_ 114), (0, u "java/lang/Comparable"), (0, .class_ 116), (0, u "java/io/Serializable")] 87

/-- java/lang/Enum -/
def k5 : Class := { plain "java/lang/Enum" (some 0) with
  accessFlags := 1057
  interfaces := #[2, 3, 4]
  cf := some (fileOf pool5 2 #[.nestMembers #[106]] #[] 1057 12 #[111, 113, 115] #[{ accessFlags := 18, nameIndex := 5, descriptorIndex := 6, attributes := #[] }, { accessFlags := 18, nameIndex := 9, descriptorIndex := 10, attributes := #[] }, { accessFlags := 2, nameIndex := 19, descriptorIndex := 10, attributes := #[] }])
  fields := #[{ name := "name", type := (.object "java/lang/String"), accessFlags := 18, slot := 0, constantValue := 0 }, { name := "ordinal", type := .int, accessFlags := 18, slot := 1, constantValue := 0 }, { name := "hash", type := .int, accessFlags := 2, slot := 2, constantValue := 0 }]
  methods := #[]
  instanceTypes := #[(.object "java/lang/String"), .int, .int]
  staticTypes := #[]
  resolved := Array.replicate 204 none
  statics := none }

def pool6 : Array CpInfo := pool [(1, .class_ 2), (0, u "com/example/fates/fates/MisfirePolicy"), (2, u "IGNORE"), (0, u "Lcom/example/fates/fates/MisfirePolicy;"), (2, u "SMART"), (2, u "FIRE_NOW"), (2, u "DO_NOTHING"), (0, .fieldref 1 17), (0, .nameAndType 18 19), (0, u "$VALUES"), (0, u "[Lcom/example/fates/fates/MisfirePolicy;"), (0, .methodref 21 22), (0, .class_ 19), (0, .nameAndType 23 24), (0, u "clone"), (0, u "()Ljava/lang/Object;"), (1, .class_ 28), (1, u "java/lang/Enum"), (6, .fieldref 1 36), (0, .nameAndType 37 38), (0, u "code"), (0, u "I"), (0, .methodref 1 40), (0, .nameAndType 41 42), (0, u "values"), (0, u "()[Lcom/example/fates/fates/MisfirePolicy;"), (25, u "()I"), (0, u "fromCode"), (0, u "(I)Lcom/example/fates/fates/MisfirePolicy;")] 21

def k6c0 : Code := { maxStack := 1, maxLocals := 0, code := prog_14_method_1_code, exceptionTable := #[], attributes := #[] }
def k6m0 : Method := { name := "values", desc := "()[Lcom/example/fates/fates/MisfirePolicy;", sig := { parameters := [], returnType := some (.array (.object "com/example/fates/fates/MisfirePolicy")) }, accessFlags := 9, code := some k6c0 }
def k6c1 : Code := { maxStack := 1, maxLocals := 1, code := prog_14_method_4_code, exceptionTable := #[], attributes := #[] }
def k6m1 : Method := { name := "code", desc := "()I", sig := { parameters := [], returnType := some .int }, accessFlags := 1, code := some k6c1 }
def k6c2 : Code := { maxStack := 3, maxLocals := 5, code := prog_14_method_5_code, exceptionTable := #[], attributes := #[] }
def k6m2 : Method := { name := "fromCode", desc := "(I)Lcom/example/fates/fates/MisfirePolicy;", sig := { parameters := [.int], returnType := some (.object "com/example/fates/fates/MisfirePolicy") }, accessFlags := 9, code := some k6c2 }
/-- com/example/fates/fates/MisfirePolicy -/
def k6 : Class := { plain "com/example/fates/fates/MisfirePolicy" (some 5) with
  accessFlags := 16433
  interfaces := #[]
  cf := some (fileOf pool6 1 #[] #[{ accessFlags := 9, nameIndex := 41, descriptorIndex := 42, attributes := #[] }, { accessFlags := 1, nameIndex := 37, descriptorIndex := 68, attributes := #[] }, { accessFlags := 9, nameIndex := 69, descriptorIndex := 70, attributes := #[] }] 16433 26 #[] #[{ accessFlags := 16409, nameIndex := 5, descriptorIndex := 6, attributes := #[] }, { accessFlags := 16409, nameIndex := 9, descriptorIndex := 6, attributes := #[] }, { accessFlags := 16409, nameIndex := 12, descriptorIndex := 6, attributes := #[] }, { accessFlags := 16409, nameIndex := 15, descriptorIndex := 6, attributes := #[] }, { accessFlags := 18, nameIndex := 37, descriptorIndex := 38, attributes := #[] }, { accessFlags := 4122, nameIndex := 18, descriptorIndex := 19, attributes := #[] }])
  fields := #[{ name := "IGNORE", type := (.object "com/example/fates/fates/MisfirePolicy"), accessFlags := 16409, slot := 0, constantValue := 0 }, { name := "SMART", type := (.object "com/example/fates/fates/MisfirePolicy"), accessFlags := 16409, slot := 1, constantValue := 0 }, { name := "FIRE_NOW", type := (.object "com/example/fates/fates/MisfirePolicy"), accessFlags := 16409, slot := 2, constantValue := 0 }, { name := "DO_NOTHING", type := (.object "com/example/fates/fates/MisfirePolicy"), accessFlags := 16409, slot := 3, constantValue := 0 }, { name := "code", type := .int, accessFlags := 18, slot := 3, constantValue := 0 }, { name := "$VALUES", type := (.array (.object "com/example/fates/fates/MisfirePolicy")), accessFlags := 4122, slot := 4, constantValue := 0 }]
  methods := #[k6m0, k6m1, k6m2]
  instanceTypes := #[(.object "java/lang/String"), .int, .int, .int]
  staticTypes := #[(.object "com/example/fates/fates/MisfirePolicy"), (.object "com/example/fates/fates/MisfirePolicy"), (.object "com/example/fates/fates/MisfirePolicy"), (.object "com/example/fates/fates/MisfirePolicy"), (.array (.object "com/example/fates/fates/MisfirePolicy"))]
  resolved := Array.replicate 92 none
  statics := some 0 }

def pool7 : Array CpInfo := pool [(1, .class_ 2), (0, u "java/lang/Cloneable"), (0, .class_ 4), (0, u "java/lang/Object")] 2

/-- java/lang/Cloneable -/
def k7 : Class := { plain "java/lang/Cloneable" (some 0) with
  accessFlags := 1537
  interfaces := #[]
  cf := some (fileOf pool7 1 #[] #[] 1537 3 #[] #[])
  fields := #[]
  methods := #[]
  instanceTypes := #[]
  staticTypes := #[]
  resolved := Array.replicate 7 none
  statics := none }

/-- the primitive byte -/
def k8 : Class := { plain "byte" none with kind := .primitive 'B', accessFlags := 0x411 }
/-- [B -/
def k9 : Class := { plain "[B" (some 0) with kind := .array 8 .byte, interfaces := #[7, 4], accessFlags := 1041 }

/-- the primitive int -/
def k10 : Class := { plain "int" none with kind := .primitive 'I', accessFlags := 0x411 }
/-- [I -/
def k11 : Class := { plain "[I" (some 0) with kind := .array 10 .int, interfaces := #[7, 4], accessFlags := 1041 }

/-- [Lcom/example/fates/fates/MisfirePolicy; -/
def k12 : Class := { plain "[Lcom/example/fates/fates/MisfirePolicy;" (some 0) with kind := .array 6 (.object "com/example/fates/fates/MisfirePolicy"), interfaces := #[7, 4], accessFlags := 1041 }

def heap : Heap := #[{ cls := 6, slots := #[.ref 2, .ref 3, .ref 4, .ref 5, .ref 1], vm := .statics 6 },
  { cls := 12, slots := #[.ref 2, .ref 3, .ref 4, .ref 5], vm := .none },
  { cls := 6, slots := #[.null, .int 0, .int 0, .int (-1)], vm := .none },
  { cls := 6, slots := #[.null, .int 1, .int 0, .int 0], vm := .none },
  { cls := 6, slots := #[.null, .int 2, .int 0, .int 1], vm := .none },
  { cls := 6, slots := #[.null, .int 3, .int 0, .int 2], vm := .none }]
def classes : Array Class := #[k0, k1, k2, k3, k4, k5, k6, k7, k8, k9, k10, k11, k12]
def interned : List (Array UInt16 × Addr) := []
def slotsUsed : Nat := 25
def theMethod : MethodId := ⟨1, 1⟩
def args0 : Array Value := #[.int 5]
def aboutOver (below : List Frame) : State where
  vm := { classes := classes, interned := interned.toArray }
  heap := heap
  slotsUsed := slotsUsed
  threads := #[{ frames := .invoking theMethod args0 :: below }]
def below0 : List Frame := [.native { method := ⟨0, 0⟩, args := #[] }]
def about1 : State := aboutOver below0
def p0 : Program := .bare "" "" ""
def e0 : Env := launch0.env 0 0 0
theorem w_frames : about1.frames = Frame.invoking theMethod args0 :: below0 := rfl
set_option maxRecDepth 65536 in
theorem w_args : argsFit about1.vm theMethod args0 = true := by decide +kernel
set_option maxRecDepth 65536 in
theorem w_heap : heapFits about1 = true := by decide +kernel
set_option maxRecDepth 65536 in
theorem w_runnable : about1.curStatus? = some .runnable := by decide +kernel
set_option maxRecDepth 65536 in
theorem w_alone : about1.alone = true := by decide +kernel
set_option maxRecDepth 65536 in
theorem w_named : about1.methodNamed? x = some theMethod := by decide +kernel
set_option maxRecDepth 65536 in
theorem w_hears : about1.hears theMethod below0 = true := by decide +kernel
set_option maxRecDepth 65536 in
theorem w_ripe : about1.ripe theMethod args0 below0 = true := by decide +kernel
theorem w_running : about1.status = .running := rfl
set_option maxRecDepth 65536 in
theorem w_room : about1.hasRoom e0.platform room_1 = true :=
  launch0.hasRoom_least _ room_1 (by decide +kernel) (by decide +kernel) (by decide +kernel) (by decide +kernel) (by decide +kernel) (by decide +kernel)
theorem allAtoms_all (ts : List Jvm.Cond) (a : Array Jvm.Value) (st : Jvm.State) : (allAtoms ts).before a st = ts.all (fun c => c.before a st) := by
  induction ts with
  | nil => rfl
  | cons c t ih =>
    show (Jvm.Cond.and c (allAtoms t)).before a st = _
    rw [Jvm.Cond.before_and, ih, List.all_cons]
def words1 : List Jvm.Cond := Jvm.Cond.code x code maxLocals ret :: tables_1
/-- a 'code' word, met by the world's own term for the bytes: nothing is compared byte by byte -/
theorem code_word {y : MethodName} {bytes : ByteArray} {mx : Nat} {rt : Option FieldType} {a : Array Value} {s : State} {m : MethodId} {meth : Method} {c : Code} (h1 : s.methodNamed? y = some m) (h2 : s.vm.method? m = some meth) (h3 : meth.code = some c) (h4 : c.code = bytes)
    (h5 : (c.maxLocals == mx && c.exceptionTable.isEmpty && decide (c.maxStack ≤ mostOperands) && decide (meth.sig.returnType = rt) && !meth.locks && decide (parseMethodDescriptor y.desc = some meth.sig)) = true) : (Jvm.Cond.code y bytes mx rt).before a s = true := by
  simp only [Bool.and_eq_true, beq_iff_eq, Bool.not_eq_true', decide_eq_true_eq] at h5
  obtain ⟨⟨⟨⟨⟨g1, g2⟩, g3⟩, g4⟩, g5⟩, g6⟩ := h5
  simp [Cond.before, Cond.holds, Cond.value, h1, h2, h3, h4, g1, g2, g3, g4, g5, g6]
def isCode : Jvm.Cond → Bool
  | .code _ _ _ _ => true
  | _ => false
theorem all_split {L : List Jvm.Cond} {P : Jvm.Cond → Bool} (h1 : L.all (fun c => isCode c || P c) = true) (h2 : ∀ c ∈ L.filter isCode, P c = true) : L.all P = true := by
  refine List.all_eq_true.mpr fun c hc => ?_
  have h := List.all_eq_true.mp h1 c hc
  rcases Bool.eq_false_or_eq_true (isCode c) with hi | hi
  · exact h2 c (List.mem_filter.mpr ⟨hc, hi⟩)
  · simpa [hi] using h
set_option maxRecDepth 65536 in
theorem w_c0 : (Jvm.Cond.code x code maxLocals ret).before args0 about1 = true := code_word (m := ⟨1, 1⟩) (meth := k1m1) (c := k1c1) (by decide +kernel) rfl rfl rfl (by decide +kernel)
set_option maxRecDepth 65536 in
theorem w_c1 : (Jvm.Cond.code ({ cls := "com/example/fates/fates/MisfirePolicy", name := "fromCode", desc := "(I)Lcom/example/fates/fates/MisfirePolicy;" } : Jvm.MethodName) prog_14_method_5_code (5 : Nat) (Option.some (Jvm.ClassFile.FieldType.object "com/example/fates/fates/MisfirePolicy"))).before args0 about1 = true := code_word (m := ⟨6, 2⟩) (meth := k6m2) (c := k6c2) (by decide +kernel) rfl rfl rfl (by decide +kernel)
set_option maxRecDepth 65536 in
theorem w_c2 : (Jvm.Cond.code ({ cls := "com/example/fates/fates/MisfirePolicy", name := "values", desc := "()[Lcom/example/fates/fates/MisfirePolicy;" } : Jvm.MethodName) prog_14_method_1_code (0 : Nat) (Option.some (Jvm.ClassFile.FieldType.array (Jvm.ClassFile.FieldType.object "com/example/fates/fates/MisfirePolicy")))).before args0 about1 = true := code_word (m := ⟨6, 0⟩) (meth := k6m0) (c := k6c0) (by decide +kernel) rfl rfl rfl (by decide +kernel)
set_option maxRecDepth 65536 in
theorem w_c3 : (Jvm.Cond.code ({ cls := "com/example/fates/fates/MisfirePolicy", name := "code", desc := "()I" } : Jvm.MethodName) prog_14_method_4_code (1 : Nat) (Option.some Jvm.ClassFile.FieldType.int)).before args0 about1 = true := code_word (m := ⟨6, 1⟩) (meth := k6m1) (c := k6c1) (by decide +kernel) rfl rfl rfl (by decide +kernel)
def codes1 : List Jvm.Cond := [Jvm.Cond.code x code maxLocals ret, Jvm.Cond.code ({ cls := "com/example/fates/fates/MisfirePolicy", name := "fromCode", desc := "(I)Lcom/example/fates/fates/MisfirePolicy;" } : Jvm.MethodName) prog_14_method_5_code (5 : Nat) (Option.some (Jvm.ClassFile.FieldType.object "com/example/fates/fates/MisfirePolicy")), Jvm.Cond.code ({ cls := "com/example/fates/fates/MisfirePolicy", name := "values", desc := "()[Lcom/example/fates/fates/MisfirePolicy;" } : Jvm.MethodName) prog_14_method_1_code (0 : Nat) (Option.some (Jvm.ClassFile.FieldType.array (Jvm.ClassFile.FieldType.object "com/example/fates/fates/MisfirePolicy"))), Jvm.Cond.code ({ cls := "com/example/fates/fates/MisfirePolicy", name := "code", desc := "()I" } : Jvm.MethodName) prog_14_method_4_code (1 : Nat) (Option.some Jvm.ClassFile.FieldType.int)]
set_option maxRecDepth 65536 in
theorem codes_eq : words1.filter isCode = codes1 := rfl
theorem w_codes : ∀ c ∈ words1.filter isCode, c.before args0 about1 = true := by
  rw [codes_eq]
  intro c hc
  simp only [codes1, List.mem_cons, List.not_mem_nil, or_false] at hc
  rcases hc with rfl | rfl | rfl | rfl
  · exact w_c0
  · exact w_c1
  · exact w_c2
  · exact w_c3
set_option maxRecDepth 65536 in
theorem w_t1 : (words1.take 24).all (fun c => isCode c || c.before args0 about1) = true := by decide +kernel
set_option maxRecDepth 65536 in
theorem w_t2 : (words1.drop 24).all (fun c => isCode c || c.before args0 about1) = true := by decide +kernel
theorem w_tables : (allAtoms (Jvm.Cond.code x code maxLocals ret :: tables_1)).before args0 about1 = true := by
  rw [allAtoms_all]
  show words1.all (fun c => c.before args0 about1) = true
  refine all_split ?_ w_codes
  rw [← List.take_append_drop 24 words1, List.all_append, w_t1, w_t2]
  rfl
set_option maxRecDepth 65536 in
theorem w_case : (Jvm.Cond.and given_1 narrow_1).before args0 about1 = true := by decide +kernel
theorem w_applies : (headSpec (Jvm.Cond.code x code maxLocals ret :: tables_1) room_1).applies x e0.platform about1 = true :=
  (Spec.applies_iff w_frames).mpr ⟨w_running, w_runnable, w_alone, w_named, w_hears, w_ripe, w_room, w_tables⟩
theorem atStart : AtStart classFile x code maxLocals ret World_1 tables_1 room_1 Calls_1 rest_1 Pre_1 launch0 p0 e0 about1 theMethod args0 below0 :=
  ⟨lists_1, trivial, launch0.admits_env _ _ _, launch0.least_env, fairChoices_fair.cas, fairChoices_fair.clock, w_frames, w_args, w_heap, w_applies, trivial, trivial, w_case⟩
end start1
theorem witness_1 : WitnessClaimed_1 := ⟨start1.p0, start1.e0, start1.about1, start1.theMethod, start1.args0, start1.below0, start1.atStart⟩
end Jvm.Pilot.@@N@@
