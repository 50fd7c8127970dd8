import JvmDerived
import JvmDerived.Pilot.@@N@@Statement
import JvmDerived.Pilot.@@N@@Code
set_option linter.unusedVariables false
set_option linter.unusedSimpArgs false
@@BLOCK:LamKit.lean.txt@@
namespace Jvm.RoadKit
open Sem ClassFile Op Lib Jvm.Stand Jvm.Free Jvm.LawKit
section New
variable {p : Program} {l : Launch} {e : Env} {R : Room} {s : State} {m : MethodId} {args : Array Value} {below : List Frame} {meth : Method} {c : Code} {T : State} {locs : List Loc} {cells slots : Nat}
theorem retI (X : Stand p l e R s m args below meth c T locs cells slots) (hx : p.tables.exec = Jvm.exec) {pc : Nat} {Ls : Array Slot} {z : Int32} {rest : List Value} (hret : meth.sig.returnType = some .int) (hd : decode c.code pc = .ok (.ireturn, 1)) {fs : List Frame}
    (hl : ∀ (f : JFrame) (acts : List Action), f.method = m → f.locked = none → f.entered = [] → (doReturn e (T.setTop f) acts (some (.int z))).1 = T.setFrames fs) : Steps p.tables e below (T.setTop (mkF m pc Ls (.int z :: rest))) (T.setFrames fs) := by
  have hm' : T.vm.method? m = some meth := X.method'
  have hn : narrow .int (.int z) = .int z := rfl
  show Steps p.tables e below (T.setTop { method := m, pc := pc, locals := Ls, stack := _ :: rest, locked := none }) _
  jvm_step X.here [X.here.top, hx, hd, hm', hret, hn]
  first | (intro acts; rw [hl _ acts rfl rfl rfl]) | rw [hl _ _ rfl rfl rfl]
  exact Steps.refl _
end New
end Jvm.RoadKit
namespace Jvm.Pilot.@@N@@
open Jvm Jvm.ClassFile Sem Op Lib Jvm.Free Jvm.Stand Jvm.LawKit Jvm.RoadKit Bundle Jvm.Pilot.@@N@@.Jvm.D
section Own
variable {p : Program} {l : Launch} {e : Env} {R : Room} {s : State} {m : MethodId} {args : Array Value} {below : List Frame} {meth : Method} {c : Code} {T : State} {locs : List Loc} {cells slots : Nat}
/-- from the state G the run comes to an end with an outcome of which Φ holds -/
def own_Gs (p : Program) (e : Env) (below : List Frame) (Φ : Outcome → State → Prop) (G : State) : Prop :=
  ∃ (t : State) (o : Outcome), Steps p.tables e below G t ∧ t.status = .running ∧ Ended t below o ∧ Φ o t
theorem own_st {Φ : Outcome → State → Prop} {G G' : State} (k : ∀ t, Steps p.tables e below G' t → Steps p.tables e below G t) (h : own_Gs p e below Φ G') : own_Gs p e below Φ G := by
  obtain ⟨a, b, h1, h2⟩ := h
  exact ⟨a, b, k _ h1, h2⟩
theorem own_in {Φ : Outcome → State → Prop} {g g' : JFrame} (q : g = g') (h : own_Gs p e below Φ (T.setTop g')) : ∃ (t : State) (o : Outcome), Steps p.tables e below (T.setTop g) t ∧ t.status = .running ∧ Ended t below o ∧ Φ o t := by
  subst q; exact h
theorem own_ret (X : Stand p l e R s m args below meth c T locs cells slots) {v : Option Value} (hv : meth.sig.returnType = none → v = none) (hlk : meth.locks = false) {G : State}
    (k : ∀ fs, (∀ (f : JFrame) (acts : List Action), f.method = m → f.locked = none → f.entered = [] → (doReturn e (T.setTop f) acts v).1 = T.setFrames fs) → Steps p.tables e below G (T.setFrames fs))
    {Q : Option Value → Heap → List Loc → Prop} {h : Heap} (eT : T.heap = h) (hQ : Q v h locs) {cc ss : Nat} (hc : cells ≤ cc) (hs : slots ≤ ss) :
    own_Gs p e below (fun o t => ∃ v L, o = .returned v ∧ Q v t.heap L ∧ FrameEnd s o t L cc ss) G := by
  obtain ⟨fs, hr, hrun, hended, hW, hsame⟩ := X.leave (v := v) hv hlk
  subst eT
  exact ⟨_, _, k fs hr, hrun, hended, _, _, rfl, hQ, ⟨_, rfl⟩, hW, hsame.mono hc hs⟩
theorem own_retI (X : Stand p l e R s m args below meth c T locs cells slots) (hx : p.tables.exec = Jvm.exec) {pc : Nat} {Ls : Array Slot} {z : Int32} {rest : List Value} (hret : meth.sig.returnType = some .int) (hd : decode c.code pc = .ok (.ireturn, 1)) (hlk : meth.locks = false)
    {Q : Option Value → Heap → List Loc → Prop} {h : Heap} (eT : T.heap = h) (hQ : Q (some (.int z)) h locs) {cc ss : Nat} (hc : cells ≤ cc) (hs : slots ≤ ss) :
    own_Gs p e below (fun o t => ∃ v L, o = .returned v ∧ Q v t.heap L ∧ FrameEnd s o t L cc ss) (T.setTop (mkF m pc Ls (.int z :: rest))) :=
  own_ret X (fun h => by rw [hret] at h; cases h) hlk (fun fs hr => retI X hx hret hd hr) eT hQ hc hs
theorem own_retN (X : Stand p l e R s m args below meth c T locs cells slots) (hx : p.tables.exec = Jvm.exec) {pc : Nat} {Ls : Array Slot} {z : Int32} {t : FieldType} {rest : List Value} (hret : meth.sig.returnType = some t) (ht : t = .boolean ∨ t = .byte ∨ t = .char ∨ t = .short) (hd : decode c.code pc = .ok (.ireturn, 1)) (hlk : meth.locks = false)
    {Q : Option Value → Heap → List Loc → Prop} {h : Heap} (eT : T.heap = h) (hQ : Q (some (.int (nar t z))) h locs) {cc ss : Nat} (hc : cells ≤ cc) (hs : slots ≤ ss) :
    own_Gs p e below (fun o t => ∃ v L, o = .returned v ∧ Q v t.heap L ∧ FrameEnd s o t L cc ss) (T.setTop (mkF m pc Ls (.int z :: rest))) :=
  own_ret X (fun h => by rw [hret] at h; cases h) hlk (fun fs hr => retN X hx hret ht hd hr) eT hQ hc hs
theorem own_retL (X : Stand p l e R s m args below meth c T locs cells slots) (hx : p.tables.exec = Jvm.exec) {pc : Nat} {Ls : Array Slot} {z : Int64} {rest : List Value} (hret : meth.sig.returnType = some .long) (hd : decode c.code pc = .ok (.lreturn, 1)) (hlk : meth.locks = false)
    {Q : Option Value → Heap → List Loc → Prop} {h : Heap} (eT : T.heap = h) (hQ : Q (some (.long z)) h locs) {cc ss : Nat} (hc : cells ≤ cc) (hs : slots ≤ ss) :
    own_Gs p e below (fun o t => ∃ v L, o = .returned v ∧ Q v t.heap L ∧ FrameEnd s o t L cc ss) (T.setTop (mkF m pc Ls (.long z :: rest))) :=
  own_ret X (fun h => by rw [hret] at h; cases h) hlk (fun fs hr => retOut X hx hret rfl (Or.inr (Or.inl ⟨rfl, rfl, z, rfl⟩)) hd hr) eT hQ hc hs
theorem own_retA (X : Stand p l e R s m args below meth c T locs cells slots) (hx : p.tables.exec = Jvm.exec) {pc : Nat} {Ls : Array Slot} {z : Value} {t : FieldType} {rest : List Value} (hret : meth.sig.returnType = some t) (ht : t.isReference = true) (hz : z.isRef = true) (hd : decode c.code pc = .ok (.areturn, 1)) (hlk : meth.locks = false)
    {Q : Option Value → Heap → List Loc → Prop} {h : Heap} (eT : T.heap = h) (hQ : Q (some z) h locs) {cc ss : Nat} (hc : cells ≤ cc) (hs : slots ≤ ss) :
    own_Gs p e below (fun o t => ∃ v L, o = .returned v ∧ Q v t.heap L ∧ FrameEnd s o t L cc ss) (T.setTop (mkF m pc Ls (z :: rest))) :=
  own_ret X (fun h => by rw [hret] at h; cases h) hlk (fun fs hr => retOut X hx hret (by cases t <;> first | rfl | (cases z <;> first | rfl | (simp [Value.isRef] at hz) | (simp [FieldType.isReference] at ht))) (Or.inr (Or.inr (Or.inr (Or.inr ⟨rfl, ht, hz⟩)))) hd hr) eT hQ hc hs
theorem own_retV (X : Stand p l e R s m args below meth c T locs cells slots) (hx : p.tables.exec = Jvm.exec) {pc : Nat} {Ls : Array Slot} (hret : meth.sig.returnType = none) (hd : decode c.code pc = .ok (.return_, 1)) (hlk : meth.locks = false)
    {Q : Option Value → Heap → List Loc → Prop} {h : Heap} (eT : T.heap = h) (hQ : Q none h locs) {cc ss : Nat} (hc : cells ≤ cc) (hs : slots ≤ ss) :
    own_Gs p e below (fun o t => ∃ v L, o = .returned v ∧ Q v t.heap L ∧ FrameEnd s o t L cc ss) (T.setTop (mkF m pc Ls [])) :=
  own_ret X (fun _ => rfl) hlk (fun fs hr => X.returnOut hx hret hd hr) eT hQ hc hs
theorem own_retNW {vm0 : Vm} {k0 : Nat} (X : Stand p l e R (s.setVm vm0) m args below meth c T locs cells slots) (hS : s.Since vm0 k0) {h : Heap} (hk : k0 ≤ h.size) (hx : p.tables.exec = Jvm.exec) {pc : Nat} {Ls : Array Slot} {z : Int32} {t : FieldType} {rest : List Value} (hret : meth.sig.returnType = some t) (ht : t = .boolean ∨ t = .byte ∨ t = .char ∨ t = .short) (hd : decode c.code pc = .ok (.ireturn, 1)) (hlk : meth.locks = false)
    {Q : Option Value → Heap → List Loc → Prop} (eT : T.heap = h) (hQ : Q (some (.int (nar t z))) h locs) {cc ss : Nat} (hc : cells ≤ cc) (hs : slots ≤ ss) :
    own_Gs p e below (fun o t => ∃ v L, o = .returned v ∧ Q v t.heap L ∧ ReturnedEndW s o t L cc ss) (T.setTop (mkF m pc Ls (.int z :: rest))) := by
  subst eT
  obtain ⟨fs, hr, hrun, hended, h1, h2, h3, h4⟩ := X.leaveW hS hk (v := some (.int (nar t z))) (fun h => by rw [hret] at h; cases h) hlk
  exact ⟨_, _, retN X hx hret ht hd hr, hrun, hended, _, _, rfl, hQ, h1, h2, h3, h4.mono hc hs⟩
-- steps
theorem own_iloadN {Φ : Outcome → State → Prop} (X : Stand p l e R s m args below meth c T locs cells slots) (hx : p.tables.exec = Jvm.exec) {pc : Nat} (pc' : Nat) {Ls : Array Slot} {S : List Value} {k : Fin 4} {v : Int32} (hd : decode c.code pc = .ok (.iload_n k, 1)) (hl : Ls[k.val]? = some (.val (.int v))) (h : own_Gs p e below Φ (T.setTop (mkF m pc' Ls (.int v :: S)))) (hp : pc + 1 = pc' := by rfl) : own_Gs p e below Φ (T.setTop (mkF m pc Ls (S))) := by
  subst hp; exact own_st (fun t k => XS.iloadN X.here hx rfl hd hl k) h
theorem own_iload {Φ : Outcome → State → Prop} (X : Stand p l e R s m args below meth c T locs cells slots) (hx : p.tables.exec = Jvm.exec) {pc : Nat} (pc' : Nat) {Ls : Array Slot} {S : List Value} {k : Nat} {v : Int32} (hd : decode c.code pc = .ok (.iload k, 2)) (hl : Ls[k]? = some (.val (.int v))) (h : own_Gs p e below Φ (T.setTop (mkF m pc' Ls (.int v :: S)))) (hp : pc + 2 = pc' := by rfl) : own_Gs p e below Φ (T.setTop (mkF m pc Ls (S))) := by
  subst hp; exact own_st (fun t k => XS.iload X.here hx rfl hd hl k) h
theorem own_lloadN {Φ : Outcome → State → Prop} (X : Stand p l e R s m args below meth c T locs cells slots) (hx : p.tables.exec = Jvm.exec) {pc : Nat} (pc' : Nat) {Ls : Array Slot} {S : List Value} {k : Fin 4} {v : Int64} (hd : decode c.code pc = .ok (.lload_n k, 1)) (hl : Ls[k.val]? = some (.val (.long v))) (h : own_Gs p e below Φ (T.setTop (mkF m pc' Ls (.long v :: S)))) (hp : pc + 1 = pc' := by rfl) : own_Gs p e below Φ (T.setTop (mkF m pc Ls (S))) := by
  subst hp; exact own_st (fun t k => XS.lloadN X.here hx rfl hd hl k) h
theorem own_lload {Φ : Outcome → State → Prop} (X : Stand p l e R s m args below meth c T locs cells slots) (hx : p.tables.exec = Jvm.exec) {pc : Nat} (pc' : Nat) {Ls : Array Slot} {S : List Value} {k : Nat} {v : Int64} (hd : decode c.code pc = .ok (.lload k, 2)) (hl : Ls[k]? = some (.val (.long v))) (h : own_Gs p e below Φ (T.setTop (mkF m pc' Ls (.long v :: S)))) (hp : pc + 2 = pc' := by rfl) : own_Gs p e below Φ (T.setTop (mkF m pc Ls (S))) := by
  subst hp; exact own_st (fun t k => XS.lload X.here hx rfl hd hl k) h
theorem own_aloadN {Φ : Outcome → State → Prop} (X : Stand p l e R s m args below meth c T locs cells slots) (hx : p.tables.exec = Jvm.exec) {pc : Nat} (pc' : Nat) {Ls : Array Slot} {S : List Value} {k : Fin 4} {v : Value} (hd : decode c.code pc = .ok (.aload_n k, 1)) (hl : Ls[k.val]? = some (.val v)) (hv : v.isRef = true) (h : own_Gs p e below Φ (T.setTop (mkF m pc' Ls (v :: S)))) (hp : pc + 1 = pc' := by rfl) : own_Gs p e below Φ (T.setTop (mkF m pc Ls (S))) := by
  subst hp; exact own_st (fun t k => XS.aloadN X.here hx rfl hd hl hv k) h
theorem own_aload {Φ : Outcome → State → Prop} (X : Stand p l e R s m args below meth c T locs cells slots) (hx : p.tables.exec = Jvm.exec) {pc : Nat} (pc' : Nat) {Ls : Array Slot} {S : List Value} {k : Nat} {v : Value} (hd : decode c.code pc = .ok (.aload k, 2)) (hl : Ls[k]? = some (.val v)) (hv : v.isRef = true) (h : own_Gs p e below Φ (T.setTop (mkF m pc' Ls (v :: S)))) (hp : pc + 2 = pc' := by rfl) : own_Gs p e below Φ (T.setTop (mkF m pc Ls (S))) := by
  subst hp; exact own_st (fun t k => XS.aload X.here hx rfl hd hl hv k) h
theorem own_istoreN {Φ : Outcome → State → Prop} (X : Stand p l e R s m args below meth c T locs cells slots) (hx : p.tables.exec = Jvm.exec) {pc : Nat} (pc' : Nat) {Ls : Array Slot} {S : List Value} {k : Fin 4} {v : Int32} (l' : Array Slot) (hd : decode c.code pc = .ok (.istore_n k, 1)) (hl : storeLocals Ls k.val (.int v) = some l') (h : own_Gs p e below Φ (T.setTop (mkF m pc' l' (S)))) (hp : pc + 1 = pc' := by rfl) : own_Gs p e below Φ (T.setTop (mkF m pc Ls (.int v :: S))) := by
  subst hp; exact own_st (fun t k => XS.istoreN X.here hx rfl hd rfl hl k) h
theorem own_istore {Φ : Outcome → State → Prop} (X : Stand p l e R s m args below meth c T locs cells slots) (hx : p.tables.exec = Jvm.exec) {pc : Nat} (pc' : Nat) {Ls : Array Slot} {S : List Value} {k : Nat} {v : Int32} (l' : Array Slot) (hd : decode c.code pc = .ok (.istore k, 2)) (hl : storeLocals Ls k (.int v) = some l') (h : own_Gs p e below Φ (T.setTop (mkF m pc' l' (S)))) (hp : pc + 2 = pc' := by rfl) : own_Gs p e below Φ (T.setTop (mkF m pc Ls (.int v :: S))) := by
  subst hp; exact own_st (fun t k => XS.istore X.here hx rfl hd rfl hl k) h
theorem own_lstoreN {Φ : Outcome → State → Prop} (X : Stand p l e R s m args below meth c T locs cells slots) (hx : p.tables.exec = Jvm.exec) {pc : Nat} (pc' : Nat) {Ls : Array Slot} {S : List Value} {k : Fin 4} {v : Int64} (l' : Array Slot) (hd : decode c.code pc = .ok (.lstore_n k, 1)) (hl : storeLocals Ls k.val (.long v) = some l') (h : own_Gs p e below Φ (T.setTop (mkF m pc' l' (S)))) (hp : pc + 1 = pc' := by rfl) : own_Gs p e below Φ (T.setTop (mkF m pc Ls (.long v :: S))) := by
  subst hp; exact own_st (fun t k => XS.lstoreN X.here hx rfl hd rfl hl k) h
theorem own_lstore {Φ : Outcome → State → Prop} (X : Stand p l e R s m args below meth c T locs cells slots) (hx : p.tables.exec = Jvm.exec) {pc : Nat} (pc' : Nat) {Ls : Array Slot} {S : List Value} {k : Nat} {v : Int64} (l' : Array Slot) (hd : decode c.code pc = .ok (.lstore k, 2)) (hl : storeLocals Ls k (.long v) = some l') (h : own_Gs p e below Φ (T.setTop (mkF m pc' l' (S)))) (hp : pc + 2 = pc' := by rfl) : own_Gs p e below Φ (T.setTop (mkF m pc Ls (.long v :: S))) := by
  subst hp; exact own_st (fun t k => XS.lstore X.here hx rfl hd rfl hl k) h
theorem own_astoreN {Φ : Outcome → State → Prop} (X : Stand p l e R s m args below meth c T locs cells slots) (hx : p.tables.exec = Jvm.exec) {pc : Nat} (pc' : Nat) {Ls : Array Slot} {S : List Value} {k : Fin 4} {v : Value} (l' : Array Slot) (hd : decode c.code pc = .ok (.astore_n k, 1)) (hv : v.isRef = true) (hl : storeLocals Ls k.val v = some l') (h : own_Gs p e below Φ (T.setTop (mkF m pc' l' (S)))) (hp : pc + 1 = pc' := by rfl) : own_Gs p e below Φ (T.setTop (mkF m pc Ls (v :: S))) := by
  subst hp; exact own_st (fun t k => XS.astoreN X.here hx rfl hd rfl hv hl k) h
theorem own_astore {Φ : Outcome → State → Prop} (X : Stand p l e R s m args below meth c T locs cells slots) (hx : p.tables.exec = Jvm.exec) {pc : Nat} (pc' : Nat) {Ls : Array Slot} {S : List Value} {k : Nat} {v : Value} (l' : Array Slot) (hd : decode c.code pc = .ok (.astore k, 2)) (hv : v.isRef = true) (hl : storeLocals Ls k v = some l') (h : own_Gs p e below Φ (T.setTop (mkF m pc' l' (S)))) (hp : pc + 2 = pc' := by rfl) : own_Gs p e below Φ (T.setTop (mkF m pc Ls (v :: S))) := by
  subst hp; exact own_st (fun t k => XS.astore X.here hx rfl hd rfl hv hl k) h
theorem own_iconst {Φ : Outcome → State → Prop} (X : Stand p l e R s m args below meth c T locs cells slots) (hx : p.tables.exec = Jvm.exec) {pc : Nat} (pc' : Nat) {Ls : Array Slot} {S : List Value} {i : Int} (z : Int32) (hd : decode c.code pc = .ok (.iconst i, 1)) (hz : Int32.ofInt i = z) (h : own_Gs p e below Φ (T.setTop (mkF m pc' Ls (.int z :: S)))) (hp : pc + 1 = pc' := by rfl) : own_Gs p e below Φ (T.setTop (mkF m pc Ls (S))) := by
  subst hp; exact own_st (fun t k => XS.iconst X.here hx rfl hd (hz ▸ k)) h
theorem own_bipush {Φ : Outcome → State → Prop} (X : Stand p l e R s m args below meth c T locs cells slots) (hx : p.tables.exec = Jvm.exec) {pc : Nat} (pc' : Nat) {Ls : Array Slot} {S : List Value} {i : Int} (z : Int32) (hd : decode c.code pc = .ok (.bipush i, 2)) (hz : (Int8.ofInt i).toInt32 = z) (h : own_Gs p e below Φ (T.setTop (mkF m pc' Ls (.int z :: S)))) (hp : pc + 2 = pc' := by rfl) : own_Gs p e below Φ (T.setTop (mkF m pc Ls (S))) := by
  subst hp; exact own_st (fun t k => XS.bipush X.here hx rfl hd (hz ▸ k)) h
theorem own_sipush {Φ : Outcome → State → Prop} (X : Stand p l e R s m args below meth c T locs cells slots) (hx : p.tables.exec = Jvm.exec) {pc : Nat} (pc' : Nat) {Ls : Array Slot} {S : List Value} {i : Int} (z : Int32) (hd : decode c.code pc = .ok (.sipush i, 3)) (hz : (Int16.ofInt i).toInt32 = z) (h : own_Gs p e below Φ (T.setTop (mkF m pc' Ls (.int z :: S)))) (hp : pc + 3 = pc' := by rfl) : own_Gs p e below Φ (T.setTop (mkF m pc Ls (S))) := by
  subst hp; exact own_st (fun t k => XS.sipush X.here hx rfl hd (hz ▸ k)) h
theorem own_lconst {Φ : Outcome → State → Prop} (X : Stand p l e R s m args below meth c T locs cells slots) (hx : p.tables.exec = Jvm.exec) {pc : Nat} (pc' : Nat) {Ls : Array Slot} {S : List Value} {i : Fin 2} (z : Int64) (hd : decode c.code pc = .ok (.lconst i, 1)) (hz : Int64.ofNat i = z) (h : own_Gs p e below Φ (T.setTop (mkF m pc' Ls (.long z :: S)))) (hp : pc + 1 = pc' := by rfl) : own_Gs p e below Φ (T.setTop (mkF m pc Ls (S))) := by
  subst hp; exact own_st (fun t k => XS.lconst X.here hx rfl hd (hz ▸ k)) h
theorem own_aconstNull {Φ : Outcome → State → Prop} (X : Stand p l e R s m args below meth c T locs cells slots) (hx : p.tables.exec = Jvm.exec) {pc : Nat} (pc' : Nat) {Ls : Array Slot} {S : List Value}  (hd : decode c.code pc = .ok (.aconst_null, 1)) (h : own_Gs p e below Φ (T.setTop (mkF m pc' Ls (.null :: S)))) (hp : pc + 1 = pc' := by rfl) : own_Gs p e below Φ (T.setTop (mkF m pc Ls (S))) := by
  subst hp; exact own_st (fun t k => XS.aconstNull X.here hx rfl hd k) h
theorem own_iadd {Φ : Outcome → State → Prop} (X : Stand p l e R s m args below meth c T locs cells slots) (hx : p.tables.exec = Jvm.exec) {pc : Nat} (pc' : Nat) {Ls : Array Slot} {S : List Value} {x y : Int32} (hd : decode c.code pc = .ok (.iadd, 1)) (h : own_Gs p e below Φ (T.setTop (mkF m pc' Ls (.int (x + y) :: S)))) (hp : pc + 1 = pc' := by rfl) : own_Gs p e below Φ (T.setTop (mkF m pc Ls (.int y :: .int x :: S))) := by
  subst hp; exact own_st (fun t k => XS.iadd X.here hx rfl hd rfl k) h
theorem own_ladd {Φ : Outcome → State → Prop} (X : Stand p l e R s m args below meth c T locs cells slots) (hx : p.tables.exec = Jvm.exec) {pc : Nat} (pc' : Nat) {Ls : Array Slot} {S : List Value} {x y : Int64} (hd : decode c.code pc = .ok (.ladd, 1)) (h : own_Gs p e below Φ (T.setTop (mkF m pc' Ls (.long (x + y) :: S)))) (hp : pc + 1 = pc' := by rfl) : own_Gs p e below Φ (T.setTop (mkF m pc Ls (.long y :: .long x :: S))) := by
  subst hp; exact own_st (fun t k => XS.ladd X.here hx rfl hd rfl k) h
theorem own_isub {Φ : Outcome → State → Prop} (X : Stand p l e R s m args below meth c T locs cells slots) (hx : p.tables.exec = Jvm.exec) {pc : Nat} (pc' : Nat) {Ls : Array Slot} {S : List Value} {x y : Int32} (hd : decode c.code pc = .ok (.isub, 1)) (h : own_Gs p e below Φ (T.setTop (mkF m pc' Ls (.int (x - y) :: S)))) (hp : pc + 1 = pc' := by rfl) : own_Gs p e below Φ (T.setTop (mkF m pc Ls (.int y :: .int x :: S))) := by
  subst hp; exact own_st (fun t k => XS.isub X.here hx rfl hd rfl k) h
theorem own_lsub {Φ : Outcome → State → Prop} (X : Stand p l e R s m args below meth c T locs cells slots) (hx : p.tables.exec = Jvm.exec) {pc : Nat} (pc' : Nat) {Ls : Array Slot} {S : List Value} {x y : Int64} (hd : decode c.code pc = .ok (.lsub, 1)) (h : own_Gs p e below Φ (T.setTop (mkF m pc' Ls (.long (x - y) :: S)))) (hp : pc + 1 = pc' := by rfl) : own_Gs p e below Φ (T.setTop (mkF m pc Ls (.long y :: .long x :: S))) := by
  subst hp; exact own_st (fun t k => XS.lsub X.here hx rfl hd rfl k) h
theorem own_imul {Φ : Outcome → State → Prop} (X : Stand p l e R s m args below meth c T locs cells slots) (hx : p.tables.exec = Jvm.exec) {pc : Nat} (pc' : Nat) {Ls : Array Slot} {S : List Value} {x y : Int32} (hd : decode c.code pc = .ok (.imul, 1)) (h : own_Gs p e below Φ (T.setTop (mkF m pc' Ls (.int (x * y) :: S)))) (hp : pc + 1 = pc' := by rfl) : own_Gs p e below Φ (T.setTop (mkF m pc Ls (.int y :: .int x :: S))) := by
  subst hp; exact own_st (fun t k => XS.imul X.here hx rfl hd rfl k) h
theorem own_lmul {Φ : Outcome → State → Prop} (X : Stand p l e R s m args below meth c T locs cells slots) (hx : p.tables.exec = Jvm.exec) {pc : Nat} (pc' : Nat) {Ls : Array Slot} {S : List Value} {x y : Int64} (hd : decode c.code pc = .ok (.lmul, 1)) (h : own_Gs p e below Φ (T.setTop (mkF m pc' Ls (.long (x * y) :: S)))) (hp : pc + 1 = pc' := by rfl) : own_Gs p e below Φ (T.setTop (mkF m pc Ls (.long y :: .long x :: S))) := by
  subst hp; exact own_st (fun t k => XS.lmul X.here hx rfl hd rfl k) h
theorem own_iand {Φ : Outcome → State → Prop} (X : Stand p l e R s m args below meth c T locs cells slots) (hx : p.tables.exec = Jvm.exec) {pc : Nat} (pc' : Nat) {Ls : Array Slot} {S : List Value} {x y : Int32} (hd : decode c.code pc = .ok (.iand, 1)) (h : own_Gs p e below Φ (T.setTop (mkF m pc' Ls (.int (x &&& y) :: S)))) (hp : pc + 1 = pc' := by rfl) : own_Gs p e below Φ (T.setTop (mkF m pc Ls (.int y :: .int x :: S))) := by
  subst hp; exact own_st (fun t k => XS.iand X.here hx rfl hd rfl k) h
theorem own_land {Φ : Outcome → State → Prop} (X : Stand p l e R s m args below meth c T locs cells slots) (hx : p.tables.exec = Jvm.exec) {pc : Nat} (pc' : Nat) {Ls : Array Slot} {S : List Value} {x y : Int64} (hd : decode c.code pc = .ok (.land, 1)) (h : own_Gs p e below Φ (T.setTop (mkF m pc' Ls (.long (x &&& y) :: S)))) (hp : pc + 1 = pc' := by rfl) : own_Gs p e below Φ (T.setTop (mkF m pc Ls (.long y :: .long x :: S))) := by
  subst hp; exact own_st (fun t k => XS.land X.here hx rfl hd rfl k) h
theorem own_ior {Φ : Outcome → State → Prop} (X : Stand p l e R s m args below meth c T locs cells slots) (hx : p.tables.exec = Jvm.exec) {pc : Nat} (pc' : Nat) {Ls : Array Slot} {S : List Value} {x y : Int32} (hd : decode c.code pc = .ok (.ior, 1)) (h : own_Gs p e below Φ (T.setTop (mkF m pc' Ls (.int (x ||| y) :: S)))) (hp : pc + 1 = pc' := by rfl) : own_Gs p e below Φ (T.setTop (mkF m pc Ls (.int y :: .int x :: S))) := by
  subst hp; exact own_st (fun t k => XS.ior X.here hx rfl hd rfl k) h
theorem own_lor {Φ : Outcome → State → Prop} (X : Stand p l e R s m args below meth c T locs cells slots) (hx : p.tables.exec = Jvm.exec) {pc : Nat} (pc' : Nat) {Ls : Array Slot} {S : List Value} {x y : Int64} (hd : decode c.code pc = .ok (.lor, 1)) (h : own_Gs p e below Φ (T.setTop (mkF m pc' Ls (.long (x ||| y) :: S)))) (hp : pc + 1 = pc' := by rfl) : own_Gs p e below Φ (T.setTop (mkF m pc Ls (.long y :: .long x :: S))) := by
  subst hp; exact own_st (fun t k => XS.lor X.here hx rfl hd rfl k) h
theorem own_ixor {Φ : Outcome → State → Prop} (X : Stand p l e R s m args below meth c T locs cells slots) (hx : p.tables.exec = Jvm.exec) {pc : Nat} (pc' : Nat) {Ls : Array Slot} {S : List Value} {x y : Int32} (hd : decode c.code pc = .ok (.ixor, 1)) (h : own_Gs p e below Φ (T.setTop (mkF m pc' Ls (.int (x ^^^ y) :: S)))) (hp : pc + 1 = pc' := by rfl) : own_Gs p e below Φ (T.setTop (mkF m pc Ls (.int y :: .int x :: S))) := by
  subst hp; exact own_st (fun t k => XS.ixor X.here hx rfl hd rfl k) h
theorem own_lxor {Φ : Outcome → State → Prop} (X : Stand p l e R s m args below meth c T locs cells slots) (hx : p.tables.exec = Jvm.exec) {pc : Nat} (pc' : Nat) {Ls : Array Slot} {S : List Value} {x y : Int64} (hd : decode c.code pc = .ok (.lxor, 1)) (h : own_Gs p e below Φ (T.setTop (mkF m pc' Ls (.long (x ^^^ y) :: S)))) (hp : pc + 1 = pc' := by rfl) : own_Gs p e below Φ (T.setTop (mkF m pc Ls (.long y :: .long x :: S))) := by
  subst hp; exact own_st (fun t k => XS.lxor X.here hx rfl hd rfl k) h
theorem own_idiv {Φ : Outcome → State → Prop} (X : Stand p l e R s m args below meth c T locs cells slots) (hx : p.tables.exec = Jvm.exec) {pc : Nat} (pc' : Nat) {Ls : Array Slot} {S : List Value} {x y : Int32} (hd : decode c.code pc = .ok (.idiv, 1)) (hy : y ≠ 0) (h : own_Gs p e below Φ (T.setTop (mkF m pc' Ls (.int (x / y) :: S)))) (hp : pc + 1 = pc' := by rfl) : own_Gs p e below Φ (T.setTop (mkF m pc Ls (.int y :: .int x :: S))) := by
  subst hp; exact own_st (fun t k => XS.idiv X.here hx rfl hd rfl hy k) h
theorem own_ldiv {Φ : Outcome → State → Prop} (X : Stand p l e R s m args below meth c T locs cells slots) (hx : p.tables.exec = Jvm.exec) {pc : Nat} (pc' : Nat) {Ls : Array Slot} {S : List Value} {x y : Int64} (hd : decode c.code pc = .ok (.ldiv, 1)) (hy : y ≠ 0) (h : own_Gs p e below Φ (T.setTop (mkF m pc' Ls (.long (x / y) :: S)))) (hp : pc + 1 = pc' := by rfl) : own_Gs p e below Φ (T.setTop (mkF m pc Ls (.long y :: .long x :: S))) := by
  subst hp; exact own_st (fun t k => XS.ldiv X.here hx rfl hd rfl hy k) h
theorem own_irem {Φ : Outcome → State → Prop} (X : Stand p l e R s m args below meth c T locs cells slots) (hx : p.tables.exec = Jvm.exec) {pc : Nat} (pc' : Nat) {Ls : Array Slot} {S : List Value} {x y : Int32} (hd : decode c.code pc = .ok (.irem, 1)) (hy : y ≠ 0) (h : own_Gs p e below Φ (T.setTop (mkF m pc' Ls (.int (x % y) :: S)))) (hp : pc + 1 = pc' := by rfl) : own_Gs p e below Φ (T.setTop (mkF m pc Ls (.int y :: .int x :: S))) := by
  subst hp; exact own_st (fun t k => iremM X hx rfl hd rfl hy k) h
theorem own_lrem {Φ : Outcome → State → Prop} (X : Stand p l e R s m args below meth c T locs cells slots) (hx : p.tables.exec = Jvm.exec) {pc : Nat} (pc' : Nat) {Ls : Array Slot} {S : List Value} {x y : Int64} (hd : decode c.code pc = .ok (.lrem, 1)) (hy : y ≠ 0) (h : own_Gs p e below Φ (T.setTop (mkF m pc' Ls (.long (x % y) :: S)))) (hp : pc + 1 = pc' := by rfl) : own_Gs p e below Φ (T.setTop (mkF m pc Ls (.long y :: .long x :: S))) := by
  subst hp; exact own_st (fun t k => XS.lrem X.here hx rfl hd rfl hy (by rw [lrem_mod]; exact k)) h
theorem own_ishl {Φ : Outcome → State → Prop} (X : Stand p l e R s m args below meth c T locs cells slots) (hx : p.tables.exec = Jvm.exec) {pc : Nat} (pc' : Nat) {Ls : Array Slot} {S : List Value} {x y : Int32} (hd : decode c.code pc = .ok (.ishl, 1)) (h : own_Gs p e below Φ (T.setTop (mkF m pc' Ls (.int (x <<< (y &&& 31)) :: S)))) (hp : pc + 1 = pc' := by rfl) : own_Gs p e below Φ (T.setTop (mkF m pc Ls (.int y :: .int x :: S))) := by
  subst hp; exact own_st (fun t k => XS.ishl X.here hx rfl hd rfl k) h
theorem own_ishr {Φ : Outcome → State → Prop} (X : Stand p l e R s m args below meth c T locs cells slots) (hx : p.tables.exec = Jvm.exec) {pc : Nat} (pc' : Nat) {Ls : Array Slot} {S : List Value} {x y : Int32} (hd : decode c.code pc = .ok (.ishr, 1)) (h : own_Gs p e below Φ (T.setTop (mkF m pc' Ls (.int (x >>> (y &&& 31)) :: S)))) (hp : pc + 1 = pc' := by rfl) : own_Gs p e below Φ (T.setTop (mkF m pc Ls (.int y :: .int x :: S))) := by
  subst hp; exact own_st (fun t k => XS.ishr X.here hx rfl hd rfl k) h
theorem own_iushr {Φ : Outcome → State → Prop} (X : Stand p l e R s m args below meth c T locs cells slots) (hx : p.tables.exec = Jvm.exec) {pc : Nat} (pc' : Nat) {Ls : Array Slot} {S : List Value} {x y : Int32} (hd : decode c.code pc = .ok (.iushr, 1)) (h : own_Gs p e below Φ (T.setTop (mkF m pc' Ls (.int ((x.toUInt32 >>> (y &&& 31).toUInt32).toInt32) :: S)))) (hp : pc + 1 = pc' := by rfl) : own_Gs p e below Φ (T.setTop (mkF m pc Ls (.int y :: .int x :: S))) := by
  subst hp; exact own_st (fun t k => XS.iushr X.here hx rfl hd rfl k) h
theorem own_lshl {Φ : Outcome → State → Prop} (X : Stand p l e R s m args below meth c T locs cells slots) (hx : p.tables.exec = Jvm.exec) {pc : Nat} (pc' : Nat) {Ls : Array Slot} {S : List Value} {x : Int64} {y : Int32} (hd : decode c.code pc = .ok (.lshl, 1)) (h : own_Gs p e below Φ (T.setTop (mkF m pc' Ls (.long (x <<< (y &&& 0x3f).toInt64) :: S)))) (hp : pc + 1 = pc' := by rfl) : own_Gs p e below Φ (T.setTop (mkF m pc Ls (.int y :: .long x :: S))) := by
  subst hp; exact own_st (fun t k => XS.lshl X.here hx rfl hd rfl k) h
theorem own_lshr {Φ : Outcome → State → Prop} (X : Stand p l e R s m args below meth c T locs cells slots) (hx : p.tables.exec = Jvm.exec) {pc : Nat} (pc' : Nat) {Ls : Array Slot} {S : List Value} {x : Int64} {y : Int32} (hd : decode c.code pc = .ok (.lshr, 1)) (h : own_Gs p e below Φ (T.setTop (mkF m pc' Ls (.long (x >>> (y &&& 0x3f).toInt64) :: S)))) (hp : pc + 1 = pc' := by rfl) : own_Gs p e below Φ (T.setTop (mkF m pc Ls (.int y :: .long x :: S))) := by
  subst hp; exact own_st (fun t k => XS.lshr X.here hx rfl hd rfl k) h
theorem own_lushr {Φ : Outcome → State → Prop} (X : Stand p l e R s m args below meth c T locs cells slots) (hx : p.tables.exec = Jvm.exec) {pc : Nat} (pc' : Nat) {Ls : Array Slot} {S : List Value} {x : Int64} {y : Int32} (hd : decode c.code pc = .ok (.lushr, 1)) (h : own_Gs p e below Φ (T.setTop (mkF m pc' Ls (.long ((x.toUInt64 >>> (y &&& 0x3f).toInt64.toUInt64).toInt64) :: S)))) (hp : pc + 1 = pc' := by rfl) : own_Gs p e below Φ (T.setTop (mkF m pc Ls (.int y :: .long x :: S))) := by
  subst hp; exact own_st (fun t k => XS.lushr X.here hx rfl hd rfl k) h
theorem own_ineg {Φ : Outcome → State → Prop} (X : Stand p l e R s m args below meth c T locs cells slots) (hx : p.tables.exec = Jvm.exec) {pc : Nat} (pc' : Nat) {Ls : Array Slot} {S : List Value} {x : Int32} (hd : decode c.code pc = .ok (.ineg, 1)) (h : own_Gs p e below Φ (T.setTop (mkF m pc' Ls (.int (-x) :: S)))) (hp : pc + 1 = pc' := by rfl) : own_Gs p e below Φ (T.setTop (mkF m pc Ls (.int x :: S))) := by
  subst hp; exact own_st (fun t k => XS.ineg X.here hx rfl hd rfl k) h
theorem own_lneg {Φ : Outcome → State → Prop} (X : Stand p l e R s m args below meth c T locs cells slots) (hx : p.tables.exec = Jvm.exec) {pc : Nat} (pc' : Nat) {Ls : Array Slot} {S : List Value} {x : Int64} (hd : decode c.code pc = .ok (.lneg, 1)) (h : own_Gs p e below Φ (T.setTop (mkF m pc' Ls (.long (-x) :: S)))) (hp : pc + 1 = pc' := by rfl) : own_Gs p e below Φ (T.setTop (mkF m pc Ls (.long x :: S))) := by
  subst hp; exact own_st (fun t k => XS.lneg X.here hx rfl hd rfl k) h
theorem own_i2l {Φ : Outcome → State → Prop} (X : Stand p l e R s m args below meth c T locs cells slots) (hx : p.tables.exec = Jvm.exec) {pc : Nat} (pc' : Nat) {Ls : Array Slot} {S : List Value} {x : Int32} (hd : decode c.code pc = .ok (.i2l, 1)) (h : own_Gs p e below Φ (T.setTop (mkF m pc' Ls (.long (x.toInt64) :: S)))) (hp : pc + 1 = pc' := by rfl) : own_Gs p e below Φ (T.setTop (mkF m pc Ls (.int x :: S))) := by
  subst hp; exact own_st (fun t k => XS.i2l X.here hx rfl hd rfl k) h
theorem own_l2i {Φ : Outcome → State → Prop} (X : Stand p l e R s m args below meth c T locs cells slots) (hx : p.tables.exec = Jvm.exec) {pc : Nat} (pc' : Nat) {Ls : Array Slot} {S : List Value} {x : Int64} (hd : decode c.code pc = .ok (.l2i, 1)) (h : own_Gs p e below Φ (T.setTop (mkF m pc' Ls (.int (x.toInt32) :: S)))) (hp : pc + 1 = pc' := by rfl) : own_Gs p e below Φ (T.setTop (mkF m pc Ls (.long x :: S))) := by
  subst hp; exact own_st (fun t k => XS.l2i X.here hx rfl hd rfl k) h
theorem own_i2b {Φ : Outcome → State → Prop} (X : Stand p l e R s m args below meth c T locs cells slots) (hx : p.tables.exec = Jvm.exec) {pc : Nat} (pc' : Nat) {Ls : Array Slot} {S : List Value} {x : Int32} (hd : decode c.code pc = .ok (.i2b, 1)) (h : own_Gs p e below Φ (T.setTop (mkF m pc' Ls (.int (x.toInt8.toInt32) :: S)))) (hp : pc + 1 = pc' := by rfl) : own_Gs p e below Φ (T.setTop (mkF m pc Ls (.int x :: S))) := by
  subst hp; exact own_st (fun t k => XS.i2b X.here hx rfl hd rfl k) h
theorem own_i2s {Φ : Outcome → State → Prop} (X : Stand p l e R s m args below meth c T locs cells slots) (hx : p.tables.exec = Jvm.exec) {pc : Nat} (pc' : Nat) {Ls : Array Slot} {S : List Value} {x : Int32} (hd : decode c.code pc = .ok (.i2s, 1)) (h : own_Gs p e below Φ (T.setTop (mkF m pc' Ls (.int (x.toInt16.toInt32) :: S)))) (hp : pc + 1 = pc' := by rfl) : own_Gs p e below Φ (T.setTop (mkF m pc Ls (.int x :: S))) := by
  subst hp; exact own_st (fun t k => XS.i2s X.here hx rfl hd rfl k) h
theorem own_i2c {Φ : Outcome → State → Prop} (X : Stand p l e R s m args below meth c T locs cells slots) (hx : p.tables.exec = Jvm.exec) {pc : Nat} (pc' : Nat) {Ls : Array Slot} {S : List Value} {x : Int32} (hd : decode c.code pc = .ok (.i2c, 1)) (h : own_Gs p e below Φ (T.setTop (mkF m pc' Ls (.int (x.toUInt32.toUInt16.toUInt32.toInt32) :: S)))) (hp : pc + 1 = pc' := by rfl) : own_Gs p e below Φ (T.setTop (mkF m pc Ls (.int x :: S))) := by
  subst hp; exact own_st (fun t k => XS.i2c X.here hx rfl hd rfl k) h
theorem own_lcmp {Φ : Outcome → State → Prop} (X : Stand p l e R s m args below meth c T locs cells slots) (hx : p.tables.exec = Jvm.exec) {pc : Nat} (pc' : Nat) {Ls : Array Slot} {S : List Value} {x y : Int64} (hd : decode c.code pc = .ok (.lcmp, 1)) (h : own_Gs p e below Φ (T.setTop (mkF m pc' Ls (.int (lcmpW x y) :: S)))) (hp : pc + 1 = pc' := by rfl) : own_Gs p e below Φ (T.setTop (mkF m pc Ls (.long y :: .long x :: S))) := by
  subst hp; exact own_st (fun t k => XS.lcmp X.here hx rfl hd rfl k) h
theorem own_iinc {Φ : Outcome → State → Prop} (X : Stand p l e R s m args below meth c T locs cells slots) (hx : p.tables.exec = Jvm.exec) {pc : Nat} (pc' : Nat) {Ls : Array Slot} {S : List Value} {i : Nat} {cst : Int} {x : Int32} (z : Int32) (l' : Array Slot) (hd : decode c.code pc = .ok (.iinc i cst, 3)) (hl : Ls[i]? = some (.val (.int x))) (hz : Int32.ofInt cst = z) (hl' : storeLocals Ls i (.int (x + z)) = some l') (h : own_Gs p e below Φ (T.setTop (mkF m pc' l' (S)))) (hp : pc + 3 = pc' := by rfl) : own_Gs p e below Φ (T.setTop (mkF m pc Ls (S))) := by
  subst hp; exact own_st (fun t k => XS.iinc X.here hx rfl hd hl (hz ▸ hl') k) h
theorem own_dup {Φ : Outcome → State → Prop} (X : Stand p l e R s m args below meth c T locs cells slots) (hx : p.tables.exec = Jvm.exec) {pc : Nat} (pc' : Nat) {Ls : Array Slot} {S : List Value} {v : Value} (hd : decode c.code pc = .ok (.dup, 1)) (hc : v.category = 1) (h : own_Gs p e below Φ (T.setTop (mkF m pc' Ls (v :: v :: S)))) (hp : pc + 1 = pc' := by rfl) : own_Gs p e below Φ (T.setTop (mkF m pc Ls (v :: S))) := by
  subst hp; exact own_st (fun t k => XS.dup X.here hx rfl hd rfl hc k) h
theorem own_pop {Φ : Outcome → State → Prop} (X : Stand p l e R s m args below meth c T locs cells slots) (hx : p.tables.exec = Jvm.exec) {pc : Nat} (pc' : Nat) {Ls : Array Slot} {S : List Value} {v : Value} (hd : decode c.code pc = .ok (.pop, 1)) (hc : v.category = 1) (h : own_Gs p e below Φ (T.setTop (mkF m pc' Ls (S)))) (hp : pc + 1 = pc' := by rfl) : own_Gs p e below Φ (T.setTop (mkF m pc Ls (v :: S))) := by
  subst hp; exact own_st (fun t k => XS.pop X.here hx rfl hd rfl hc k) h
theorem own_dupX1 {Φ : Outcome → State → Prop} (X : Stand p l e R s m args below meth c T locs cells slots) (hx : p.tables.exec = Jvm.exec) {pc : Nat} (pc' : Nat) {Ls : Array Slot} {S : List Value} {v w : Value} (hd : decode c.code pc = .ok (.dup_x1, 1)) (hc : v.category = 1) (hc' : w.category = 1) (h : own_Gs p e below Φ (T.setTop (mkF m pc' Ls (v :: w :: v :: S)))) (hp : pc + 1 = pc' := by rfl) : own_Gs p e below Φ (T.setTop (mkF m pc Ls (v :: w :: S))) := by
  subst hp; exact own_st (fun t k => XS.dupX1 X.here hx rfl hd rfl hc hc' k) h
theorem own_dup2 {Φ : Outcome → State → Prop} (X : Stand p l e R s m args below meth c T locs cells slots) (hx : p.tables.exec = Jvm.exec) {pc : Nat} (pc' : Nat) {Ls : Array Slot} {S : List Value} {v w : Value} (hd : decode c.code pc = .ok (.dup2, 1)) (hc : v.category = 1) (hc' : w.category = 1) (h : own_Gs p e below Φ (T.setTop (mkF m pc' Ls (v :: w :: v :: w :: S)))) (hp : pc + 1 = pc' := by rfl) : own_Gs p e below Φ (T.setTop (mkF m pc Ls (v :: w :: S))) := by
  subst hp; exact own_st (fun t k => Jvm.Free.XT.dup2 X.here hx rfl hd rfl hc hc' k) h
theorem own_dup2L {Φ : Outcome → State → Prop} (X : Stand p l e R s m args below meth c T locs cells slots) (hx : p.tables.exec = Jvm.exec) {pc : Nat} (pc' : Nat) {Ls : Array Slot} {S : List Value} {x : Int64} (hd : decode c.code pc = .ok (.dup2, 1)) (h : own_Gs p e below Φ (T.setTop (mkF m pc' Ls (.long x :: .long x :: S)))) (hp : pc + 1 = pc' := by rfl) : own_Gs p e below Φ (T.setTop (mkF m pc Ls (.long x :: S))) := by
  subst hp; exact own_st (fun t k => Jvm.Free.XT.dup2L X.here hx rfl hd rfl k) h
theorem own_goto {Φ : Outcome → State → Prop} (X : Stand p l e R s m args below meth c T locs cells slots) (hx : p.tables.exec = Jvm.exec) {pc : Nat} (pc' : Nat) {Ls : Array Slot} {S : List Value} {o : Int}  (hd : decode c.code pc = .ok (.goto o, 3)) (h : own_Gs p e below Φ (T.setTop (mkF m pc' Ls S))) (hp : decide (0 ≤ (pc : Int) + o ∧ ((pc : Int) + o).toNat = pc') = true := by rfl) : own_Gs p e below Φ (T.setTop (mkF m pc Ls (S))) := by
  have q := of_decide_eq_true hp; exact own_st (fun t k => XS.goto X.here hx rfl (pc0 := pc) (pc' := pc') rfl hd q.1 q.2 k) h
theorem own_ifYes {Φ : Outcome → State → Prop} (X : Stand p l e R s m args below meth c T locs cells slots) (hx : p.tables.exec = Jvm.exec) {pc : Nat} (pc' : Nat) {Ls : Array Slot} {S : List Value} {o : Int} {cd : ClassFile.Cond} {x : Int32} (hd : decode c.code pc = .ok (.ifCond cd o, 3)) (hc : if_icmp.holds cd x 0 = true) (h : own_Gs p e below Φ (T.setTop (mkF m pc' Ls S))) (hp : decide (0 ≤ (pc : Int) + o ∧ ((pc : Int) + o).toNat = pc') = true := by rfl) : own_Gs p e below Φ (T.setTop (mkF m pc Ls (.int x :: S))) := by
  have q := of_decide_eq_true hp; exact own_st (fun t k => XS.ifYes X.here hx rfl (pc0 := pc) (pc' := pc') rfl hd rfl ((if0 _ _).trans hc) q.1 q.2 k) h
theorem own_ifNo {Φ : Outcome → State → Prop} (X : Stand p l e R s m args below meth c T locs cells slots) (hx : p.tables.exec = Jvm.exec) {pc : Nat} (pc' : Nat) {Ls : Array Slot} {S : List Value} {o : Int} {cd : ClassFile.Cond} {x : Int32} (hd : decode c.code pc = .ok (.ifCond cd o, 3)) (hc : if_icmp.holds cd x 0 = false) (h : own_Gs p e below Φ (T.setTop (mkF m pc' Ls S))) (hp : pc + 3 = pc' := by rfl) : own_Gs p e below Φ (T.setTop (mkF m pc Ls (.int x :: S))) := by
  subst hp; exact own_st (fun t k => XS.ifNo X.here hx rfl hd rfl ((if0 _ _).trans hc) k) h
theorem own_icmpYes {Φ : Outcome → State → Prop} (X : Stand p l e R s m args below meth c T locs cells slots) (hx : p.tables.exec = Jvm.exec) {pc : Nat} (pc' : Nat) {Ls : Array Slot} {S : List Value} {o : Int} {cd : ClassFile.Cond} {x y : Int32} (hd : decode c.code pc = .ok (.if_icmp cd o, 3)) (hc : if_icmp.holds cd x y = true) (h : own_Gs p e below Φ (T.setTop (mkF m pc' Ls S))) (hp : decide (0 ≤ (pc : Int) + o ∧ ((pc : Int) + o).toNat = pc') = true := by rfl) : own_Gs p e below Φ (T.setTop (mkF m pc Ls (.int y :: .int x :: S))) := by
  have q := of_decide_eq_true hp; exact own_st (fun t k => XS.icmpYes X.here hx rfl (pc0 := pc) (pc' := pc') rfl hd rfl hc q.1 q.2 k) h
theorem own_icmpNo {Φ : Outcome → State → Prop} (X : Stand p l e R s m args below meth c T locs cells slots) (hx : p.tables.exec = Jvm.exec) {pc : Nat} (pc' : Nat) {Ls : Array Slot} {S : List Value} {o : Int} {cd : ClassFile.Cond} {x y : Int32} (hd : decode c.code pc = .ok (.if_icmp cd o, 3)) (hc : if_icmp.holds cd x y = false) (h : own_Gs p e below Φ (T.setTop (mkF m pc' Ls S))) (hp : pc + 3 = pc' := by rfl) : own_Gs p e below Φ (T.setTop (mkF m pc Ls (.int y :: .int x :: S))) := by
  subst hp; exact own_st (fun t k => XS.icmpNo X.here hx rfl hd rfl hc k) h
theorem own_ifnullYes {Φ : Outcome → State → Prop} (X : Stand p l e R s m args below meth c T locs cells slots) (hx : p.tables.exec = Jvm.exec) {pc : Nat} (pc' : Nat) {Ls : Array Slot} {S : List Value} {o : Int}  (hd : decode c.code pc = .ok (.ifnull o, 3)) (h : own_Gs p e below Φ (T.setTop (mkF m pc' Ls S))) (hp : decide (0 ≤ (pc : Int) + o ∧ ((pc : Int) + o).toNat = pc') = true := by rfl) : own_Gs p e below Φ (T.setTop (mkF m pc Ls (.null :: S))) := by
  have q := of_decide_eq_true hp; exact own_st (fun t k => XS.ifnullYes X.here hx rfl (pc0 := pc) (pc' := pc') rfl hd rfl q.1 q.2 k) h
theorem own_ifnullNo {Φ : Outcome → State → Prop} (X : Stand p l e R s m args below meth c T locs cells slots) (hx : p.tables.exec = Jvm.exec) {pc : Nat} (pc' : Nat) {Ls : Array Slot} {S : List Value} {o : Int} {b : Addr} (hd : decode c.code pc = .ok (.ifnull o, 3)) (h : own_Gs p e below Φ (T.setTop (mkF m pc' Ls S))) (hp : pc + 3 = pc' := by rfl) : own_Gs p e below Φ (T.setTop (mkF m pc Ls (.ref b :: S))) := by
  subst hp; exact own_st (fun t k => XS.ifnullNo X.here hx rfl hd rfl k) h
theorem own_ifnonnullYes {Φ : Outcome → State → Prop} (X : Stand p l e R s m args below meth c T locs cells slots) (hx : p.tables.exec = Jvm.exec) {pc : Nat} (pc' : Nat) {Ls : Array Slot} {S : List Value} {o : Int} {b : Addr} (hd : decode c.code pc = .ok (.ifnonnull o, 3)) (h : own_Gs p e below Φ (T.setTop (mkF m pc' Ls S))) (hp : decide (0 ≤ (pc : Int) + o ∧ ((pc : Int) + o).toNat = pc') = true := by rfl) : own_Gs p e below Φ (T.setTop (mkF m pc Ls (.ref b :: S))) := by
  have q := of_decide_eq_true hp; exact own_st (fun t k => XS.ifnonnullYes X.here hx rfl (pc0 := pc) (pc' := pc') rfl hd rfl q.1 q.2 k) h
theorem own_ifnonnullNo {Φ : Outcome → State → Prop} (X : Stand p l e R s m args below meth c T locs cells slots) (hx : p.tables.exec = Jvm.exec) {pc : Nat} (pc' : Nat) {Ls : Array Slot} {S : List Value} {o : Int}  (hd : decode c.code pc = .ok (.ifnonnull o, 3)) (h : own_Gs p e below Φ (T.setTop (mkF m pc' Ls S))) (hp : pc + 3 = pc' := by rfl) : own_Gs p e below Φ (T.setTop (mkF m pc Ls (.null :: S))) := by
  subst hp; exact own_st (fun t k => XS.ifnonnullNo X.here hx rfl hd rfl k) h
theorem own_acmp {Φ : Outcome → State → Prop} (X : Stand p l e R s m args below meth c T locs cells slots) (hx : p.tables.exec = Jvm.exec) {pc : Nat} (pc' : Nat) {Ls : Array Slot} {S : List Value} {o : Int} {cd : ACond} {v w : Value} (same : Bool) (hd : decode c.code pc = .ok (.if_acmp cd o, 3)) (h1 : v.isRef = true) (h2 : w.isRef = true) (hq : decide (v = w) = same) (h : own_Gs p e below Φ (T.setTop (mkF m pc' Ls S))) (hp : decide (0 ≤ (pc : Int) + o ∧ pc' = if acV cd same = true then ((pc : Int) + o).toNat else pc + 3) = true := by rfl) : own_Gs p e below Φ (T.setTop (mkF m pc Ls (w :: v :: S))) := by
  have q := of_decide_eq_true hp; exact own_st (fun t k => Jvm.RoadKit.acmp (g := mkF m pc Ls (w :: v :: S)) X hx rfl h1 h2 (pc0 := pc) (pc' := pc') (same := same) rfl hd rfl hq q.1 q.2 k) h
theorem own_ldcI {Φ : Outcome → State → Prop} (X : Stand p l e R s m args below meth c T locs cells slots) (hx : p.tables.exec = Jvm.exec) {pc : Nat} (pc' : Nat) {Ls : Array Slot} {S : List Value} {own : String} {index : Nat} {v : Int32} (hown : s.vm.findClass own = some m.cls) (hw : (Jvm.Cond.constant own index v).before args s = true) (hd : decode c.code pc = .ok (.ldc index, 2)) (h : own_Gs p e below Φ (T.setTop (mkF m pc' Ls (.int v :: S)))) (hp : pc + 2 = pc' := by rfl) : own_Gs p e below Φ (T.setTop (mkF m pc Ls S)) := by
  subst hp; exact own_st (fun t k => X.ldcInt hx hown hw (g := mkF m pc Ls S) rfl hd _ k) h
theorem own_ldcwI {Φ : Outcome → State → Prop} (X : Stand p l e R s m args below meth c T locs cells slots) (hx : p.tables.exec = Jvm.exec) {pc : Nat} (pc' : Nat) {Ls : Array Slot} {S : List Value} {own : String} {index : Nat} {v : Int32} (hown : s.vm.findClass own = some m.cls) (hw : (Jvm.Cond.constant own index v).before args s = true) (hd : decode c.code pc = .ok (.ldc_w index, 3)) (h : own_Gs p e below Φ (T.setTop (mkF m pc' Ls (.int v :: S)))) (hp : pc + 3 = pc' := by rfl) : own_Gs p e below Φ (T.setTop (mkF m pc Ls S)) := by
  subst hp; exact own_st (fun t k => X.ldcwInt hx hown hw (g := mkF m pc Ls S) rfl hd _ k) h
theorem own_ldcL {Φ : Outcome → State → Prop} (X : Stand p l e R s m args below meth c T locs cells slots) (hx : p.tables.exec = Jvm.exec) {pc : Nat} (pc' : Nat) {Ls : Array Slot} {S : List Value} {own : String} {index : Nat} {v : Int64} (hown : s.vm.findClass own = some m.cls) (hw : (Jvm.Cond.constantLong own index v).before args s = true) (hd : decode c.code pc = .ok (.ldc2_w index, 3)) (h : own_Gs p e below Φ (T.setTop (mkF m pc' Ls (.long v :: S)))) (hp : pc + 3 = pc' := by rfl) : own_Gs p e below Φ (T.setTop (mkF m pc Ls S)) := by
  subst hp; exact own_st (fun t k => X.ldc2Long hx hown hw (g := mkF m pc Ls S) rfl hd _ k) h
theorem own_pop2L {Φ : Outcome → State → Prop} (X : Stand p l e R s m args below meth c T locs cells slots) (hx : p.tables.exec = Jvm.exec) {pc : Nat} (pc' : Nat) {Ls : Array Slot} {S : List Value} {x : Int64} (hd : decode c.code pc = .ok (.pop2, 1)) (h : own_Gs p e below Φ (T.setTop (mkF m pc' Ls S))) (hp : pc + 1 = pc' := by rfl) : own_Gs p e below Φ (T.setTop (mkF m pc Ls (.long x :: S))) := by
  subst hp
  refine own_st (fun t k => ?_) h
  show Steps p.tables e below (T.setTop { method := m, pc := pc, locals := Ls, stack := .long x :: S, locked := none }) _
  jvm_step X.here [X.here.top, hx, hd, Value.category]
  exact k
-- end of steps
theorem own_leafI {z w : Int32} (h : z = w) : some (Value.int z) = some (Value.int w) := by rw [h]
theorem own_leafJ {z w : Int64} (h : z = w) : some (Value.long z) = some (Value.long w) := by rw [h]
theorem own_leafR {z w : Addr} (h : z = w) : some (Value.ref z) = some (Value.ref w) := by rw [h]
theorem own_selfsel {Z s : State} {a0 args : Array Value} {y : MethodName} {n : Nat} (hZ : Z.Warmed39 s.vm) (wi : (Jvm.Cond.instantiable y.cls n).before a0 Z = true) (wm : (Jvm.Cond.instanceMethod y).before a0 Z = true) (wp : (Jvm.Cond.privateMethod y).before a0 Z = true) (hy : y.cls ≠ "java/lang/invoke/MethodHandle" ∧ y.cls ≠ "java/lang/invoke/VarHandle") : (Jvm.Cond.selects y.cls y y).before args s = true := by
  have wi' : (Jvm.Cond.instantiable y.cls n).before args s = true := mvT hZ wi
  obtain ⟨c, k, h1, h2, h3, h4, h5, h6⟩ := Cond.instantiable_spec wi'
  exact selects_self_of_private h1 h2 (by simp only [Bool.or_eq_false_iff] at h4; exact h4.1) (Cond.privateMethod_at (mvP hZ wp (args := #[]))) (mvT hZ wm) hy
theorem own_sta {Z : State} {a0 : Array Value} {C n d K : String} (hx : (Jvm.Cond.exactly (Term.static C n d) K).value a0 Z none Z [] = some true) (hi : (Jvm.Cond.initializedFor C n d).before a0 Z = true ∨ ((Jvm.Cond.initialized C).before a0 Z = true ∧ (Jvm.Cond.laysStatic C n d).before a0 Z = true)) :
    ∃ a : Addr, (Term.static C n d).eval a0 Z none [] Z = some (.ref a) ∧ Sta Z Z.heap C n d (.ref a) ∧ Exa Z Z.heap a K := by
  obtain ⟨a, ha⟩ := exa_v hx
  exact ⟨a, ha, Sta.start ha hi, Exa.start ha hx⟩
theorem own_fldI {Z : State} {a0 : Array Value} {t : Term} {a : Addr} {C n d : String} {k : Int32} (ev : t.eval a0 Z none [] Z = some (.ref a)) (h : (Jvm.Cond.eq (Term.field t C n d) (Term.int k)).value a0 Z none Z [] = some true) : Fld Z Z.heap a C n d (.int k) := by
  refine Fld.start ?_
  rw [← fld_at (args := a0) (first := Z) (o := none) (idx := []) ev]
  obtain ⟨x, y, h1, h2, h3, h4⟩ := cmp_v (Or.inl h)
  rw [Term.int_eval] at h2
  cases h2
  obtain ⟨z, rfl⟩ := h4
  have q : (Jvm.Cond.eq (Term.field t C n d) (Term.int k)).value a0 Z none Z [] = some (decide (z = k)) := Cond.eq_ints h1 (Term.int_eval k)
  rw [h1, gotT q h]
end Own
section OwnLam
variable {p : Program} {l : Launch} {e : Env} {R : Room} {s : State} {m : MethodId} {args : Array Value} {below : List Frame} {meth : Method} {c : Code} {T : State} {locs : List Loc} {cells slots : Nat}
/-- a lambda site that captures one object, linked: it makes one cell -/
theorem own_lam {Z : State} {a0 : Array Value} {h : Heap} (X : Stand p l e R s m args below meth c T locs cells slots) (hx : p.tables.exec = Jvm.exec) (hZ : Z.Warmed39 s.vm) {y : MethodName} {pc0 index : Nat} {σ : Lambda.Shape} {b : Addr} {K : String}
    (w : (Jvm.Cond.lambdaSite y pc0 index σ).before a0 Z = true) (hn : s.methodNamed? y = some m) (hcap : σ.captured = [.object K]) (wo : (Jvm.Cond.instantiable "java/lang/Object" 0).before a0 Z = true)
    (hlay : ((σ.file y.cls).bind (layoutFields · 0)).map (·.2.1) = some #[.object K]) (eT : T.heap = h) {g : JFrame} (hg : g.method = m) (hpc : g.pc = pc0) (hsize : g.locals.size = c.maxLocals) (hd : decode c.code g.pc = .ok (.invokedynamic index, 5)) {rest : List Value} (hs : g.stack = .ref b :: rest)
    (hwords : 2 * g.monitorRoom + (g.stack.map fun v => v.category).sum + 3072 ≤ R.locals) (hc : cells + 1 ≤ R.cells) (hl : slots + 1 ≤ R.slots) :
    ∃ T' h', Stand p l e R s m args below meth c T' locs (cells + 1) (slots + 1) ∧ T'.heap = h' ∧ Ext h h' ∧ ∀ target, Steps p.tables e below (T'.setTop { g with pc := g.pc + 5, stack := .ref h.size :: rest }) target → Steps p.tables e below (T.setTop g) target := by
  obtain ⟨cK, one, hat⟩ := Cond.lambdaSite_spec w
  obtain ⟨m', kS, cfS, i0, p0, lk, hm', hkS, hcfS, hshape, -, hfind, hmade, hcan, hlk⟩ := State.lambdaAt?_spec hat
  have hm2 : s.methodNamed? y = some m' := by
    have q := State.methodNamed?_setVm (s := Z) hZ.alike y
    rw [hm'] at q; exact q
  cases hn.symm.trans hm2
  obtain ⟨rfl, rfl, -⟩ : lk = .makes cK ∧ one = none ∧ σ.captured ≠ [] := by
    rcases hlk with ⟨a, cell, -, -, h, -⟩ | h
    · rw [hcap] at h; cases h
    · exact h
  obtain ⟨kS', hkS', hnameS⟩ := className_of_methodNamed hm'
  cases hkS.symm.trans hkS'
  obtain ⟨bsm, nt, desc, site, hcp, hnt, hsite, hpar⟩ := Lambda.shapeOf?_site hshape
  obtain ⟨kK, hkK, htyK, hkindK, hhid⟩ := Lambda.made_types hmade hkS wo (by rw [hnameS]; exact hlay)
  obtain ⟨kS1, hkS1, eS⟩ := hZ.alike.2.2 _ _ hkS
  obtain ⟨kK1, hkK1, eK⟩ := hZ.alike.2.2 _ _ hkK
  have hty1 : kK1.instanceTypes = #[.object K] := by rw [eK]; exact htyK
  have hkind1 : kK1.kind = .ordinary := by rw [eK]; exact hkindK
  have hslotsE : ((kK1.instanceTypes.toList.zip [(.ref b : Value)]).map fun (t, v) => narrow t v) = [.ref b] := by rw [hty1]; rfl
  subst hpc
  obtain ⟨X₁, st1⟩ := X.lambdaMakes hx (g := g) hg hsize hd (vals := [.ref b]) (rest := rest) hkS1 (by rw [eS]; exact hfind) (by rw [eS]; exact hcfS) hcp hnt (parseLong_of_parse hsite) (by rw [hpar, hcap]; rfl) hs hkK1
    (by rw [X.admits.platform]; exact hwords) hc (by rw [hslotsE]; exact hl)
    (fun i v hv => by
      rw [hslotsE] at hv
      match i, hv with
      | 0, hv => simp at hv; subst hv; simp [State.fitsSlot, State.slotType?, hkK1, hkind1, hty1, fits]
      | k + 1, hv => simp at hv)
  rw [hslotsE] at X₁ st1
  subst eT
  refine ⟨_, _, X₁, rfl, ⟨?_, fun a cc hh => ?_⟩, st1⟩
  · show T.heap.size ≤ (T.heap.push _).size
    simp
  · show (T.heap.push _)[a]? = _
    rw [Array.getElem?_push_lt (Array.getElem?_eq_some_iff.mp hh).1]; exact (Array.getElem?_eq_getElem _).symm.trans hh
end OwnLam

theorem own_lay : ((((Jvm.Lambda.Shape.mk "com/example/loomsand/loomsand/Feistel$Round" "hash" (Jvm.ClassFile.MethodDescriptor.mk ([Jvm.ClassFile.FieldType.int, Jvm.ClassFile.FieldType.long] : List Jvm.ClassFile.FieldType) (Option.some Jvm.ClassFile.FieldType.long)) ([(Jvm.ClassFile.FieldType.object "com/example/loomsand/loomsand/Draws")] : List Jvm.ClassFile.FieldType) (5 : Nat) "com/example/loomsand/loomsand/Draws" "shuffleRound" (Jvm.ClassFile.MethodDescriptor.mk ([Jvm.ClassFile.FieldType.int, Jvm.ClassFile.FieldType.long] : List Jvm.ClassFile.FieldType) (Option.some Jvm.ClassFile.FieldType.long)) false (Jvm.ClassFile.MethodDescriptor.mk ([Jvm.ClassFile.FieldType.int, Jvm.ClassFile.FieldType.long] : List Jvm.ClassFile.FieldType) (Option.some Jvm.ClassFile.FieldType.long)))).file "com/example/loomsand/loomsand/Draws").bind (layoutFields · 0)).map (·.2.1) = some #[.object "com/example/loomsand/loomsand/Draws"] := by decide +kernel
theorem own_d5_0 : decode prog_17_method_1_code 0 = .ok (.aload_n 0, 1) := by decide +kernel
theorem own_d5_1 : decode prog_17_method_1_code 1 = .ok (.invokespecial 1, 3) := by decide +kernel
theorem own_d5_4 : decode prog_17_method_1_code 4 = .ok (.aload_n 0, 1) := by decide +kernel
theorem own_d5_5 : decode prog_17_method_1_code 5 = .ok (.aload_n 1, 1) := by decide +kernel
theorem own_d5_6 : decode prog_17_method_1_code 6 = .ok (.putfield 7, 3) := by decide +kernel
theorem own_d5_9 : decode prog_17_method_1_code 9 = .ok (.return_, 1) := by decide +kernel
theorem own_pn0 : plainName "com/example/loomsand/loomsand/Feistel" = true := by first | (simp [plainName, overriddenIn]; done) | decide +kernel
theorem own_ef5 (m : MethodId) (o1 : Addr) (o2 : Addr) : entryFrame m #[(.ref o1), (.ref o2)] 2 = mkF m 0 #[.val (.ref o1), .val (.ref o2)] [] := by first | (simp [entryFrame, mkF, argsToLocals, Value.category]; done) | rfl
def own_Q5 (Z : State) (o1 : Addr) (o2 : Addr) (h0 : Heap) (n0 : Nat) (v : Option Value) (h : Heap) (L : List Loc) : Prop := v = none ∧ Fr n0 L ∧ Keep h0 h [o1] ∧ Exa Z h o1 "com/example/loomsand/loomsand/Feistel"
set_option maxRecDepth 65536 in
set_option maxHeartbeats 40000000 in
theorem own_rm5 (l : Launch) (Z : State) (a0 : Array Value) (hw : ∀ d ∈ tables_1, d.before a0 Z = true) (ws : List Jvm.Cond) (o1 : Addr) (o2 : Addr) (h0 : Heap) (n0 : Nat) (Z0 : n0 ≤ h0.size) (pE1 : Exa Z h0 o1 "com/example/loomsand/loomsand/Feistel") (pF2 : Fld Z h0 o1 "com/example/loomsand/loomsand/Feistel" "round" "Lcom/example/loomsand/loomsand/Feistel$Round;" .null) (pG3 : n0 ≤ o1) :
    MetFree l (⟨"com/example/loomsand/loomsand/Feistel", "<init>", "(Lcom/example/loomsand/loomsand/Feistel$Round;)V"⟩ : MethodName) (head1 (Jvm.Cond.code (⟨"com/example/loomsand/loomsand/Feistel", "<init>", "(Lcom/example/loomsand/loomsand/Feistel$Round;)V"⟩ : MethodName) prog_17_method_1_code 2 none :: ws) ({ frames := 1, cells := 0, slots := 0, locals := 12 } : Room)) (fun a U => a = #[(.ref o1), (.ref o2)] ∧ Z.Warmed39 U.vm ∧ U.heap = h0) (fun _ _ _ _ _ => True) (fun _ U o U' => ∃ v L, o = .returned v ∧ own_Q5 Z o1 o2 h0 n0 v U'.heap L ∧ FrameEnd U o U' L ({ frames := 1, cells := 0, slots := 0, locals := 12 } : Room).cells ({ frames := 1, cells := 0, slots := 0, locals := 12 } : Room).slots) := by
  refine MetFree.of_bodySF (plainFor_of_name own_pn0) hisR ?_
  intro p e s m args below meth c s₁ Bd hml0 hP hK
  obtain ⟨rfl, hZ, hh⟩ := hP
  have hx := Bd.exec
  have hby := Bd.bytes
  have hlk := Bd.notSynchronized
  have hrt := Bd.returns
  have hml : c.maxLocals = 2 := hml0
  have hown : s.vm.findClass "com/example/loomsand/loomsand/Feistel" = some m.cls := findClass_of_methodNamed Bd.named
  have hnm := (name_of_methodNamed Bd.named Bd.method).1
  have X0 : Stand p l e ({ frames := 1, cells := 0, slots := 0, locals := 12 } : Room) s m #[(.ref o1), (.ref o2)] below meth c s₁ [] 0 0 := Stand.of_body Bd
  have e0 : s₁.heap = h0 := by rw [← hh, Bd.state]; rfl
  have N0 := Fr.nil n0
  have KC0 := Keep.refl h0 [o1]
  refine own_in (own_ef5 m o1 o2) ?_
  refine own_aloadN X0 hx 1 (hb hby own_d5_0) rfl rfl ?_
  obtain ⟨T1, X1, e1, st1⟩ := initO X0 hx hZ hown (hw _ (List.mem_of_getElem? (i := 26) rfl)) (hw _ (List.mem_of_getElem? (i := 14) rfl)) (hw _ (List.mem_of_getElem? (i := 15) rfl)) e0 (g := (mkF m 1 #[.val (.ref o1), .val (.ref o2)] [(.ref o1)])) rfl (by rw [hml]; rfl) rfl (hb hby own_d5_1) (by decide) (W := 0) (by show 2 * 0 + _ ≤ _; exact Nat.le_of_eq rfl) (by decide)
  refine own_st (G' := T1.setTop (mkF m 4 #[.val (.ref o1), .val (.ref o2)] [])) st1 ?_
  refine own_aloadN X1 hx 5 (hb hby own_d5_4) rfl rfl ?_
  refine own_aloadN X1 hx 6 (hb hby own_d5_5) rfl rfl ?_
  obtain ⟨T2, h2, X2, e2, W2, st2⟩ := putF X1 hx hZ hown (host := "") (Or.inl (hw _ (List.mem_of_getElem? (i := 27) rfl))) Via.refl e1 pF2 pE1 (Or.inr ⟨(hw _ (List.mem_of_getElem? (i := 28) rfl)), rfl, hnm⟩) (hw _ (List.mem_of_getElem? (i := 17) rfl)) (v := (.ref o2)) (ty := (.object "com/example/loomsand/loomsand/Feistel$Round")) (by decide) rfl rfl (g := (mkF m 6 #[.val (.ref o1), .val (.ref o2)] [(.ref o2), (.ref o1)])) rfl rfl (hb hby own_d5_6)
  have Fw2 := pF2.same W2
  have N2 := Fr.snoc X2 N0 pG3
  have KC3 := KC0.wr W2 (Or.inl (List.mem_of_getElem? (i := 0) rfl))
  have Z4 := Nat.le_trans Z0 (Nat.le_of_eq W2.size.symm)
  refine own_st (G' := T2.setTop (mkF m 9 #[.val (.ref o1), .val (.ref o2)] [])) st2 ?_
  have f5 := (pE1.wr W2)
  exact own_retV (Q := own_Q5 Z o1 o2 h0 n0) X2 hx hrt (hb hby own_d5_9) hlk e2 ⟨rfl, N2, KC3, f5⟩ (by decide) (by decide)
theorem own_d3_0 : decode prog_16_method_1_code 0 = .ok (.aload_n 0, 1) := by decide +kernel
theorem own_d3_1 : decode prog_16_method_1_code 1 = .ok (.invokespecial 1, 3) := by decide +kernel
theorem own_d3_4 : decode prog_16_method_1_code 4 = .ok (.aload_n 0, 1) := by decide +kernel
theorem own_d3_5 : decode prog_16_method_1_code 5 = .ok (.new 7, 3) := by decide +kernel
theorem own_d3_8 : decode prog_16_method_1_code 8 = .ok (.dup, 1) := by decide +kernel
theorem own_d3_9 : decode prog_16_method_1_code 9 = .ok (.aload_n 0, 1) := by decide +kernel
theorem own_d3_10 : decode prog_16_method_1_code 10 = .ok (.invokedynamic 9, 5) := by decide +kernel
theorem own_d3_15 : decode prog_16_method_1_code 15 = .ok (.invokespecial 13, 3) := by decide +kernel
theorem own_d3_18 : decode prog_16_method_1_code 18 = .ok (.putfield 16, 3) := by decide +kernel
theorem own_d3_21 : decode prog_16_method_1_code 21 = .ok (.return_, 1) := by decide +kernel
theorem own_pn1 : plainName "com/example/loomsand/loomsand/Draws" = true := by first | (simp [plainName, overriddenIn]; done) | decide +kernel
theorem own_pd0 : parseMethodDescriptor "(Lcom/example/loomsand/loomsand/Feistel$Round;)V" = some ⟨[(.object "com/example/loomsand/loomsand/Feistel$Round")], none⟩ := by decide +kernel
theorem own_ef3 (m : MethodId) (o1 : Addr) : entryFrame m #[(.ref o1)] 1 = mkF m 0 #[.val (.ref o1)] [] := by first | (simp [entryFrame, mkF, argsToLocals, Value.category]; done) | rfl
def own_Q3 (Z : State) (o1 : Addr) (h0 : Heap) (n0 : Nat) (v : Option Value) (h : Heap) (L : List Loc) : Prop := v = none ∧ Fr n0 L ∧ Keep h0 h [o1] ∧ Exa Z h o1 "com/example/loomsand/loomsand/Draws" ∧ Fld Z h o1 "com/example/loomsand/loomsand/Draws" "key" "J" (.long (0 : Int64)) ∧ Fld Z h o1 "com/example/loomsand/loomsand/Draws" "row" "J" (.long (0 : Int64)) ∧ Fld Z h o1 "com/example/loomsand/loomsand/Draws" "state" "J" (.long (0 : Int64))
set_option maxRecDepth 65536 in
set_option maxHeartbeats 40000000 in
theorem own_rm3 (l : Launch) (Z : State) (a0 : Array Value) (hw : ∀ d ∈ tables_1, d.before a0 Z = true) (ws : List Jvm.Cond) (o1 : Addr) (h0 : Heap) (n0 : Nat) (Z0 : n0 ≤ h0.size) (pE1 : Exa Z h0 o1 "com/example/loomsand/loomsand/Draws") (pF2 : Fld Z h0 o1 "com/example/loomsand/loomsand/Draws" "shuffle" "Lcom/example/loomsand/loomsand/Feistel;" .null) (pF3 : Fld Z h0 o1 "com/example/loomsand/loomsand/Draws" "key" "J" (.long (0 : Int64))) (pF4 : Fld Z h0 o1 "com/example/loomsand/loomsand/Draws" "row" "J" (.long (0 : Int64))) (pF5 : Fld Z h0 o1 "com/example/loomsand/loomsand/Draws" "state" "J" (.long (0 : Int64))) (pG6 : n0 ≤ o1) :
    MetFree l (⟨"com/example/loomsand/loomsand/Draws", "<init>", "()V"⟩ : MethodName) (head1 (Jvm.Cond.code (⟨"com/example/loomsand/loomsand/Draws", "<init>", "()V"⟩ : MethodName) prog_16_method_1_code 1 none :: ws) ({ frames := 2, cells := 2, slots := 4, locals := 3076 } : Room)) (fun a U => a = #[(.ref o1)] ∧ Z.Warmed39 U.vm ∧ U.heap = h0) (fun _ _ _ _ _ => True) (fun _ U o U' => ∃ v L, o = .returned v ∧ own_Q3 Z o1 h0 n0 v U'.heap L ∧ FrameEnd U o U' L ({ frames := 2, cells := 2, slots := 4, locals := 3076 } : Room).cells ({ frames := 2, cells := 2, slots := 4, locals := 3076 } : Room).slots) := by
  refine MetFree.of_bodySF (plainFor_of_name own_pn1) hisR ?_
  intro p e s m args below meth c s₁ Bd hml0 hP hK
  obtain ⟨rfl, hZ, hh⟩ := hP
  have hx := Bd.exec
  have hby := Bd.bytes
  have hlk := Bd.notSynchronized
  have hrt := Bd.returns
  have hml : c.maxLocals = 1 := hml0
  have hown : s.vm.findClass "com/example/loomsand/loomsand/Draws" = some m.cls := findClass_of_methodNamed Bd.named
  have hnm := (name_of_methodNamed Bd.named Bd.method).1
  have X0 : Stand p l e ({ frames := 2, cells := 2, slots := 4, locals := 3076 } : Room) s m #[(.ref o1)] below meth c s₁ [] 0 0 := Stand.of_body Bd
  have e0 : s₁.heap = h0 := by rw [← hh, Bd.state]; rfl
  have N0 := Fr.nil n0
  have KC0 := Keep.refl h0 [o1]
  refine own_in (own_ef3 m o1) ?_
  refine own_aloadN X0 hx 1 (hb hby own_d3_0) rfl rfl ?_
  obtain ⟨T1, X1, e1, st1⟩ := initO X0 hx hZ hown (hw _ (List.mem_of_getElem? (i := 13) rfl)) (hw _ (List.mem_of_getElem? (i := 14) rfl)) (hw _ (List.mem_of_getElem? (i := 15) rfl)) e0 (g := (mkF m 1 #[.val (.ref o1)] [(.ref o1)])) rfl (by rw [hml]; rfl) rfl (hb hby own_d3_1) (by decide) (W := 0) (by show 2 * 0 + _ ≤ _; exact Nat.le_of_eq rfl) (by decide)
  refine own_st (G' := T1.setTop (mkF m 4 #[.val (.ref o1)] [])) st1 ?_
  refine own_aloadN X1 hx 5 (hb hby own_d3_4) rfl rfl ?_
  obtain ⟨T2, h2, X2, e2, E2, A2, D2, -, st2⟩ := newO X1 hx hZ hown (hw _ (List.mem_of_getElem? (i := 16) rfl)) (hw _ (List.mem_of_getElem? (i := 17) rfl)) (hw _ (List.mem_of_getElem? (i := 18) rfl)) e1 (g := (mkF m 5 #[.val (.ref o1)] [(.ref o1)])) rfl (hb hby own_d3_5) (by decide) (by decide)
  obtain ⟨b2, g2⟩ : ∃ z, z = h0.size := ⟨_, rfl⟩
  rw [← g2] at A2 D2 st2
  have ne3 : o1 ≠ b2 := Nat.ne_of_lt (Nat.lt_of_lt_of_le pE1.lt (Nat.le_of_eq g2.symm))
  have gt_b2 : n0 ≤ b2 := Nat.le_trans Z0 (Nat.le_of_eq g2.symm)
  have sz_b2 : h0.size ≤ b2 := Nat.le_trans KC0.1 (Nat.le_of_eq g2.symm)
  have KC4 := KC0.ext E2
  have Z5 := Nat.le_trans Z0 E2.1
  have F2_round : Fld Z h2 b2 "com/example/loomsand/loomsand/Feistel" "round" "Lcom/example/loomsand/loomsand/Feistel$Round;" .null := D2 (Or.inr (hw _ (List.mem_of_getElem? (i := 28) rfl))) (ty := (.object "com/example/loomsand/loomsand/Feistel$Round")) (by decide)
  refine own_st (G' := T2.setTop (mkF m 8 #[.val (.ref o1)] [(.ref b2), (.ref o1)])) st2 ?_
  refine own_dup X2 hx 9 (hb hby own_d3_8) rfl ?_
  refine own_aloadN X2 hx 10 (hb hby own_d3_9) rfl rfl ?_
  obtain ⟨T6, h6, X6, e6, E6, st6⟩ := own_lam X2 hx hZ (y := (⟨"com/example/loomsand/loomsand/Draws", "<init>", "()V"⟩ : MethodName)) (pc0 := 10) (hw _ (List.mem_of_getElem? (i := 19) rfl)) Bd.named rfl (hw _ (List.mem_of_getElem? (i := 22) rfl)) own_lay e2 (g := (mkF m 10 #[.val (.ref o1)] [(.ref o1), (.ref b2), (.ref b2), (.ref o1)])) rfl rfl (by rw [hml]; rfl) (hb hby own_d3_10) rfl (Nat.le_of_ble_eq_true rfl) (by decide) (by decide)
  obtain ⟨b6, g6⟩ : ∃ z, z = h2.size := ⟨_, rfl⟩
  rw [← g6] at st6
  have f7 := (pE1.ext E2)
  have ne8 : o1 ≠ b6 := Nat.ne_of_lt (Nat.lt_of_lt_of_le f7.lt (Nat.le_of_eq g6.symm))
  have ne9 : b2 ≠ b6 := Nat.ne_of_lt (Nat.lt_of_lt_of_le A2.lt (Nat.le_of_eq g6.symm))
  have gt_b6 : n0 ≤ b6 := Nat.le_trans Z5 (Nat.le_of_eq g6.symm)
  have sz_b6 : h0.size ≤ b6 := Nat.le_trans KC4.1 (Nat.le_of_eq g6.symm)
  have KC10 := KC4.ext E6
  have Z11 := Nat.le_trans Z5 E6.1
  refine own_st (G' := T6.setTop (mkF m 15 #[.val (.ref o1)] [(.ref b6), (.ref b2), (.ref b2), (.ref o1)])) st6 ?_
  have f12 := (A2.ext E6)
  have f13 := (F2_round.ext E6)
  obtain ⟨_, _, ⟨T14, Lx14, kc14, nc14⟩, -, X14, ⟨Lc14, hQ14, lq14, yq14, zq14⟩, st14⟩ := X6.specialBack hx (y := (⟨"com/example/loomsand/loomsand/Feistel", "<init>", "(Lcom/example/loomsand/loomsand/Feistel$Round;)V"⟩ : MethodName)) rfl hown (mvT hZ (hw _ (List.mem_of_getElem? (i := 23) rfl))) (mvT hZ (hw _ (List.mem_of_getElem? (i := 24) rfl))) (mvT hZ (hw _ (List.mem_of_getElem? (i := 25) rfl))) (by decide) (backOf (W := 2) (own_rm5 l Z a0 hw [] b2 b6 h6 n0 Z11 f12 f13 gt_b2) hZ (hw _ (List.mem_of_getElem? (i := 25) rfl)) (hw _ (List.mem_of_getElem? (i := 18) rfl)) (by decide) (by decide)) (g := (mkF m 15 #[.val (.ref o1)] [(.ref b6), (.ref b2), (.ref b2), (.ref o1)])) rfl (by rw [hml]; rfl) (Steps.refl _) (a := b2) (argsL := [(.ref b6)]) (rest := [(.ref b2), (.ref o1)]) (lenOf own_pd0 rfl) rfl (by show 2 * 0 + _ ≤ _; exact Nat.le_of_eq rfl) (hb hby own_d3_15) (fun _ _ => ⟨rfl, e6, (by decide : 2 + 0 ≤ _), (by decide : 4 + 0 ≤ _)⟩)
  dsimp only [Pt.U, Pt.locs, Pt.cells, Pt.slots] at X14 lq14 yq14 zq14 st14 hQ14
  subst lq14 yq14 zq14
  obtain ⟨rfl, Nq14, Kp14, G14_0⟩ := hQ14
  have N14 := Fr.app N0 Nq14
  have KC15 := KC10.trans Kp14 (allS (Or.inr sz_b2) all0)
  have Z16 := Nat.le_trans Z11 Kp14.1
  refine own_st (G' := T14.setTop (mkF m 18 #[.val (.ref o1)] [(.ref b2), (.ref o1)])) (fun t k => st14.trans k) ?_
  have f17 := (((pF2.ext E2).ext E6).keep Kp14 (ninS ne3 nin0))
  have f18 := ((f7.ext E6).keep Kp14)
  obtain ⟨T19, h19, X19, e19, W19, st19⟩ := putF X14 hx hZ hown (host := "") (Or.inl (hw _ (List.mem_of_getElem? (i := 29) rfl))) Via.refl rfl f17 f18 (Or.inr ⟨(hw _ (List.mem_of_getElem? (i := 30) rfl)), rfl, hnm⟩) (hw _ (List.mem_of_getElem? (i := 8) rfl)) (v := (.ref b2)) (ty := (.object "com/example/loomsand/loomsand/Feistel")) (by decide) rfl rfl (g := (mkF m 18 #[.val (.ref o1)] [(.ref b2), (.ref o1)])) rfl rfl (hb hby own_d3_18)
  have Fw19 := f17.same W19
  have N19 := Fr.snoc X19 N14 pG6
  have KC20 := KC15.wr W19 (Or.inl (List.mem_of_getElem? (i := 0) rfl))
  have Z21 := Nat.le_trans Z16 (Nat.le_of_eq W19.size.symm)
  refine own_st (G' := T19.setTop (mkF m 21 #[.val (.ref o1)] [])) st19 ?_
  have f22 := (f18.wr W19)
  have f23 := ((((pF3.ext E2).ext E6).keep Kp14 (ninS ne3 nin0)).other W19 (Or.inr (slot_ne (Or.inl (hw _ (List.mem_of_getElem? (i := 41) rfl))) (Or.inr (hw _ (List.mem_of_getElem? (i := 30) rfl))) (by decide) (t := .long) (t' := (.object "com/example/loomsand/loomsand/Feistel")) (by decide) (by decide))))
  have f24 := ((((pF4.ext E2).ext E6).keep Kp14 (ninS ne3 nin0)).other W19 (Or.inr (slot_ne (Or.inl (hw _ (List.mem_of_getElem? (i := 43) rfl))) (Or.inr (hw _ (List.mem_of_getElem? (i := 30) rfl))) (by decide) (t := .long) (t' := (.object "com/example/loomsand/loomsand/Feistel")) (by decide) (by decide))))
  have f25 := ((((pF5.ext E2).ext E6).keep Kp14 (ninS ne3 nin0)).other W19 (Or.inr (slot_ne (Or.inl (hw _ (List.mem_of_getElem? (i := 51) rfl))) (Or.inr (hw _ (List.mem_of_getElem? (i := 30) rfl))) (by decide) (t := .long) (t' := (.object "com/example/loomsand/loomsand/Feistel")) (by decide) (by decide))))
  exact own_retV (Q := own_Q3 Z o1 h0 n0) X19 hx hrt (hb hby own_d3_21) hlk e19 ⟨rfl, N19, KC20, f22, f23, f24, f25⟩ (by decide) (by decide)
theorem own_d8_0 : decode prog_16_method_14_code 0 = .ok (.lload_n 0, 1) := by decide +kernel
theorem own_d8_1 : decode prog_16_method_14_code 1 = .ok (.lload_n 0, 1) := by decide +kernel
theorem own_d8_2 : decode prog_16_method_14_code 2 = .ok (.bipush 30, 2) := by decide +kernel
theorem own_d8_4 : decode prog_16_method_14_code 4 = .ok (.lushr, 1) := by decide +kernel
theorem own_d8_5 : decode prog_16_method_14_code 5 = .ok (.lxor, 1) := by decide +kernel
theorem own_d8_6 : decode prog_16_method_14_code 6 = .ok (.ldc2_w 140, 3) := by decide +kernel
theorem own_d8_9 : decode prog_16_method_14_code 9 = .ok (.lmul, 1) := by decide +kernel
theorem own_d8_10 : decode prog_16_method_14_code 10 = .ok (.lstore_n 0, 1) := by decide +kernel
theorem own_d8_11 : decode prog_16_method_14_code 11 = .ok (.lload_n 0, 1) := by decide +kernel
theorem own_d8_12 : decode prog_16_method_14_code 12 = .ok (.lload_n 0, 1) := by decide +kernel
theorem own_d8_13 : decode prog_16_method_14_code 13 = .ok (.bipush 27, 2) := by decide +kernel
theorem own_d8_15 : decode prog_16_method_14_code 15 = .ok (.lushr, 1) := by decide +kernel
theorem own_d8_16 : decode prog_16_method_14_code 16 = .ok (.lxor, 1) := by decide +kernel
theorem own_d8_17 : decode prog_16_method_14_code 17 = .ok (.ldc2_w 142, 3) := by decide +kernel
theorem own_d8_20 : decode prog_16_method_14_code 20 = .ok (.lmul, 1) := by decide +kernel
theorem own_d8_21 : decode prog_16_method_14_code 21 = .ok (.lstore_n 0, 1) := by decide +kernel
theorem own_d8_22 : decode prog_16_method_14_code 22 = .ok (.lload_n 0, 1) := by decide +kernel
theorem own_d8_23 : decode prog_16_method_14_code 23 = .ok (.lload_n 0, 1) := by decide +kernel
theorem own_d8_24 : decode prog_16_method_14_code 24 = .ok (.bipush 31, 2) := by decide +kernel
theorem own_d8_26 : decode prog_16_method_14_code 26 = .ok (.lushr, 1) := by decide +kernel
theorem own_d8_27 : decode prog_16_method_14_code 27 = .ok (.lxor, 1) := by decide +kernel
theorem own_d8_28 : decode prog_16_method_14_code 28 = .ok (.lreturn, 1) := by decide +kernel
theorem own_ef8 (m : MethodId) (q1 : Int64) : entryFrame m #[(.long q1)] 2 = mkF m 0 #[.val (.long q1), .second] [] := by first | (simp [entryFrame, mkF, argsToLocals, Value.category]; done) | rfl
def own_mix (q1 : Int64) : Int64 := (((((q1 ^^^ ((q1.toUInt64 >>> ((30 : Int32) &&& 0x3f).toInt64.toUInt64).toInt64)) * (-4658895280553007687 : Int64)) ^^^ ((((q1 ^^^ ((q1.toUInt64 >>> ((30 : Int32) &&& 0x3f).toInt64.toUInt64).toInt64)) * (-4658895280553007687 : Int64)).toUInt64 >>> ((27 : Int32) &&& 0x3f).toInt64.toUInt64).toInt64)) * (-7723592293110705685 : Int64)) ^^^ ((((((q1 ^^^ ((q1.toUInt64 >>> ((30 : Int32) &&& 0x3f).toInt64.toUInt64).toInt64)) * (-4658895280553007687 : Int64)) ^^^ ((((q1 ^^^ ((q1.toUInt64 >>> ((30 : Int32) &&& 0x3f).toInt64.toUInt64).toInt64)) * (-4658895280553007687 : Int64)).toUInt64 >>> ((27 : Int32) &&& 0x3f).toInt64.toUInt64).toInt64)) * (-7723592293110705685 : Int64)).toUInt64 >>> ((31 : Int32) &&& 0x3f).toInt64.toUInt64).toInt64))
def own_Q8 (Z : State) (q1 : Int64) (h0 : Heap) (n0 : Nat) (v : Option Value) (h : Heap) (L : List Loc) : Prop := v = some (.long (own_mix q1)) ∧ Fr n0 L ∧ h = h0
set_option maxRecDepth 65536 in
set_option maxHeartbeats 40000000 in
theorem own_rm8 (l : Launch) (Z : State) (a0 : Array Value) (hw : ∀ d ∈ tables_1, d.before a0 Z = true) (ws : List Jvm.Cond) (q1 : Int64) (h0 : Heap) (n0 : Nat) (Z0 : n0 ≤ h0.size)  :
    MetFree l (⟨"com/example/loomsand/loomsand/Draws", "mix", "(J)J"⟩ : MethodName) (head1 (Jvm.Cond.code (⟨"com/example/loomsand/loomsand/Draws", "mix", "(J)J"⟩ : MethodName) prog_16_method_14_code 2 (some .long) :: ws) ({ frames := 0, cells := 0, slots := 0, locals := 0 } : Room)) (fun a U => a = #[(.long q1)] ∧ Z.Warmed39 U.vm ∧ U.heap = h0) (fun _ _ _ _ _ => True) (fun _ U o U' => ∃ v L, o = .returned v ∧ own_Q8 Z q1 h0 n0 v U'.heap L ∧ FrameEnd U o U' L ({ frames := 0, cells := 0, slots := 0, locals := 0 } : Room).cells ({ frames := 0, cells := 0, slots := 0, locals := 0 } : Room).slots) := by
  refine MetFree.of_bodySF (plainFor_of_name own_pn1) hisR ?_
  intro p e s m args below meth c s₁ Bd hml0 hP hK
  obtain ⟨rfl, hZ, hh⟩ := hP
  have hx := Bd.exec
  have hby := Bd.bytes
  have hlk := Bd.notSynchronized
  have hrt := Bd.returns
  have hml : c.maxLocals = 2 := hml0
  have hown : s.vm.findClass "com/example/loomsand/loomsand/Draws" = some m.cls := findClass_of_methodNamed Bd.named
  have hnm := (name_of_methodNamed Bd.named Bd.method).1
  have X0 : Stand p l e ({ frames := 0, cells := 0, slots := 0, locals := 0 } : Room) s m #[(.long q1)] below meth c s₁ [] 0 0 := Stand.of_body Bd
  have e0 : s₁.heap = h0 := by rw [← hh, Bd.state]; rfl
  have N0 := Fr.nil n0
  refine own_in (own_ef8 m q1) ?_
  refine own_lloadN X0 hx 1 (hb hby own_d8_0) rfl ?_
  refine own_lloadN X0 hx 2 (hb hby own_d8_1) rfl ?_
  refine own_bipush X0 hx 4 (30 : Int32) (hb hby own_d8_2) rfl ?_
  refine own_lushr X0 hx 5 (hb hby own_d8_4) ?_
  refine own_lxor X0 hx 6 (hb hby own_d8_5) ?_
  refine own_ldcL X0 hx 9 hown (mvT hZ (hw _ (List.mem_of_getElem? (i := 48) rfl))) (hb hby own_d8_6) ?_
  refine own_lmul X0 hx 10 (hb hby own_d8_9) ?_
  refine own_lstoreN X0 hx 11 #[.val (.long ((q1 ^^^ ((q1.toUInt64 >>> ((30 : Int32) &&& 0x3f).toInt64.toUInt64).toInt64)) * (-4658895280553007687 : Int64))), .second] (hb hby own_d8_10) rfl ?_
  refine own_lloadN X0 hx 12 (hb hby own_d8_11) rfl ?_
  refine own_lloadN X0 hx 13 (hb hby own_d8_12) rfl ?_
  refine own_bipush X0 hx 15 (27 : Int32) (hb hby own_d8_13) rfl ?_
  refine own_lushr X0 hx 16 (hb hby own_d8_15) ?_
  refine own_lxor X0 hx 17 (hb hby own_d8_16) ?_
  refine own_ldcL X0 hx 20 hown (mvT hZ (hw _ (List.mem_of_getElem? (i := 49) rfl))) (hb hby own_d8_17) ?_
  refine own_lmul X0 hx 21 (hb hby own_d8_20) ?_
  refine own_lstoreN X0 hx 22 #[.val (.long ((((q1 ^^^ ((q1.toUInt64 >>> ((30 : Int32) &&& 0x3f).toInt64.toUInt64).toInt64)) * (-4658895280553007687 : Int64)) ^^^ ((((q1 ^^^ ((q1.toUInt64 >>> ((30 : Int32) &&& 0x3f).toInt64.toUInt64).toInt64)) * (-4658895280553007687 : Int64)).toUInt64 >>> ((27 : Int32) &&& 0x3f).toInt64.toUInt64).toInt64)) * (-7723592293110705685 : Int64))), .second] (hb hby own_d8_21) rfl ?_
  refine own_lloadN X0 hx 23 (hb hby own_d8_22) rfl ?_
  refine own_lloadN X0 hx 24 (hb hby own_d8_23) rfl ?_
  refine own_bipush X0 hx 26 (31 : Int32) (hb hby own_d8_24) rfl ?_
  refine own_lushr X0 hx 27 (hb hby own_d8_26) ?_
  refine own_lxor X0 hx 28 (hb hby own_d8_27) ?_
  exact own_retL (z := (((((q1 ^^^ ((q1.toUInt64 >>> ((30 : Int32) &&& 0x3f).toInt64.toUInt64).toInt64)) * (-4658895280553007687 : Int64)) ^^^ ((((q1 ^^^ ((q1.toUInt64 >>> ((30 : Int32) &&& 0x3f).toInt64.toUInt64).toInt64)) * (-4658895280553007687 : Int64)).toUInt64 >>> ((27 : Int32) &&& 0x3f).toInt64.toUInt64).toInt64)) * (-7723592293110705685 : Int64)) ^^^ ((((((q1 ^^^ ((q1.toUInt64 >>> ((30 : Int32) &&& 0x3f).toInt64.toUInt64).toInt64)) * (-4658895280553007687 : Int64)) ^^^ ((((q1 ^^^ ((q1.toUInt64 >>> ((30 : Int32) &&& 0x3f).toInt64.toUInt64).toInt64)) * (-4658895280553007687 : Int64)).toUInt64 >>> ((27 : Int32) &&& 0x3f).toInt64.toUInt64).toInt64)) * (-7723592293110705685 : Int64)).toUInt64 >>> ((31 : Int32) &&& 0x3f).toInt64.toUInt64).toInt64))) (Q := own_Q8 Z q1 h0 n0) X0 hx hrt (hb hby own_d8_28) hlk e0 ⟨(own_leafJ (show (((((q1 ^^^ ((q1.toUInt64 >>> ((30 : Int32) &&& 0x3f).toInt64.toUInt64).toInt64)) * (-4658895280553007687 : Int64)) ^^^ ((((q1 ^^^ ((q1.toUInt64 >>> ((30 : Int32) &&& 0x3f).toInt64.toUInt64).toInt64)) * (-4658895280553007687 : Int64)).toUInt64 >>> ((27 : Int32) &&& 0x3f).toInt64.toUInt64).toInt64)) * (-7723592293110705685 : Int64)) ^^^ ((((((q1 ^^^ ((q1.toUInt64 >>> ((30 : Int32) &&& 0x3f).toInt64.toUInt64).toInt64)) * (-4658895280553007687 : Int64)) ^^^ ((((q1 ^^^ ((q1.toUInt64 >>> ((30 : Int32) &&& 0x3f).toInt64.toUInt64).toInt64)) * (-4658895280553007687 : Int64)).toUInt64 >>> ((27 : Int32) &&& 0x3f).toInt64.toUInt64).toInt64)) * (-7723592293110705685 : Int64)).toUInt64 >>> ((31 : Int32) &&& 0x3f).toInt64.toUInt64).toInt64)) = own_mix q1 from rfl)), N0, rfl⟩ (by decide) (by decide)
theorem own_d7_0 : decode prog_16_method_3_code 0 = .ok (.aload_n 0, 1) := by decide +kernel
theorem own_d7_1 : decode prog_16_method_3_code 1 = .ok (.lload_n 1, 1) := by decide +kernel
theorem own_d7_2 : decode prog_16_method_3_code 2 = .ok (.putfield 42, 3) := by decide +kernel
theorem own_d7_5 : decode prog_16_method_3_code 5 = .ok (.aload_n 0, 1) := by decide +kernel
theorem own_d7_6 : decode prog_16_method_3_code 6 = .ok (.lload_n 3, 1) := by decide +kernel
theorem own_d7_7 : decode prog_16_method_3_code 7 = .ok (.putfield 46, 3) := by decide +kernel
theorem own_d7_10 : decode prog_16_method_3_code 10 = .ok (.aload_n 0, 1) := by decide +kernel
theorem own_d7_11 : decode prog_16_method_3_code 11 = .ok (.lload_n 1, 1) := by decide +kernel
theorem own_d7_12 : decode prog_16_method_3_code 12 = .ok (.lload_n 3, 1) := by decide +kernel
theorem own_d7_13 : decode prog_16_method_3_code 13 = .ok (.ldc2_w 49, 3) := by decide +kernel
theorem own_d7_16 : decode prog_16_method_3_code 16 = .ok (.lmul, 1) := by decide +kernel
theorem own_d7_17 : decode prog_16_method_3_code 17 = .ok (.ladd, 1) := by decide +kernel
theorem own_d7_18 : decode prog_16_method_3_code 18 = .ok (.invokestatic 38, 3) := by decide +kernel
theorem own_d7_21 : decode prog_16_method_3_code 21 = .ok (.putfield 51, 3) := by decide +kernel
theorem own_d7_24 : decode prog_16_method_3_code 24 = .ok (.return_, 1) := by decide +kernel
theorem own_pd1 : parseMethodDescriptor "(J)J" = some ⟨[.long], some .long⟩ := by decide +kernel
theorem own_ef7 (m : MethodId) (o1 : Addr) (q1 : Int64) (q2 : Int64) : entryFrame m #[(.ref o1), (.long q1), (.long q2)] 5 = mkF m 0 #[.val (.ref o1), .val (.long q1), .second, .val (.long q2), .second] [] := by first | (simp [entryFrame, mkF, argsToLocals, Value.category]; done) | rfl
def own_Q7 (Z : State) (o1 : Addr) (q1 : Int64) (q2 : Int64) (z1 : Int64) (z2 : Int64) (z3 : Int64) (h0 : Heap) (n0 : Nat) (v : Option Value) (h : Heap) (L : List Loc) : Prop := v = none ∧ Fr n0 L ∧ Keep h0 h [o1] ∧ Exa Z h o1 "com/example/loomsand/loomsand/Draws" ∧ Fld Z h o1 "com/example/loomsand/loomsand/Draws" "key" "J" (.long q1) ∧ Fld Z h o1 "com/example/loomsand/loomsand/Draws" "row" "J" (.long q2) ∧ Fld Z h o1 "com/example/loomsand/loomsand/Draws" "state" "J" (.long (own_mix (q1 + (q2 * (-7046029254386353131 : Int64)))))
set_option maxRecDepth 65536 in
set_option maxHeartbeats 40000000 in
theorem own_rm7 (l : Launch) (Z : State) (a0 : Array Value) (hw : ∀ d ∈ tables_1, d.before a0 Z = true) (ws : List Jvm.Cond) (o1 : Addr) (q1 : Int64) (q2 : Int64) (z1 : Int64) (z2 : Int64) (z3 : Int64) (h0 : Heap) (n0 : Nat) (Z0 : n0 ≤ h0.size) (pE1 : Exa Z h0 o1 "com/example/loomsand/loomsand/Draws") (pF2 : Fld Z h0 o1 "com/example/loomsand/loomsand/Draws" "key" "J" (.long z1)) (pF3 : Fld Z h0 o1 "com/example/loomsand/loomsand/Draws" "row" "J" (.long z2)) (pF4 : Fld Z h0 o1 "com/example/loomsand/loomsand/Draws" "state" "J" (.long z3)) (pG5 : n0 ≤ o1) :
    MetFree l (⟨"com/example/loomsand/loomsand/Draws", "start", "(JJ)V"⟩ : MethodName) (head1 (Jvm.Cond.code (⟨"com/example/loomsand/loomsand/Draws", "start", "(JJ)V"⟩ : MethodName) prog_16_method_3_code 5 none :: ws) ({ frames := 1, cells := 0, slots := 0, locals := 14 } : Room)) (fun a U => a = #[(.ref o1), (.long q1), (.long q2)] ∧ Z.Warmed39 U.vm ∧ U.heap = h0) (fun _ _ _ _ _ => True) (fun _ U o U' => ∃ v L, o = .returned v ∧ own_Q7 Z o1 q1 q2 z1 z2 z3 h0 n0 v U'.heap L ∧ FrameEnd U o U' L ({ frames := 1, cells := 0, slots := 0, locals := 14 } : Room).cells ({ frames := 1, cells := 0, slots := 0, locals := 14 } : Room).slots) := by
  refine MetFree.of_bodySF (plainFor_of_name own_pn1) hisR ?_
  intro p e s m args below meth c s₁ Bd hml0 hP hK
  obtain ⟨rfl, hZ, hh⟩ := hP
  have hx := Bd.exec
  have hby := Bd.bytes
  have hlk := Bd.notSynchronized
  have hrt := Bd.returns
  have hml : c.maxLocals = 5 := hml0
  have hown : s.vm.findClass "com/example/loomsand/loomsand/Draws" = some m.cls := findClass_of_methodNamed Bd.named
  have hnm := (name_of_methodNamed Bd.named Bd.method).1
  have X0 : Stand p l e ({ frames := 1, cells := 0, slots := 0, locals := 14 } : Room) s m #[(.ref o1), (.long q1), (.long q2)] below meth c s₁ [] 0 0 := Stand.of_body Bd
  have e0 : s₁.heap = h0 := by rw [← hh, Bd.state]; rfl
  have N0 := Fr.nil n0
  have KC0 := Keep.refl h0 [o1]
  refine own_in (own_ef7 m o1 q1 q2) ?_
  refine own_aloadN X0 hx 1 (hb hby own_d7_0) rfl rfl ?_
  refine own_lloadN X0 hx 2 (hb hby own_d7_1) rfl ?_
  obtain ⟨T1, h1, X1, e1, W1, st1⟩ := putF X0 hx hZ hown (host := "") (Or.inl (hw _ (List.mem_of_getElem? (i := 40) rfl))) Via.refl e0 pF2 pE1 (Or.inl (hw _ (List.mem_of_getElem? (i := 41) rfl))) (hw _ (List.mem_of_getElem? (i := 8) rfl)) (v := (.long q1)) (ty := .long) (by decide) rfl rfl (g := (mkF m 2 #[.val (.ref o1), .val (.long q1), .second, .val (.long q2), .second] [(.long q1), (.ref o1)])) rfl rfl (hb hby own_d7_2)
  have Fw1 := pF2.same W1
  have N1 := Fr.snoc X1 N0 pG5
  have KC2 := KC0.wr W1 (Or.inl (List.mem_of_getElem? (i := 0) rfl))
  have Z3 := Nat.le_trans Z0 (Nat.le_of_eq W1.size.symm)
  refine own_st (G' := T1.setTop (mkF m 5 #[.val (.ref o1), .val (.long q1), .second, .val (.long q2), .second] [])) st1 ?_
  refine own_aloadN X1 hx 6 (hb hby own_d7_5) rfl rfl ?_
  refine own_lloadN X1 hx 7 (hb hby own_d7_6) rfl ?_
  have f4 := (pF3.other W1 (Or.inr (slot_ne (Or.inl (hw _ (List.mem_of_getElem? (i := 43) rfl))) (Or.inl (hw _ (List.mem_of_getElem? (i := 41) rfl))) (by decide) (t := .long) (t' := .long) (by decide) (by decide))))
  have f5 := (pE1.wr W1)
  obtain ⟨T6, h6, X6, e6, W6, st6⟩ := putF X1 hx hZ hown (host := "") (Or.inl (hw _ (List.mem_of_getElem? (i := 42) rfl))) Via.refl e1 f4 f5 (Or.inl (hw _ (List.mem_of_getElem? (i := 43) rfl))) (hw _ (List.mem_of_getElem? (i := 8) rfl)) (v := (.long q2)) (ty := .long) (by decide) rfl rfl (g := (mkF m 7 #[.val (.ref o1), .val (.long q1), .second, .val (.long q2), .second] [(.long q2), (.ref o1)])) rfl rfl (hb hby own_d7_7)
  have Fw6 := f4.same W6
  have N6 := Fr.snoc X6 N1 pG5
  have KC7 := KC2.wr W6 (Or.inl (List.mem_of_getElem? (i := 0) rfl))
  have Z8 := Nat.le_trans Z3 (Nat.le_of_eq W6.size.symm)
  refine own_st (G' := T6.setTop (mkF m 10 #[.val (.ref o1), .val (.long q1), .second, .val (.long q2), .second] [])) st6 ?_
  refine own_aloadN X6 hx 11 (hb hby own_d7_10) rfl rfl ?_
  refine own_lloadN X6 hx 12 (hb hby own_d7_11) rfl ?_
  refine own_lloadN X6 hx 13 (hb hby own_d7_12) rfl ?_
  refine own_ldcL X6 hx 16 hown (mvT hZ (hw _ (List.mem_of_getElem? (i := 44) rfl))) (hb hby own_d7_13) ?_
  refine own_lmul X6 hx 17 (hb hby own_d7_16) ?_
  refine own_ladd X6 hx 18 (hb hby own_d7_17) ?_
  obtain ⟨_, _, ⟨T9, Lx9, kc9, nc9⟩, -, X9, ⟨Lc9, hQ9, lq9, yq9, zq9⟩, st9⟩ := Jvm.LawKit.callS X6 hx (y := (⟨"com/example/loomsand/loomsand/Draws", "mix", "(J)J"⟩ : MethodName)) hown (mvT hZ (hw _ (List.mem_of_getElem? (i := 45) rfl))) (mvT hZ (hw _ (List.mem_of_getElem? (i := 46) rfl))) (mvT hZ (hw _ (List.mem_of_getElem? (i := 9) rfl))) (mvT hZ (hw _ (List.mem_of_getElem? (i := 47) rfl))) (by decide) (backOf (W := 1) (own_rm8 l Z a0 hw [] (q1 + (q2 * (-7046029254386353131 : Int64))) h6 n0 Z8 ) hZ (hw _ (List.mem_of_getElem? (i := 47) rfl)) (hw _ (List.mem_of_getElem? (i := 9) rfl)) (by decide) (by decide)) (g := (mkF m 18 #[.val (.ref o1), .val (.long q1), .second, .val (.long q2), .second] [(.long (q1 + (q2 * (-7046029254386353131 : Int64)))), (.ref o1)])) rfl (by rw [hml]; rfl) (argsL := [(.long (q1 + (q2 * (-7046029254386353131 : Int64))))]) (rest := [(.ref o1)]) (lenOf own_pd1 rfl) rfl (by show 2 * 0 + _ ≤ _; exact Nat.le_of_eq rfl) (hb hby own_d7_18) (fun _ _ => ⟨rfl, e6, (by decide : 0 + 0 ≤ _), (by decide : 0 + 0 ≤ _)⟩)
  dsimp only [Pt.U, Pt.locs, Pt.cells, Pt.slots] at X9 lq9 yq9 zq9 st9 hQ9
  subst lq9 yq9 zq9
  obtain ⟨rfl, Nq9, eh9⟩ := hQ9
  have N9 := Fr.app N6 Nq9
  refine own_st (G' := T9.setTop (mkF m 21 #[.val (.ref o1), .val (.long q1), .second, .val (.long q2), .second] [(.long (own_mix (q1 + (q2 * (-7046029254386353131 : Int64))))), (.ref o1)])) st9 ?_
  have f10 := ((pF4.other W1 (Or.inr (slot_ne (Or.inl (hw _ (List.mem_of_getElem? (i := 51) rfl))) (Or.inl (hw _ (List.mem_of_getElem? (i := 41) rfl))) (by decide) (t := .long) (t' := .long) (by decide) (by decide)))).other W6 (Or.inr (slot_ne (Or.inl (hw _ (List.mem_of_getElem? (i := 51) rfl))) (Or.inl (hw _ (List.mem_of_getElem? (i := 43) rfl))) (by decide) (t := .long) (t' := .long) (by decide) (by decide))))
  have f11 := (f5.wr W6)
  obtain ⟨T12, h12, X12, e12, W12, st12⟩ := putF X9 hx hZ hown (host := "") (Or.inl (hw _ (List.mem_of_getElem? (i := 50) rfl))) Via.refl eh9 f10 f11 (Or.inl (hw _ (List.mem_of_getElem? (i := 51) rfl))) (hw _ (List.mem_of_getElem? (i := 8) rfl)) (v := (.long (own_mix (q1 + (q2 * (-7046029254386353131 : Int64)))))) (ty := .long) (by decide) rfl rfl (g := (mkF m 21 #[.val (.ref o1), .val (.long q1), .second, .val (.long q2), .second] [(.long (own_mix (q1 + (q2 * (-7046029254386353131 : Int64))))), (.ref o1)])) rfl rfl (hb hby own_d7_21)
  have Fw12 := f10.same W12
  have N12 := Fr.snoc X12 N9 pG5
  have KC13 := KC7.wr W12 (Or.inl (List.mem_of_getElem? (i := 0) rfl))
  have Z14 := Nat.le_trans Z8 (Nat.le_of_eq W12.size.symm)
  refine own_st (G' := T12.setTop (mkF m 24 #[.val (.ref o1), .val (.long q1), .second, .val (.long q2), .second] [])) st12 ?_
  have f15 := (f11.wr W12)
  have f16 := ((Fw1.other W6 (Or.inr (slot_ne (Or.inl (hw _ (List.mem_of_getElem? (i := 41) rfl))) (Or.inl (hw _ (List.mem_of_getElem? (i := 43) rfl))) (by decide) (t := .long) (t' := .long) (by decide) (by decide)))).other W12 (Or.inr (slot_ne (Or.inl (hw _ (List.mem_of_getElem? (i := 41) rfl))) (Or.inl (hw _ (List.mem_of_getElem? (i := 51) rfl))) (by decide) (t := .long) (t' := .long) (by decide) (by decide))))
  have f17 := (Fw6.other W12 (Or.inr (slot_ne (Or.inl (hw _ (List.mem_of_getElem? (i := 43) rfl))) (Or.inl (hw _ (List.mem_of_getElem? (i := 51) rfl))) (by decide) (t := .long) (t' := .long) (by decide) (by decide))))
  exact own_retV (Q := own_Q7 Z o1 q1 q2 z1 z2 z3 h0 n0) X12 hx hrt (hb hby own_d7_24) hlk e12 ⟨rfl, N12, KC13, f15, f16, f17, Fw12⟩ (by decide) (by decide)
theorem own_d10_0 : decode prog_16_method_4_code 0 = .ok (.aload_n 0, 1) := by decide +kernel
theorem own_d10_1 : decode prog_16_method_4_code 1 = .ok (.dup, 1) := by decide +kernel
theorem own_d10_2 : decode prog_16_method_4_code 2 = .ok (.getfield 51, 3) := by decide +kernel
theorem own_d10_5 : decode prog_16_method_4_code 5 = .ok (.ldc2_w 49, 3) := by decide +kernel
theorem own_d10_8 : decode prog_16_method_4_code 8 = .ok (.ladd, 1) := by decide +kernel
theorem own_d10_9 : decode prog_16_method_4_code 9 = .ok (.putfield 51, 3) := by decide +kernel
theorem own_d10_12 : decode prog_16_method_4_code 12 = .ok (.aload_n 0, 1) := by decide +kernel
theorem own_d10_13 : decode prog_16_method_4_code 13 = .ok (.getfield 51, 3) := by decide +kernel
theorem own_d10_16 : decode prog_16_method_4_code 16 = .ok (.invokestatic 38, 3) := by decide +kernel
theorem own_d10_19 : decode prog_16_method_4_code 19 = .ok (.lreturn, 1) := by decide +kernel
theorem own_ef10 (m : MethodId) (o1 : Addr) : entryFrame m #[(.ref o1)] 1 = mkF m 0 #[.val (.ref o1)] [] := by first | (simp [entryFrame, mkF, argsToLocals, Value.category]; done) | rfl
def own_Q10 (Z : State) (o1 : Addr) (z1 : Int64) (z2 : Int64) (z3 : Int64) (h0 : Heap) (n0 : Nat) (v : Option Value) (h : Heap) (L : List Loc) : Prop := v = some (.long (own_mix (z3 + (-7046029254386353131 : Int64)))) ∧ Fr n0 L ∧ Keep h0 h [o1] ∧ Exa Z h o1 "com/example/loomsand/loomsand/Draws" ∧ Fld Z h o1 "com/example/loomsand/loomsand/Draws" "key" "J" (.long z1) ∧ Fld Z h o1 "com/example/loomsand/loomsand/Draws" "row" "J" (.long z2) ∧ Fld Z h o1 "com/example/loomsand/loomsand/Draws" "state" "J" (.long (z3 + (-7046029254386353131 : Int64)))
set_option maxRecDepth 65536 in
set_option maxHeartbeats 40000000 in
theorem own_rm10 (l : Launch) (Z : State) (a0 : Array Value) (hw : ∀ d ∈ tables_1, d.before a0 Z = true) (ws : List Jvm.Cond) (o1 : Addr) (z1 : Int64) (z2 : Int64) (z3 : Int64) (h0 : Heap) (n0 : Nat) (Z0 : n0 ≤ h0.size) (pE1 : Exa Z h0 o1 "com/example/loomsand/loomsand/Draws") (pF2 : Fld Z h0 o1 "com/example/loomsand/loomsand/Draws" "key" "J" (.long z1)) (pF3 : Fld Z h0 o1 "com/example/loomsand/loomsand/Draws" "row" "J" (.long z2)) (pF4 : Fld Z h0 o1 "com/example/loomsand/loomsand/Draws" "state" "J" (.long z3)) (pG5 : n0 ≤ o1) :
    MetFree l (⟨"com/example/loomsand/loomsand/Draws", "next", "()J"⟩ : MethodName) (head1 (Jvm.Cond.code (⟨"com/example/loomsand/loomsand/Draws", "next", "()J"⟩ : MethodName) prog_16_method_4_code 1 (some .long) :: ws) ({ frames := 1, cells := 0, slots := 0, locals := 13 } : Room)) (fun a U => a = #[(.ref o1)] ∧ Z.Warmed39 U.vm ∧ U.heap = h0) (fun _ _ _ _ _ => True) (fun _ U o U' => ∃ v L, o = .returned v ∧ own_Q10 Z o1 z1 z2 z3 h0 n0 v U'.heap L ∧ FrameEnd U o U' L ({ frames := 1, cells := 0, slots := 0, locals := 13 } : Room).cells ({ frames := 1, cells := 0, slots := 0, locals := 13 } : Room).slots) := by
  refine MetFree.of_bodySF (plainFor_of_name own_pn1) hisR ?_
  intro p e s m args below meth c s₁ Bd hml0 hP hK
  obtain ⟨rfl, hZ, hh⟩ := hP
  have hx := Bd.exec
  have hby := Bd.bytes
  have hlk := Bd.notSynchronized
  have hrt := Bd.returns
  have hml : c.maxLocals = 1 := hml0
  have hown : s.vm.findClass "com/example/loomsand/loomsand/Draws" = some m.cls := findClass_of_methodNamed Bd.named
  have hnm := (name_of_methodNamed Bd.named Bd.method).1
  have X0 : Stand p l e ({ frames := 1, cells := 0, slots := 0, locals := 13 } : Room) s m #[(.ref o1)] below meth c s₁ [] 0 0 := Stand.of_body Bd
  have e0 : s₁.heap = h0 := by rw [← hh, Bd.state]; rfl
  have N0 := Fr.nil n0
  have KC0 := Keep.refl h0 [o1]
  refine own_in (own_ef10 m o1) ?_
  refine own_aloadN X0 hx 1 (hb hby own_d10_0) rfl rfl ?_
  refine own_dup X0 hx 2 (hb hby own_d10_1) rfl ?_
  obtain ⟨T1, X1, e1, st1⟩ := getF X0 hx hZ hown (host := "") (Or.inl (hw _ (List.mem_of_getElem? (i := 50) rfl))) Via.refl e0 pF4 (g := (mkF m 2 #[.val (.ref o1)] [(.ref o1), (.ref o1)])) rfl rfl (hb hby own_d10_2)
  refine own_st (G' := T1.setTop (mkF m 5 #[.val (.ref o1)] [(.long z3), (.ref o1)])) st1 ?_
  refine own_ldcL X1 hx 8 hown (mvT hZ (hw _ (List.mem_of_getElem? (i := 44) rfl))) (hb hby own_d10_5) ?_
  refine own_ladd X1 hx 9 (hb hby own_d10_8) ?_
  obtain ⟨T2, h2, X2, e2, W2, st2⟩ := putF X1 hx hZ hown (host := "") (Or.inl (hw _ (List.mem_of_getElem? (i := 50) rfl))) Via.refl e1 pF4 pE1 (Or.inl (hw _ (List.mem_of_getElem? (i := 51) rfl))) (hw _ (List.mem_of_getElem? (i := 8) rfl)) (v := (.long (z3 + (-7046029254386353131 : Int64)))) (ty := .long) (by decide) rfl rfl (g := (mkF m 9 #[.val (.ref o1)] [(.long (z3 + (-7046029254386353131 : Int64))), (.ref o1)])) rfl rfl (hb hby own_d10_9)
  have Fw2 := pF4.same W2
  have N2 := Fr.snoc X2 N0 pG5
  have KC3 := KC0.wr W2 (Or.inl (List.mem_of_getElem? (i := 0) rfl))
  have Z4 := Nat.le_trans Z0 (Nat.le_of_eq W2.size.symm)
  refine own_st (G' := T2.setTop (mkF m 12 #[.val (.ref o1)] [])) st2 ?_
  refine own_aloadN X2 hx 13 (hb hby own_d10_12) rfl rfl ?_
  obtain ⟨T5, X5, e5, st5⟩ := getF X2 hx hZ hown (host := "") (Or.inl (hw _ (List.mem_of_getElem? (i := 50) rfl))) Via.refl e2 Fw2 (g := (mkF m 13 #[.val (.ref o1)] [(.ref o1)])) rfl rfl (hb hby own_d10_13)
  refine own_st (G' := T5.setTop (mkF m 16 #[.val (.ref o1)] [(.long (z3 + (-7046029254386353131 : Int64)))])) st5 ?_
  obtain ⟨_, _, ⟨T6, Lx6, kc6, nc6⟩, -, X6, ⟨Lc6, hQ6, lq6, yq6, zq6⟩, st6⟩ := Jvm.LawKit.callS X5 hx (y := (⟨"com/example/loomsand/loomsand/Draws", "mix", "(J)J"⟩ : MethodName)) hown (mvT hZ (hw _ (List.mem_of_getElem? (i := 45) rfl))) (mvT hZ (hw _ (List.mem_of_getElem? (i := 46) rfl))) (mvT hZ (hw _ (List.mem_of_getElem? (i := 9) rfl))) (mvT hZ (hw _ (List.mem_of_getElem? (i := 47) rfl))) (by decide) (backOf (W := 0) (own_rm8 l Z a0 hw [] (z3 + (-7046029254386353131 : Int64)) h2 n0 Z4 ) hZ (hw _ (List.mem_of_getElem? (i := 47) rfl)) (hw _ (List.mem_of_getElem? (i := 9) rfl)) (by decide) (by decide)) (g := (mkF m 16 #[.val (.ref o1)] [(.long (z3 + (-7046029254386353131 : Int64)))])) rfl (by rw [hml]; rfl) (argsL := [(.long (z3 + (-7046029254386353131 : Int64)))]) (rest := []) (lenOf own_pd1 rfl) rfl (by show 2 * 0 + _ ≤ _; exact Nat.le_of_eq rfl) (hb hby own_d10_16) (fun _ _ => ⟨rfl, e5, (by decide : 0 + 0 ≤ _), (by decide : 0 + 0 ≤ _)⟩)
  dsimp only [Pt.U, Pt.locs, Pt.cells, Pt.slots] at X6 lq6 yq6 zq6 st6 hQ6
  subst lq6 yq6 zq6
  obtain ⟨rfl, Nq6, eh6⟩ := hQ6
  have N6 := Fr.app N2 Nq6
  refine own_st (G' := T6.setTop (mkF m 19 #[.val (.ref o1)] [(.long (own_mix (z3 + (-7046029254386353131 : Int64))))])) st6 ?_
  have f7 := (pE1.wr W2)
  have f8 := (pF2.other W2 (Or.inr (slot_ne (Or.inl (hw _ (List.mem_of_getElem? (i := 41) rfl))) (Or.inl (hw _ (List.mem_of_getElem? (i := 51) rfl))) (by decide) (t := .long) (t' := .long) (by decide) (by decide))))
  have f9 := (pF3.other W2 (Or.inr (slot_ne (Or.inl (hw _ (List.mem_of_getElem? (i := 43) rfl))) (Or.inl (hw _ (List.mem_of_getElem? (i := 51) rfl))) (by decide) (t := .long) (t' := .long) (by decide) (by decide))))
  exact own_retL (z := (own_mix (z3 + (-7046029254386353131 : Int64)))) (Q := own_Q10 Z o1 z1 z2 z3 h0 n0) X6 hx hrt (hb hby own_d10_19) hlk eh6 ⟨rfl, N6, KC3, f7, f8, f9, Fw2⟩ (by decide) (by decide)
theorem own_d1_0 : decode jdk_29_method_70_code 0 = .ok (.lload_n 0, 1) := by decide +kernel
theorem own_d1_1 : decode jdk_29_method_70_code 1 = .ok (.lload_n 2, 1) := by decide +kernel
theorem own_d1_2 : decode jdk_29_method_70_code 2 = .ok (.lcmp, 1) := by decide +kernel
theorem own_d1_3 : decode jdk_29_method_70_code 3 = .ok (.ifCond .gt 7, 3) := by decide +kernel
theorem own_d1_6 : decode jdk_29_method_70_code 6 = .ok (.lload_n 0, 1) := by decide +kernel
theorem own_d1_7 : decode jdk_29_method_70_code 7 = .ok (.goto 4, 3) := by decide +kernel
theorem own_d1_10 : decode jdk_29_method_70_code 10 = .ok (.lload_n 2, 1) := by decide +kernel
theorem own_d1_11 : decode jdk_29_method_70_code 11 = .ok (.lreturn, 1) := by decide +kernel
theorem own_ef1 (m : MethodId) (v0 : Int64) (v1 : Int64) : entryFrame m #[(.long v0), (.long v1)] 4 = mkF m 0 #[.val (.long v0), .second, .val (.long v1), .second] [] := by first | (simp [entryFrame, mkF, argsToLocals, Value.category]; done) | rfl
def own_min (v0 : Int64) (v1 : Int64) : Int64 := (if v1 < v0 then v1 else v0)
def own_Q1 (Z : State) (v0 : Int64) (v1 : Int64) (h0 : Heap) (n0 : Nat) (v : Option Value) (h : Heap) (L : List Loc) : Prop := v = some (.long (own_min v0 v1)) ∧ Fr n0 L ∧ h = h0
set_option maxRecDepth 65536 in
set_option maxHeartbeats 40000000 in
theorem own_rm1 (l : Launch) (Z : State) (a0 : Array Value) (hw : ∀ d ∈ tables_1, d.before a0 Z = true) (ws : List Jvm.Cond) (v0 : Int64) (v1 : Int64) (h0 : Heap) (n0 : Nat) (Z0 : n0 ≤ h0.size)  :
    MetFree l (⟨"java/lang/Math", "min", "(JJ)J"⟩ : MethodName) (head1 (Jvm.Cond.code (⟨"java/lang/Math", "min", "(JJ)J"⟩ : MethodName) jdk_29_method_70_code 4 (some .long) :: ws) ({ frames := 0, cells := 0, slots := 0, locals := 0 } : Room)) (fun a U => a = #[(.long v0), (.long v1)] ∧ Z.Warmed39 U.vm ∧ U.heap = h0) (fun _ _ _ _ _ => True) (fun _ U o U' => ∃ v L, o = .returned v ∧ own_Q1 Z v0 v1 h0 n0 v U'.heap L ∧ FrameEnd U o U' L ({ frames := 0, cells := 0, slots := 0, locals := 0 } : Room).cells ({ frames := 0, cells := 0, slots := 0, locals := 0 } : Room).slots) := by
  refine MetFree.of_bodySF (Jvm.Free.JP.mathPlain rfl (by decide +kernel)) hisR ?_
  intro p e s m args below meth c s₁ Bd hml0 hP hK
  obtain ⟨rfl, hZ, hh⟩ := hP
  have hx := Bd.exec
  have hby := Bd.bytes
  have hlk := Bd.notSynchronized
  have hrt := Bd.returns
  have hml : c.maxLocals = 4 := hml0
  have hown : s.vm.findClass "java/lang/Math" = some m.cls := findClass_of_methodNamed Bd.named
  have hnm := (name_of_methodNamed Bd.named Bd.method).1
  have X0 : Stand p l e ({ frames := 0, cells := 0, slots := 0, locals := 0 } : Room) s m #[(.long v0), (.long v1)] below meth c s₁ [] 0 0 := Stand.of_body Bd
  have e0 : s₁.heap = h0 := by rw [← hh, Bd.state]; rfl
  have N0 := Fr.nil n0
  refine own_in (own_ef1 m v0 v1) ?_
  refine own_lloadN X0 hx 1 (hb hby own_d1_0) rfl ?_
  refine own_lloadN X0 hx 2 (hb hby own_d1_1) rfl ?_
  refine own_lcmp X0 hx 3 (hb hby own_d1_2) ?_
  by_cases hc3_1 : v1 < v0
  · refine own_ifYes X0 hx 10 (hb hby own_d1_3) (tlt ((lw_gt _ _).mpr hc3_1)).2.2.1 ?_
    refine own_lloadN X0 hx 11 (hb hby own_d1_10) rfl ?_
    exact own_retL (z := v1) (Q := own_Q1 Z v0 v1 h0 n0) X0 hx hrt (hb hby own_d1_11) hlk e0 ⟨(own_leafJ (show v1 = own_min v0 v1 from by unfold own_min; rw [if_pos hc3_1])), N0, rfl⟩ (by decide) (by decide)
  · refine own_ifNo X0 hx 6 (hb hby own_d1_3) (flt (mt (lw_gt _ _).mp hc3_1)).2.2.1 ?_
    refine own_lloadN X0 hx 7 (hb hby own_d1_6) rfl ?_
    refine own_goto X0 hx 11 (hb hby own_d1_7) ?_
    exact own_retL (z := v0) (Q := own_Q1 Z v0 v1 h0 n0) X0 hx hrt (hb hby own_d1_11) hlk e0 ⟨(own_leafJ (show v0 = own_min v0 v1 from by unfold own_min; rw [if_neg hc3_1])), N0, rfl⟩ (by decide) (by decide)
theorem own_d2_0 : decode jdk_29_method_66_code 0 = .ok (.lload_n 0, 1) := by decide +kernel
theorem own_d2_1 : decode jdk_29_method_66_code 1 = .ok (.lload_n 2, 1) := by decide +kernel
theorem own_d2_2 : decode jdk_29_method_66_code 2 = .ok (.lcmp, 1) := by decide +kernel
theorem own_d2_3 : decode jdk_29_method_66_code 3 = .ok (.ifCond .lt 7, 3) := by decide +kernel
theorem own_d2_6 : decode jdk_29_method_66_code 6 = .ok (.lload_n 0, 1) := by decide +kernel
theorem own_d2_7 : decode jdk_29_method_66_code 7 = .ok (.goto 4, 3) := by decide +kernel
theorem own_d2_10 : decode jdk_29_method_66_code 10 = .ok (.lload_n 2, 1) := by decide +kernel
theorem own_d2_11 : decode jdk_29_method_66_code 11 = .ok (.lreturn, 1) := by decide +kernel
theorem own_ef2 (m : MethodId) (v0 : Int64) (v1 : Int64) : entryFrame m #[(.long v0), (.long v1)] 4 = mkF m 0 #[.val (.long v0), .second, .val (.long v1), .second] [] := by first | (simp [entryFrame, mkF, argsToLocals, Value.category]; done) | rfl
def own_max (v0 : Int64) (v1 : Int64) : Int64 := (if v0 < v1 then v1 else v0)
def own_Q2 (Z : State) (v0 : Int64) (v1 : Int64) (h0 : Heap) (n0 : Nat) (v : Option Value) (h : Heap) (L : List Loc) : Prop := v = some (.long (own_max v0 v1)) ∧ Fr n0 L ∧ h = h0
set_option maxRecDepth 65536 in
set_option maxHeartbeats 40000000 in
theorem own_rm2 (l : Launch) (Z : State) (a0 : Array Value) (hw : ∀ d ∈ tables_1, d.before a0 Z = true) (ws : List Jvm.Cond) (v0 : Int64) (v1 : Int64) (h0 : Heap) (n0 : Nat) (Z0 : n0 ≤ h0.size)  :
    MetFree l (⟨"java/lang/Math", "max", "(JJ)J"⟩ : MethodName) (head1 (Jvm.Cond.code (⟨"java/lang/Math", "max", "(JJ)J"⟩ : MethodName) jdk_29_method_66_code 4 (some .long) :: ws) ({ frames := 0, cells := 0, slots := 0, locals := 0 } : Room)) (fun a U => a = #[(.long v0), (.long v1)] ∧ Z.Warmed39 U.vm ∧ U.heap = h0) (fun _ _ _ _ _ => True) (fun _ U o U' => ∃ v L, o = .returned v ∧ own_Q2 Z v0 v1 h0 n0 v U'.heap L ∧ FrameEnd U o U' L ({ frames := 0, cells := 0, slots := 0, locals := 0 } : Room).cells ({ frames := 0, cells := 0, slots := 0, locals := 0 } : Room).slots) := by
  refine MetFree.of_bodySF (Jvm.Free.JP.mathPlain rfl (by decide +kernel)) hisR ?_
  intro p e s m args below meth c s₁ Bd hml0 hP hK
  obtain ⟨rfl, hZ, hh⟩ := hP
  have hx := Bd.exec
  have hby := Bd.bytes
  have hlk := Bd.notSynchronized
  have hrt := Bd.returns
  have hml : c.maxLocals = 4 := hml0
  have hown : s.vm.findClass "java/lang/Math" = some m.cls := findClass_of_methodNamed Bd.named
  have hnm := (name_of_methodNamed Bd.named Bd.method).1
  have X0 : Stand p l e ({ frames := 0, cells := 0, slots := 0, locals := 0 } : Room) s m #[(.long v0), (.long v1)] below meth c s₁ [] 0 0 := Stand.of_body Bd
  have e0 : s₁.heap = h0 := by rw [← hh, Bd.state]; rfl
  have N0 := Fr.nil n0
  refine own_in (own_ef2 m v0 v1) ?_
  refine own_lloadN X0 hx 1 (hb hby own_d2_0) rfl ?_
  refine own_lloadN X0 hx 2 (hb hby own_d2_1) rfl ?_
  refine own_lcmp X0 hx 3 (hb hby own_d2_2) ?_
  by_cases hc3_1 : v0 < v1
  · refine own_ifYes X0 hx 10 (hb hby own_d2_3) (tlt ((lw_lt _ _).mpr hc3_1)).1 ?_
    refine own_lloadN X0 hx 11 (hb hby own_d2_10) rfl ?_
    exact own_retL (z := v1) (Q := own_Q2 Z v0 v1 h0 n0) X0 hx hrt (hb hby own_d2_11) hlk e0 ⟨(own_leafJ (show v1 = own_max v0 v1 from by unfold own_max; rw [if_pos hc3_1])), N0, rfl⟩ (by decide) (by decide)
  · refine own_ifNo X0 hx 6 (hb hby own_d2_3) (flt (mt (lw_lt _ _).mp hc3_1)).1 ?_
    refine own_lloadN X0 hx 7 (hb hby own_d2_6) rfl ?_
    refine own_goto X0 hx 11 (hb hby own_d2_7) ?_
    exact own_retL (z := v0) (Q := own_Q2 Z v0 v1 h0 n0) X0 hx hrt (hb hby own_d2_11) hlk e0 ⟨(own_leafJ (show v0 = own_max v0 v1 from by unfold own_max; rw [if_neg hc3_1])), N0, rfl⟩ (by decide) (by decide)
theorem own_d12_0 : decode jdk_35_method_42_code 0 = .ok (.lload_n 0, 1) := by decide +kernel
theorem own_d12_1 : decode jdk_35_method_42_code 1 = .ok (.lload_n 2, 1) := by decide +kernel
theorem own_d12_2 : decode jdk_35_method_42_code 2 = .ok (.lcmp, 1) := by decide +kernel
theorem own_d12_3 : decode jdk_35_method_42_code 3 = .ok (.ifCond .ge 7, 3) := by decide +kernel
theorem own_d12_6 : decode jdk_35_method_42_code 6 = .ok (.iconst (-1), 1) := by decide +kernel
theorem own_d12_7 : decode jdk_35_method_42_code 7 = .ok (.goto 14, 3) := by decide +kernel
theorem own_d12_10 : decode jdk_35_method_42_code 10 = .ok (.lload_n 0, 1) := by decide +kernel
theorem own_d12_11 : decode jdk_35_method_42_code 11 = .ok (.lload_n 2, 1) := by decide +kernel
theorem own_d12_12 : decode jdk_35_method_42_code 12 = .ok (.lcmp, 1) := by decide +kernel
theorem own_d12_13 : decode jdk_35_method_42_code 13 = .ok (.ifCond .ne 7, 3) := by decide +kernel
theorem own_d12_16 : decode jdk_35_method_42_code 16 = .ok (.iconst 0, 1) := by decide +kernel
theorem own_d12_17 : decode jdk_35_method_42_code 17 = .ok (.goto 4, 3) := by decide +kernel
theorem own_d12_20 : decode jdk_35_method_42_code 20 = .ok (.iconst 1, 1) := by decide +kernel
theorem own_d12_21 : decode jdk_35_method_42_code 21 = .ok (.ireturn, 1) := by decide +kernel
theorem own_pn2 : plainName "java/lang/Long" = true := by first | (simp [plainName, overriddenIn]; done) | decide +kernel
theorem own_ef12 (m : MethodId) (v0 : Int64) (v1 : Int64) : entryFrame m #[(.long v0), (.long v1)] 4 = mkF m 0 #[.val (.long v0), .second, .val (.long v1), .second] [] := by first | (simp [entryFrame, mkF, argsToLocals, Value.category]; done) | rfl
def own_cmp (v0 : Int64) (v1 : Int64) : Int32 := (if v0 < v1 then (-1 : Int32) else (if v0 = v1 then (0 : Int32) else (1 : Int32)))
def own_Q12 (Z : State) (v0 : Int64) (v1 : Int64) (h0 : Heap) (n0 : Nat) (v : Option Value) (h : Heap) (L : List Loc) : Prop := v = some (.int (own_cmp v0 v1)) ∧ Fr n0 L ∧ h = h0
set_option maxRecDepth 65536 in
set_option maxHeartbeats 40000000 in
theorem own_rm12 (l : Launch) (Z : State) (a0 : Array Value) (hw : ∀ d ∈ tables_1, d.before a0 Z = true) (ws : List Jvm.Cond) (v0 : Int64) (v1 : Int64) (h0 : Heap) (n0 : Nat) (Z0 : n0 ≤ h0.size)  :
    MetFree l (⟨"java/lang/Long", "compare", "(JJ)I"⟩ : MethodName) (head1 (Jvm.Cond.code (⟨"java/lang/Long", "compare", "(JJ)I"⟩ : MethodName) jdk_35_method_42_code 4 (some .int) :: ws) ({ frames := 0, cells := 0, slots := 0, locals := 0 } : Room)) (fun a U => a = #[(.long v0), (.long v1)] ∧ Z.Warmed39 U.vm ∧ U.heap = h0) (fun _ _ _ _ _ => True) (fun _ U o U' => ∃ v L, o = .returned v ∧ own_Q12 Z v0 v1 h0 n0 v U'.heap L ∧ FrameEnd U o U' L ({ frames := 0, cells := 0, slots := 0, locals := 0 } : Room).cells ({ frames := 0, cells := 0, slots := 0, locals := 0 } : Room).slots) := by
  refine MetFree.of_bodySF (plainFor_of_name own_pn2) hisR ?_
  intro p e s m args below meth c s₁ Bd hml0 hP hK
  obtain ⟨rfl, hZ, hh⟩ := hP
  have hx := Bd.exec
  have hby := Bd.bytes
  have hlk := Bd.notSynchronized
  have hrt := Bd.returns
  have hml : c.maxLocals = 4 := hml0
  have hown : s.vm.findClass "java/lang/Long" = some m.cls := findClass_of_methodNamed Bd.named
  have hnm := (name_of_methodNamed Bd.named Bd.method).1
  have X0 : Stand p l e ({ frames := 0, cells := 0, slots := 0, locals := 0 } : Room) s m #[(.long v0), (.long v1)] below meth c s₁ [] 0 0 := Stand.of_body Bd
  have e0 : s₁.heap = h0 := by rw [← hh, Bd.state]; rfl
  have N0 := Fr.nil n0
  refine own_in (own_ef12 m v0 v1) ?_
  refine own_lloadN X0 hx 1 (hb hby own_d12_0) rfl ?_
  refine own_lloadN X0 hx 2 (hb hby own_d12_1) rfl ?_
  refine own_lcmp X0 hx 3 (hb hby own_d12_2) ?_
  by_cases hc3_1 : v0 < v1
  · refine own_ifNo X0 hx 6 (hb hby own_d12_3) (tlt ((lw_lt _ _).mpr hc3_1)).2.1 ?_
    refine own_iconst X0 hx 7 (-1 : Int32) (hb hby own_d12_6) rfl ?_
    refine own_goto X0 hx 21 (hb hby own_d12_7) ?_
    exact own_retI (z := (-1 : Int32)) (Q := own_Q12 Z v0 v1 h0 n0) X0 hx hrt (hb hby own_d12_21) hlk e0 ⟨(own_leafI (show (-1 : Int32) = own_cmp v0 v1 from by unfold own_cmp; rw [if_pos hc3_1])), N0, rfl⟩ (by decide) (by decide)
  · refine own_ifYes X0 hx 10 (hb hby own_d12_3) (flt (mt (lw_lt _ _).mp hc3_1)).2.1 ?_
    refine own_lloadN X0 hx 11 (hb hby own_d12_10) rfl ?_
    refine own_lloadN X0 hx 12 (hb hby own_d12_11) rfl ?_
    refine own_lcmp X0 hx 13 (hb hby own_d12_12) ?_
    by_cases hc13_2 : v0 = v1
    · refine own_ifNo X0 hx 16 (hb hby own_d12_13) (teq ((lw_eq _ _).mpr hc13_2)).2 ?_
      refine own_iconst X0 hx 17 (0 : Int32) (hb hby own_d12_16) rfl ?_
      refine own_goto X0 hx 21 (hb hby own_d12_17) ?_
      exact own_retI (z := (0 : Int32)) (Q := own_Q12 Z v0 v1 h0 n0) X0 hx hrt (hb hby own_d12_21) hlk e0 ⟨(own_leafI (show (0 : Int32) = own_cmp v0 v1 from by unfold own_cmp; rw [if_neg hc3_1, if_pos hc13_2])), N0, rfl⟩ (by decide) (by decide)
    · refine own_ifYes X0 hx 20 (hb hby own_d12_13) (feq (mt (lw_eq _ _).mp hc13_2)).2 ?_
      refine own_iconst X0 hx 21 (1 : Int32) (hb hby own_d12_20) rfl ?_
      exact own_retI (z := (1 : Int32)) (Q := own_Q12 Z v0 v1 h0 n0) X0 hx hrt (hb hby own_d12_21) hlk e0 ⟨(own_leafI (show (1 : Int32) = own_cmp v0 v1 from by unfold own_cmp; rw [if_neg hc3_1, if_neg hc13_2])), N0, rfl⟩ (by decide) (by decide)
theorem own_d11_0 : decode jdk_35_method_43_code 0 = .ok (.lload_n 0, 1) := by decide +kernel
theorem own_d11_1 : decode jdk_35_method_43_code 1 = .ok (.ldc2_w 168, 3) := by decide +kernel
theorem own_d11_4 : decode jdk_35_method_43_code 4 = .ok (.ladd, 1) := by decide +kernel
theorem own_d11_5 : decode jdk_35_method_43_code 5 = .ok (.lload_n 2, 1) := by decide +kernel
theorem own_d11_6 : decode jdk_35_method_43_code 6 = .ok (.ldc2_w 168, 3) := by decide +kernel
theorem own_d11_9 : decode jdk_35_method_43_code 9 = .ok (.ladd, 1) := by decide +kernel
theorem own_d11_10 : decode jdk_35_method_43_code 10 = .ok (.invokestatic 302, 3) := by decide +kernel
theorem own_d11_13 : decode jdk_35_method_43_code 13 = .ok (.ireturn, 1) := by decide +kernel
theorem own_pd2 : parseMethodDescriptor "(JJ)I" = some ⟨[.long, .long], some .int⟩ := by decide +kernel
theorem own_ef11 (m : MethodId) (v0 : Int64) (v1 : Int64) : entryFrame m #[(.long v0), (.long v1)] 4 = mkF m 0 #[.val (.long v0), .second, .val (.long v1), .second] [] := by first | (simp [entryFrame, mkF, argsToLocals, Value.category]; done) | rfl
def own_Q11 (Z : State) (v0 : Int64) (v1 : Int64) (h0 : Heap) (n0 : Nat) (v : Option Value) (h : Heap) (L : List Loc) : Prop := v = some (.int (own_cmp (v0 + (-9223372036854775808 : Int64)) (v1 + (-9223372036854775808 : Int64)))) ∧ Fr n0 L ∧ h = h0
set_option maxRecDepth 65536 in
set_option maxHeartbeats 40000000 in
theorem own_rm11 (l : Launch) (Z : State) (a0 : Array Value) (hw : ∀ d ∈ tables_1, d.before a0 Z = true) (ws : List Jvm.Cond) (v0 : Int64) (v1 : Int64) (h0 : Heap) (n0 : Nat) (Z0 : n0 ≤ h0.size)  :
    MetFree l (⟨"java/lang/Long", "compareUnsigned", "(JJ)I"⟩ : MethodName) (head1 (Jvm.Cond.code (⟨"java/lang/Long", "compareUnsigned", "(JJ)I"⟩ : MethodName) jdk_35_method_43_code 4 (some .int) :: ws) ({ frames := 1, cells := 0, slots := 0, locals := 15 } : Room)) (fun a U => a = #[(.long v0), (.long v1)] ∧ Z.Warmed39 U.vm ∧ U.heap = h0) (fun _ _ _ _ _ => True) (fun _ U o U' => ∃ v L, o = .returned v ∧ own_Q11 Z v0 v1 h0 n0 v U'.heap L ∧ FrameEnd U o U' L ({ frames := 1, cells := 0, slots := 0, locals := 15 } : Room).cells ({ frames := 1, cells := 0, slots := 0, locals := 15 } : Room).slots) := by
  refine MetFree.of_bodySF (plainFor_of_name own_pn2) hisR ?_
  intro p e s m args below meth c s₁ Bd hml0 hP hK
  obtain ⟨rfl, hZ, hh⟩ := hP
  have hx := Bd.exec
  have hby := Bd.bytes
  have hlk := Bd.notSynchronized
  have hrt := Bd.returns
  have hml : c.maxLocals = 4 := hml0
  have hown : s.vm.findClass "java/lang/Long" = some m.cls := findClass_of_methodNamed Bd.named
  have hnm := (name_of_methodNamed Bd.named Bd.method).1
  have X0 : Stand p l e ({ frames := 1, cells := 0, slots := 0, locals := 15 } : Room) s m #[(.long v0), (.long v1)] below meth c s₁ [] 0 0 := Stand.of_body Bd
  have e0 : s₁.heap = h0 := by rw [← hh, Bd.state]; rfl
  have N0 := Fr.nil n0
  refine own_in (own_ef11 m v0 v1) ?_
  refine own_lloadN X0 hx 1 (hb hby own_d11_0) rfl ?_
  refine own_ldcL X0 hx 4 hown (mvT hZ (hw _ (List.mem_of_getElem? (i := 66) rfl))) (hb hby own_d11_1) ?_
  refine own_ladd X0 hx 5 (hb hby own_d11_4) ?_
  refine own_lloadN X0 hx 6 (hb hby own_d11_5) rfl ?_
  refine own_ldcL X0 hx 9 hown (mvT hZ (hw _ (List.mem_of_getElem? (i := 66) rfl))) (hb hby own_d11_6) ?_
  refine own_ladd X0 hx 10 (hb hby own_d11_9) ?_
  obtain ⟨_, _, ⟨T1, Lx1, kc1, nc1⟩, -, X1, ⟨Lc1, hQ1, lq1, yq1, zq1⟩, st1⟩ := Jvm.LawKit.callS X0 hx (y := (⟨"java/lang/Long", "compare", "(JJ)I"⟩ : MethodName)) hown (mvT hZ (hw _ (List.mem_of_getElem? (i := 67) rfl))) (mvT hZ (hw _ (List.mem_of_getElem? (i := 68) rfl))) (mvT hZ (hw _ (List.mem_of_getElem? (i := 64) rfl))) (mvT hZ (hw _ (List.mem_of_getElem? (i := 69) rfl))) (by decide) (backOf (W := 0) (own_rm12 l Z a0 hw [] (v0 + (-9223372036854775808 : Int64)) (v1 + (-9223372036854775808 : Int64)) h0 n0 Z0 ) hZ (hw _ (List.mem_of_getElem? (i := 69) rfl)) (hw _ (List.mem_of_getElem? (i := 64) rfl)) (by decide) (by decide)) (g := (mkF m 10 #[.val (.long v0), .second, .val (.long v1), .second] [(.long (v1 + (-9223372036854775808 : Int64))), (.long (v0 + (-9223372036854775808 : Int64)))])) rfl (by rw [hml]; rfl) (argsL := [(.long (v0 + (-9223372036854775808 : Int64))), (.long (v1 + (-9223372036854775808 : Int64)))]) (rest := []) (lenOf own_pd2 rfl) rfl (by show 2 * 0 + _ ≤ _; exact Nat.le_of_eq rfl) (hb hby own_d11_10) (fun _ _ => ⟨rfl, e0, (by decide : 0 + 0 ≤ _), (by decide : 0 + 0 ≤ _)⟩)
  dsimp only [Pt.U, Pt.locs, Pt.cells, Pt.slots] at X1 lq1 yq1 zq1 st1 hQ1
  subst lq1 yq1 zq1
  obtain ⟨rfl, Nq1, eh1⟩ := hQ1
  have N1 := Fr.app N0 Nq1
  refine own_st (G' := T1.setTop (mkF m 13 #[.val (.long v0), .second, .val (.long v1), .second] [(.int (own_cmp (v0 + (-9223372036854775808 : Int64)) (v1 + (-9223372036854775808 : Int64))))])) st1 ?_
  exact own_retI (z := (own_cmp (v0 + (-9223372036854775808 : Int64)) (v1 + (-9223372036854775808 : Int64)))) (Q := own_Q11 Z v0 v1 h0 n0) X1 hx hrt (hb hby own_d11_13) hlk eh1 ⟨rfl, N1, rfl⟩ (by decide) (by decide)
theorem own_d13_0 : decode jdk_35_method_45_code 0 = .ok (.lload_n 2, 1) := by decide +kernel
theorem own_d13_1 : decode jdk_35_method_45_code 1 = .ok (.lconst 0, 1) := by decide +kernel
theorem own_d13_2 : decode jdk_35_method_45_code 2 = .ok (.lcmp, 1) := by decide +kernel
theorem own_d13_3 : decode jdk_35_method_45_code 3 = .ok (.ifCond .lt 37, 3) := by decide +kernel
theorem own_d13_6 : decode jdk_35_method_45_code 6 = .ok (.lload_n 0, 1) := by decide +kernel
theorem own_d13_7 : decode jdk_35_method_45_code 7 = .ok (.iconst 1, 1) := by decide +kernel
theorem own_d13_8 : decode jdk_35_method_45_code 8 = .ok (.lushr, 1) := by decide +kernel
theorem own_d13_9 : decode jdk_35_method_45_code 9 = .ok (.lload_n 2, 1) := by decide +kernel
theorem own_d13_10 : decode jdk_35_method_45_code 10 = .ok (.ldiv, 1) := by decide +kernel
theorem own_d13_11 : decode jdk_35_method_45_code 11 = .ok (.iconst 1, 1) := by decide +kernel
theorem own_d13_12 : decode jdk_35_method_45_code 12 = .ok (.lshl, 1) := by decide +kernel
theorem own_d13_13 : decode jdk_35_method_45_code 13 = .ok (.lstore 4, 2) := by decide +kernel
theorem own_d13_15 : decode jdk_35_method_45_code 15 = .ok (.lload_n 0, 1) := by decide +kernel
theorem own_d13_16 : decode jdk_35_method_45_code 16 = .ok (.lload 4, 2) := by decide +kernel
theorem own_d13_18 : decode jdk_35_method_45_code 18 = .ok (.lload_n 2, 1) := by decide +kernel
theorem own_d13_19 : decode jdk_35_method_45_code 19 = .ok (.lmul, 1) := by decide +kernel
theorem own_d13_20 : decode jdk_35_method_45_code 20 = .ok (.lsub, 1) := by decide +kernel
theorem own_d13_21 : decode jdk_35_method_45_code 21 = .ok (.lstore 6, 2) := by decide +kernel
theorem own_d13_23 : decode jdk_35_method_45_code 23 = .ok (.lload 6, 2) := by decide +kernel
theorem own_d13_25 : decode jdk_35_method_45_code 25 = .ok (.lload 6, 2) := by decide +kernel
theorem own_d13_27 : decode jdk_35_method_45_code 27 = .ok (.lload_n 2, 1) := by decide +kernel
theorem own_d13_28 : decode jdk_35_method_45_code 28 = .ok (.lsub, 1) := by decide +kernel
theorem own_d13_29 : decode jdk_35_method_45_code 29 = .ok (.ldc2_w 306, 3) := by decide +kernel
theorem own_d13_32 : decode jdk_35_method_45_code 32 = .ok (.lxor, 1) := by decide +kernel
theorem own_d13_33 : decode jdk_35_method_45_code 33 = .ok (.bipush 63, 2) := by decide +kernel
theorem own_d13_35 : decode jdk_35_method_45_code 35 = .ok (.lshr, 1) := by decide +kernel
theorem own_d13_36 : decode jdk_35_method_45_code 36 = .ok (.lload_n 2, 1) := by decide +kernel
theorem own_d13_37 : decode jdk_35_method_45_code 37 = .ok (.land, 1) := by decide +kernel
theorem own_d13_38 : decode jdk_35_method_45_code 38 = .ok (.lsub, 1) := by decide +kernel
theorem own_d13_39 : decode jdk_35_method_45_code 39 = .ok (.lreturn, 1) := by decide +kernel
theorem own_d13_40 : decode jdk_35_method_45_code 40 = .ok (.lload_n 0, 1) := by decide +kernel
theorem own_d13_41 : decode jdk_35_method_45_code 41 = .ok (.lload_n 0, 1) := by decide +kernel
theorem own_d13_42 : decode jdk_35_method_45_code 42 = .ok (.lload_n 0, 1) := by decide +kernel
theorem own_d13_43 : decode jdk_35_method_45_code 43 = .ok (.lload_n 2, 1) := by decide +kernel
theorem own_d13_44 : decode jdk_35_method_45_code 44 = .ok (.lsub, 1) := by decide +kernel
theorem own_d13_45 : decode jdk_35_method_45_code 45 = .ok (.ldc2_w 306, 3) := by decide +kernel
theorem own_d13_48 : decode jdk_35_method_45_code 48 = .ok (.lxor, 1) := by decide +kernel
theorem own_d13_49 : decode jdk_35_method_45_code 49 = .ok (.land, 1) := by decide +kernel
theorem own_d13_50 : decode jdk_35_method_45_code 50 = .ok (.bipush 63, 2) := by decide +kernel
theorem own_d13_52 : decode jdk_35_method_45_code 52 = .ok (.lshr, 1) := by decide +kernel
theorem own_d13_53 : decode jdk_35_method_45_code 53 = .ok (.lload_n 2, 1) := by decide +kernel
theorem own_d13_54 : decode jdk_35_method_45_code 54 = .ok (.land, 1) := by decide +kernel
theorem own_d13_55 : decode jdk_35_method_45_code 55 = .ok (.lsub, 1) := by decide +kernel
theorem own_d13_56 : decode jdk_35_method_45_code 56 = .ok (.lreturn, 1) := by decide +kernel
theorem own_ef13 (m : MethodId) (v0 : Int64) (v1 : Int64) : entryFrame m #[(.long v0), (.long v1)] 8 = mkF m 0 #[.val (.long v0), .second, .val (.long v1), .second, .unset, .unset, .unset, .unset] [] := by first | (simp [entryFrame, mkF, argsToLocals, Value.category]; done) | rfl
def own_remu (v0 : Int64) (v1 : Int64) : Int64 := (if v1 < (0 : Int64) then (v0 - (((v0 &&& ((v0 - v1) ^^^ (-1 : Int64))) >>> ((63 : Int32) &&& 0x3f).toInt64) &&& v1)) else ((v0 - (((((v0.toUInt64 >>> ((1 : Int32) &&& 0x3f).toInt64.toUInt64).toInt64) / v1) <<< ((1 : Int32) &&& 0x3f).toInt64) * v1)) - (((((v0 - (((((v0.toUInt64 >>> ((1 : Int32) &&& 0x3f).toInt64.toUInt64).toInt64) / v1) <<< ((1 : Int32) &&& 0x3f).toInt64) * v1)) - v1) ^^^ (-1 : Int64)) >>> ((63 : Int32) &&& 0x3f).toInt64) &&& v1)))
def own_Q13 (Z : State) (v0 : Int64) (v1 : Int64) (h0 : Heap) (n0 : Nat) (v : Option Value) (h : Heap) (L : List Loc) : Prop := v = some (.long (own_remu v0 v1)) ∧ Fr n0 L ∧ h = h0
set_option maxRecDepth 65536 in
set_option maxHeartbeats 40000000 in
theorem own_rm13 (l : Launch) (Z : State) (a0 : Array Value) (hw : ∀ d ∈ tables_1, d.before a0 Z = true) (ws : List Jvm.Cond) (v0 : Int64) (v1 : Int64) (h0 : Heap) (n0 : Nat) (Z0 : n0 ≤ h0.size) (hz : v1 ≠ (0 : Int64)) :
    MetFree l (⟨"java/lang/Long", "remainderUnsigned", "(JJ)J"⟩ : MethodName) (head1 (Jvm.Cond.code (⟨"java/lang/Long", "remainderUnsigned", "(JJ)J"⟩ : MethodName) jdk_35_method_45_code 8 (some .long) :: ws) ({ frames := 0, cells := 0, slots := 0, locals := 0 } : Room)) (fun a U => a = #[(.long v0), (.long v1)] ∧ Z.Warmed39 U.vm ∧ U.heap = h0) (fun _ _ _ _ _ => True) (fun _ U o U' => ∃ v L, o = .returned v ∧ own_Q13 Z v0 v1 h0 n0 v U'.heap L ∧ FrameEnd U o U' L ({ frames := 0, cells := 0, slots := 0, locals := 0 } : Room).cells ({ frames := 0, cells := 0, slots := 0, locals := 0 } : Room).slots) := by
  refine MetFree.of_bodySF (plainFor_of_name own_pn2) hisR ?_
  intro p e s m args below meth c s₁ Bd hml0 hP hK
  obtain ⟨rfl, hZ, hh⟩ := hP
  have hx := Bd.exec
  have hby := Bd.bytes
  have hlk := Bd.notSynchronized
  have hrt := Bd.returns
  have hml : c.maxLocals = 8 := hml0
  have hown : s.vm.findClass "java/lang/Long" = some m.cls := findClass_of_methodNamed Bd.named
  have hnm := (name_of_methodNamed Bd.named Bd.method).1
  have X0 : Stand p l e ({ frames := 0, cells := 0, slots := 0, locals := 0 } : Room) s m #[(.long v0), (.long v1)] below meth c s₁ [] 0 0 := Stand.of_body Bd
  have e0 : s₁.heap = h0 := by rw [← hh, Bd.state]; rfl
  have N0 := Fr.nil n0
  refine own_in (own_ef13 m v0 v1) ?_
  refine own_lloadN X0 hx 1 (hb hby own_d13_0) rfl ?_
  refine own_lconst X0 hx 2 (0 : Int64) (hb hby own_d13_1) rfl ?_
  refine own_lcmp X0 hx 3 (hb hby own_d13_2) ?_
  by_cases hc3_1 : v1 < (0 : Int64)
  · refine own_ifYes X0 hx 40 (hb hby own_d13_3) (tlt ((lw_lt _ _).mpr hc3_1)).1 ?_
    refine own_lloadN X0 hx 41 (hb hby own_d13_40) rfl ?_
    refine own_lloadN X0 hx 42 (hb hby own_d13_41) rfl ?_
    refine own_lloadN X0 hx 43 (hb hby own_d13_42) rfl ?_
    refine own_lloadN X0 hx 44 (hb hby own_d13_43) rfl ?_
    refine own_lsub X0 hx 45 (hb hby own_d13_44) ?_
    refine own_ldcL X0 hx 48 hown (mvT hZ (hw _ (List.mem_of_getElem? (i := 73) rfl))) (hb hby own_d13_45) ?_
    refine own_lxor X0 hx 49 (hb hby own_d13_48) ?_
    refine own_land X0 hx 50 (hb hby own_d13_49) ?_
    refine own_bipush X0 hx 52 (63 : Int32) (hb hby own_d13_50) rfl ?_
    refine own_lshr X0 hx 53 (hb hby own_d13_52) ?_
    refine own_lloadN X0 hx 54 (hb hby own_d13_53) rfl ?_
    refine own_land X0 hx 55 (hb hby own_d13_54) ?_
    refine own_lsub X0 hx 56 (hb hby own_d13_55) ?_
    exact own_retL (z := (v0 - (((v0 &&& ((v0 - v1) ^^^ (-1 : Int64))) >>> ((63 : Int32) &&& 0x3f).toInt64) &&& v1))) (Q := own_Q13 Z v0 v1 h0 n0) X0 hx hrt (hb hby own_d13_56) hlk e0 ⟨(own_leafJ (show (v0 - (((v0 &&& ((v0 - v1) ^^^ (-1 : Int64))) >>> ((63 : Int32) &&& 0x3f).toInt64) &&& v1)) = own_remu v0 v1 from by unfold own_remu; rw [if_pos hc3_1])), N0, rfl⟩ (by decide) (by decide)
  · refine own_ifNo X0 hx 6 (hb hby own_d13_3) (flt (mt (lw_lt _ _).mp hc3_1)).1 ?_
    refine own_lloadN X0 hx 7 (hb hby own_d13_6) rfl ?_
    refine own_iconst X0 hx 8 (1 : Int32) (hb hby own_d13_7) rfl ?_
    refine own_lushr X0 hx 9 (hb hby own_d13_8) ?_
    refine own_lloadN X0 hx 10 (hb hby own_d13_9) rfl ?_
    refine own_ldiv X0 hx 11 (hb hby own_d13_10) (hz : v1 ≠ 0) ?_
    refine own_iconst X0 hx 12 (1 : Int32) (hb hby own_d13_11) rfl ?_
    refine own_lshl X0 hx 13 (hb hby own_d13_12) ?_
    refine own_lstore X0 hx 15 #[.val (.long v0), .second, .val (.long v1), .second, .val (.long ((((v0.toUInt64 >>> ((1 : Int32) &&& 0x3f).toInt64.toUInt64).toInt64) / v1) <<< ((1 : Int32) &&& 0x3f).toInt64)), .second, .unset, .unset] (hb hby own_d13_13) rfl ?_
    refine own_lloadN X0 hx 16 (hb hby own_d13_15) rfl ?_
    refine own_lload X0 hx 18 (hb hby own_d13_16) rfl ?_
    refine own_lloadN X0 hx 19 (hb hby own_d13_18) rfl ?_
    refine own_lmul X0 hx 20 (hb hby own_d13_19) ?_
    refine own_lsub X0 hx 21 (hb hby own_d13_20) ?_
    refine own_lstore X0 hx 23 #[.val (.long v0), .second, .val (.long v1), .second, .val (.long ((((v0.toUInt64 >>> ((1 : Int32) &&& 0x3f).toInt64.toUInt64).toInt64) / v1) <<< ((1 : Int32) &&& 0x3f).toInt64)), .second, .val (.long (v0 - (((((v0.toUInt64 >>> ((1 : Int32) &&& 0x3f).toInt64.toUInt64).toInt64) / v1) <<< ((1 : Int32) &&& 0x3f).toInt64) * v1))), .second] (hb hby own_d13_21) rfl ?_
    refine own_lload X0 hx 25 (hb hby own_d13_23) rfl ?_
    refine own_lload X0 hx 27 (hb hby own_d13_25) rfl ?_
    refine own_lloadN X0 hx 28 (hb hby own_d13_27) rfl ?_
    refine own_lsub X0 hx 29 (hb hby own_d13_28) ?_
    refine own_ldcL X0 hx 32 hown (mvT hZ (hw _ (List.mem_of_getElem? (i := 73) rfl))) (hb hby own_d13_29) ?_
    refine own_lxor X0 hx 33 (hb hby own_d13_32) ?_
    refine own_bipush X0 hx 35 (63 : Int32) (hb hby own_d13_33) rfl ?_
    refine own_lshr X0 hx 36 (hb hby own_d13_35) ?_
    refine own_lloadN X0 hx 37 (hb hby own_d13_36) rfl ?_
    refine own_land X0 hx 38 (hb hby own_d13_37) ?_
    refine own_lsub X0 hx 39 (hb hby own_d13_38) ?_
    exact own_retL (z := ((v0 - (((((v0.toUInt64 >>> ((1 : Int32) &&& 0x3f).toInt64.toUInt64).toInt64) / v1) <<< ((1 : Int32) &&& 0x3f).toInt64) * v1)) - (((((v0 - (((((v0.toUInt64 >>> ((1 : Int32) &&& 0x3f).toInt64.toUInt64).toInt64) / v1) <<< ((1 : Int32) &&& 0x3f).toInt64) * v1)) - v1) ^^^ (-1 : Int64)) >>> ((63 : Int32) &&& 0x3f).toInt64) &&& v1))) (Q := own_Q13 Z v0 v1 h0 n0) X0 hx hrt (hb hby own_d13_39) hlk e0 ⟨(own_leafJ (show ((v0 - (((((v0.toUInt64 >>> ((1 : Int32) &&& 0x3f).toInt64.toUInt64).toInt64) / v1) <<< ((1 : Int32) &&& 0x3f).toInt64) * v1)) - (((((v0 - (((((v0.toUInt64 >>> ((1 : Int32) &&& 0x3f).toInt64.toUInt64).toInt64) / v1) <<< ((1 : Int32) &&& 0x3f).toInt64) * v1)) - v1) ^^^ (-1 : Int64)) >>> ((63 : Int32) &&& 0x3f).toInt64) &&& v1)) = own_remu v0 v1 from by unfold own_remu; rw [if_neg hc3_1])), N0, rfl⟩ (by decide) (by decide)
/-- the state at which the mixer gives the greatest unsigned word, and the inverse of the stride: from every state the stride comes there -/
def own_mu (st : Int64) : Nat := (((-3487469807577879104 : Int64) - st) * (-1018231460777725123 : Int64)).toBitVec.toNat
theorem own_top : own_mix (-3487469807577879104 : Int64) = (-1 : Int64) := by decide +kernel
theorem own_mu0 {st : Int64} (h : own_mu st = 0) : st = (-3487469807577879104 : Int64) := by
  unfold own_mu at h
  have h1 : (((-3487469807577879104 : Int64) - st) * (-1018231460777725123 : Int64)) = 0 := by
    apply Int64.toBitVec_inj.mp
    apply BitVec.eq_of_toNat_eq
    rw [h]; rfl
  have h2 : ((((-3487469807577879104 : Int64) - st) * (-1018231460777725123 : Int64)) * (-7046029254386353131 : Int64)) = 0 := by rw [h1]; rfl
  rw [Int64.mul_assoc, show ((-1018231460777725123 : Int64) * (-7046029254386353131 : Int64)) = 1 from by decide +kernel, Int64.mul_one] at h2
  have h3 := congrArg (fun z => z + st) h2
  simp only [Int64.sub_add_cancel, Int64.zero_add] at h3
  exact h3.symm
theorem own_muS {st : Int64} (h : own_mu st ≠ 0) : own_mu st = own_mu (st + (-7046029254386353131 : Int64)) + 1 := by
  unfold own_mu at h ⊢
  have e : (((-3487469807577879104 : Int64) - (st + (-7046029254386353131 : Int64))) * (-1018231460777725123 : Int64)) = (((-3487469807577879104 : Int64) - st) * (-1018231460777725123 : Int64)) - 1 := by
    rw [← Int64.sub_sub, Int64.sub_mul, show ((-7046029254386353131 : Int64) * (-1018231460777725123 : Int64)) = 1 from by decide +kernel]
  rw [e]
  generalize (((-3487469807577879104 : Int64) - st) * (-1018231460777725123 : Int64)) = y at *
  have q : (y - 1).toBitVec.toNat = y.toBitVec.toNat - 1 := by
    rw [Int64.toBitVec_sub, BitVec.toNat_sub]
    have := y.toBitVec.isLt
    have o1 : (1 : Int64).toBitVec.toNat = 1 := rfl
    rw [o1]
    omega
  rw [q]; omega

theorem own_last {n : Int32} (h : 0 < n.toInt) : ¬ (n - (1 : Int32)) < 0 ∧ (n - (1 : Int32)) < n := by
  have h1 := c_isub n 1
  have h2 := rng32 n
  have h3 := rng32 (n - 1)
  have e1 : (1 : Int32).toInt = 1 := rfl
  have e0 : (0 : Int32).toInt = 0 := rfl
  rw [Int32.lt_iff_toInt_lt, Int32.lt_iff_toInt_lt, e0]
  constructor <;> omega
def own_rej : Nat → Int64 → Int64 → Int64
  | 0, st, rj => own_mix st
  | n + 1, st, rj => if (own_cmp ((own_mix st) + (-9223372036854775808 : Int64)) (rj + (-9223372036854775808 : Int64))) < (0 : Int32) then own_rej n (st + (-7046029254386353131 : Int64)) rj else own_mix st
/-- what between draws from the state st (its first draw's state) -/
def own_btw (q1 q2 st : Int64) : Int64 :=
  if ((q2 - q1) + (1 : Int64)) = (0 : Int64) then own_mix st
  else if (own_cmp ((own_mix st) + (-9223372036854775808 : Int64)) (((q2 - q1) + (1 : Int64)) + (-9223372036854775808 : Int64))) < (0 : Int32) then (q1 + (own_remu (own_rej (own_mu st) st (own_remu (-((q2 - q1) + (1 : Int64))) ((q2 - q1) + (1 : Int64)))) ((q2 - q1) + (1 : Int64))))
  else (q1 + (own_remu (own_mix st) ((q2 - q1) + (1 : Int64))))
theorem own_rej_succ (n : Nat) (st rj : Int64) : own_rej (n + 1) st rj = if (own_cmp ((own_mix st) + (-9223372036854775808 : Int64)) (rj + (-9223372036854775808 : Int64))) < (0 : Int32) then own_rej n (st + (-7046029254386353131 : Int64)) rj else own_mix st := rfl
theorem own_cmp_top (b : Int64) : ¬ (own_cmp ((-1 : Int64) + (-9223372036854775808 : Int64)) (b + (-9223372036854775808 : Int64)) < (0 : Int32)) := by
  unfold own_cmp
  have h1 : ((-1 : Int64) + (-9223372036854775808 : Int64)) = (9223372036854775807 : Int64) := by decide +kernel
  rw [h1]
  generalize b + (-9223372036854775808 : Int64) = y
  have hr := rng64 y
  repeat' split
  · rename_i h; rw [Int64.lt_iff_toInt_lt] at h; have e : (9223372036854775807 : Int64).toInt = 9223372036854775807 := rfl; omega
  · decide
  · decide
theorem own_rejS {st rj : Int64} (h : (own_cmp ((own_mix st) + (-9223372036854775808 : Int64)) (rj + (-9223372036854775808 : Int64))) < (0 : Int32)) : own_mu (st + (-7046029254386353131 : Int64)) < own_mu st ∧ own_rej (own_mu st) st rj = own_rej (own_mu (st + (-7046029254386353131 : Int64))) (st + (-7046029254386353131 : Int64)) rj := by
  have h0 : own_mu st ≠ 0 := fun e => by
    rw [own_mu0 e, own_top] at h; exact own_cmp_top rj h
  have h1 := own_muS h0
  refine ⟨by omega, ?_⟩
  rw [h1, own_rej_succ, if_pos h]
theorem own_rejN {st rj : Int64} (h : ¬ ((own_cmp ((own_mix st) + (-9223372036854775808 : Int64)) (rj + (-9223372036854775808 : Int64))) < (0 : Int32))) : own_rej (own_mu st) st rj = own_mix st := by
  cases hm : own_mu st with
  | zero => rfl
  | succ n => rw [own_rej_succ, if_neg h]
theorem own_d9_0 : decode prog_16_method_5_code 0 = .ok (.lload_n 1, 1) := by decide +kernel
theorem own_d9_1 : decode prog_16_method_5_code 1 = .ok (.lload_n 3, 1) := by decide +kernel
theorem own_d9_2 : decode prog_16_method_5_code 2 = .ok (.lcmp, 1) := by decide +kernel
theorem own_d9_3 : decode prog_16_method_5_code 3 = .ok (.ifCond .le 18, 3) := by decide +kernel
theorem own_d9_21 : decode prog_16_method_5_code 21 = .ok (.lload_n 3, 1) := by decide +kernel
theorem own_d9_22 : decode prog_16_method_5_code 22 = .ok (.lload_n 1, 1) := by decide +kernel
theorem own_d9_23 : decode prog_16_method_5_code 23 = .ok (.lsub, 1) := by decide +kernel
theorem own_d9_24 : decode prog_16_method_5_code 24 = .ok (.lconst 1, 1) := by decide +kernel
theorem own_d9_25 : decode prog_16_method_5_code 25 = .ok (.ladd, 1) := by decide +kernel
theorem own_d9_26 : decode prog_16_method_5_code 26 = .ok (.lstore 5, 2) := by decide +kernel
theorem own_d9_28 : decode prog_16_method_5_code 28 = .ok (.aload_n 0, 1) := by decide +kernel
theorem own_d9_29 : decode prog_16_method_5_code 29 = .ok (.invokevirtual 63, 3) := by decide +kernel
theorem own_d9_32 : decode prog_16_method_5_code 32 = .ok (.lstore 7, 2) := by decide +kernel
theorem own_d9_34 : decode prog_16_method_5_code 34 = .ok (.lload 5, 2) := by decide +kernel
theorem own_d9_36 : decode prog_16_method_5_code 36 = .ok (.lconst 0, 1) := by decide +kernel
theorem own_d9_37 : decode prog_16_method_5_code 37 = .ok (.lcmp, 1) := by decide +kernel
theorem own_d9_38 : decode prog_16_method_5_code 38 = .ok (.ifCond .ne 6, 3) := by decide +kernel
theorem own_d9_41 : decode prog_16_method_5_code 41 = .ok (.lload 7, 2) := by decide +kernel
theorem own_d9_43 : decode prog_16_method_5_code 43 = .ok (.lreturn, 1) := by decide +kernel
theorem own_d9_44 : decode prog_16_method_5_code 44 = .ok (.lload 7, 2) := by decide +kernel
theorem own_d9_46 : decode prog_16_method_5_code 46 = .ok (.lload 5, 2) := by decide +kernel
theorem own_d9_48 : decode prog_16_method_5_code 48 = .ok (.invokestatic 67, 3) := by decide +kernel
theorem own_d9_51 : decode prog_16_method_5_code 51 = .ok (.ifCond .ge 32, 3) := by decide +kernel
theorem own_d9_54 : decode prog_16_method_5_code 54 = .ok (.lload 5, 2) := by decide +kernel
theorem own_d9_56 : decode prog_16_method_5_code 56 = .ok (.lneg, 1) := by decide +kernel
theorem own_d9_57 : decode prog_16_method_5_code 57 = .ok (.lload 5, 2) := by decide +kernel
theorem own_d9_59 : decode prog_16_method_5_code 59 = .ok (.invokestatic 73, 3) := by decide +kernel
theorem own_d9_62 : decode prog_16_method_5_code 62 = .ok (.lstore 9, 2) := by decide +kernel
theorem own_d9_64 : decode prog_16_method_5_code 64 = .ok (.lload 7, 2) := by decide +kernel
theorem own_d9_66 : decode prog_16_method_5_code 66 = .ok (.lload 9, 2) := by decide +kernel
theorem own_d9_68 : decode prog_16_method_5_code 68 = .ok (.invokestatic 67, 3) := by decide +kernel
theorem own_d9_71 : decode prog_16_method_5_code 71 = .ok (.ifCond .ge 12, 3) := by decide +kernel
theorem own_d9_74 : decode prog_16_method_5_code 74 = .ok (.aload_n 0, 1) := by decide +kernel
theorem own_d9_75 : decode prog_16_method_5_code 75 = .ok (.invokevirtual 63, 3) := by decide +kernel
theorem own_d9_78 : decode prog_16_method_5_code 78 = .ok (.lstore 7, 2) := by decide +kernel
theorem own_d9_80 : decode prog_16_method_5_code 80 = .ok (.goto (-16), 3) := by decide +kernel
theorem own_d9_83 : decode prog_16_method_5_code 83 = .ok (.lload_n 1, 1) := by decide +kernel
theorem own_d9_84 : decode prog_16_method_5_code 84 = .ok (.lload 7, 2) := by decide +kernel
theorem own_d9_86 : decode prog_16_method_5_code 86 = .ok (.lload 5, 2) := by decide +kernel
theorem own_d9_88 : decode prog_16_method_5_code 88 = .ok (.invokestatic 73, 3) := by decide +kernel
theorem own_d9_91 : decode prog_16_method_5_code 91 = .ok (.ladd, 1) := by decide +kernel
theorem own_d9_92 : decode prog_16_method_5_code 92 = .ok (.lreturn, 1) := by decide +kernel
theorem own_pd3 : parseMethodDescriptor "()J" = some ⟨[], some .long⟩ := by decide +kernel
theorem own_pd4 : parseMethodDescriptor "(JJ)J" = some ⟨[.long, .long], some .long⟩ := by decide +kernel
theorem own_ef9 (m : MethodId) (o1 : Addr) (q1 : Int64) (q2 : Int64) : entryFrame m #[(.ref o1), (.long q1), (.long q2)] 11 = mkF m 0 #[.val (.ref o1), .val (.long q1), .second, .val (.long q2), .second, .unset, .unset, .unset, .unset, .unset, .unset] [] := by first | (simp [entryFrame, mkF, argsToLocals, Value.category]; done) | rfl
def own_Q9 (Z : State) (o1 : Addr) (q1 : Int64) (q2 : Int64) (z1 : Int64) (z2 : Int64) (z3 : Int64) (h0 : Heap) (n0 : Nat) (v : Option Value) (h : Heap) (L : List Loc) : Prop := ∃ zz : Int64, v = some (.long (own_btw q1 q2 (z3 + (-7046029254386353131 : Int64)))) ∧ Fr n0 L ∧ Keep h0 h [o1] ∧ Exa Z h o1 "com/example/loomsand/loomsand/Draws" ∧ Fld Z h o1 "com/example/loomsand/loomsand/Draws" "key" "J" (.long z1) ∧ Fld Z h o1 "com/example/loomsand/loomsand/Draws" "row" "J" (.long z2) ∧ Fld Z h o1 "com/example/loomsand/loomsand/Draws" "state" "J" (.long zz)
set_option maxRecDepth 65536 in
set_option maxHeartbeats 40000000 in
theorem own_rm9 (l : Launch) (Z : State) (a0 : Array Value) (hw : ∀ d ∈ tables_1, d.before a0 Z = true) (ws : List Jvm.Cond) (o1 : Addr) (q1 : Int64) (q2 : Int64) (z1 : Int64) (z2 : Int64) (z3 : Int64) (h0 : Heap) (n0 : Nat) (Z0 : n0 ≤ h0.size) (pE1 : Exa Z h0 o1 "com/example/loomsand/loomsand/Draws") (pF2 : Fld Z h0 o1 "com/example/loomsand/loomsand/Draws" "key" "J" (.long z1)) (pF3 : Fld Z h0 o1 "com/example/loomsand/loomsand/Draws" "row" "J" (.long z2)) (pF4 : Fld Z h0 o1 "com/example/loomsand/loomsand/Draws" "state" "J" (.long z3)) (pG5 : n0 ≤ o1) (hle : ¬ (q2 < q1)) :
    MetFree l (⟨"com/example/loomsand/loomsand/Draws", "between", "(JJ)J"⟩ : MethodName) (head1 (Jvm.Cond.code (⟨"com/example/loomsand/loomsand/Draws", "between", "(JJ)J"⟩ : MethodName) prog_16_method_5_code 11 (some .long) :: ws) ({ frames := 2, cells := 0, slots := 0, locals := 30 } : Room)) (fun a U => a = #[(.ref o1), (.long q1), (.long q2)] ∧ Z.Warmed39 U.vm ∧ U.heap = h0) (fun _ _ _ _ _ => True) (fun _ U o U' => ∃ v L, o = .returned v ∧ own_Q9 Z o1 q1 q2 z1 z2 z3 h0 n0 v U'.heap L ∧ FrameEnd U o U' L ({ frames := 2, cells := 0, slots := 0, locals := 30 } : Room).cells ({ frames := 2, cells := 0, slots := 0, locals := 30 } : Room).slots) := by
  refine MetFree.of_bodySF (plainFor_of_name own_pn1) hisR ?_
  intro p e s m args below meth c s₁ Bd hml0 hP hK
  obtain ⟨rfl, hZ, hh⟩ := hP
  have hx := Bd.exec
  have hby := Bd.bytes
  have hlk := Bd.notSynchronized
  have hrt := Bd.returns
  have hml : c.maxLocals = 11 := hml0
  have hown : s.vm.findClass "com/example/loomsand/loomsand/Draws" = some m.cls := findClass_of_methodNamed Bd.named
  have hnm := (name_of_methodNamed Bd.named Bd.method).1
  have X0 : Stand p l e ({ frames := 2, cells := 0, slots := 0, locals := 30 } : Room) s m #[(.ref o1), (.long q1), (.long q2)] below meth c s₁ [] 0 0 := Stand.of_body Bd
  have e0 : s₁.heap = h0 := by rw [← hh, Bd.state]; rfl
  have N0 := Fr.nil n0
  have KC0 := Keep.refl h0 [o1]
  refine own_in (own_ef9 m o1 q1 q2) ?_
  refine own_lloadN X0 hx 1 (hb hby own_d9_0) rfl ?_
  refine own_lloadN X0 hx 2 (hb hby own_d9_1) rfl ?_
  refine own_lcmp X0 hx 3 (hb hby own_d9_2) ?_
  refine own_ifYes X0 hx 21 (hb hby own_d9_3) (flt (mt (lw_gt _ _).mp hle)).2.2.2 ?_
  refine own_lloadN X0 hx 22 (hb hby own_d9_21) rfl ?_
  refine own_lloadN X0 hx 23 (hb hby own_d9_22) rfl ?_
  refine own_lsub X0 hx 24 (hb hby own_d9_23) ?_
  refine own_lconst X0 hx 25 (1 : Int64) (hb hby own_d9_24) rfl ?_
  refine own_ladd X0 hx 26 (hb hby own_d9_25) ?_
  refine own_lstore X0 hx 28 #[.val (.ref o1), .val (.long q1), .second, .val (.long q2), .second, .val (.long ((q2 - q1) + (1 : Int64))), .second, .unset, .unset, .unset, .unset] (hb hby own_d9_26) rfl ?_
  refine own_aloadN X0 hx 29 (hb hby own_d9_28) rfl rfl ?_
  obtain ⟨cq1, kq1, q1a, q1b, q1c⟩ := isOf hZ e0 pE1
  obtain ⟨_, _, ⟨T1, Lx1, kc1, nc1⟩, -, X1, ⟨Lc1, hQ1, lq1, yq1, zq1⟩, st1⟩ := X0.virtualBack hx (y := (⟨"com/example/loomsand/loomsand/Draws", "next", "()J"⟩ : MethodName)) (z := (⟨"com/example/loomsand/loomsand/Draws", "next", "()J"⟩ : MethodName)) hown (mvT hZ (hw _ (List.mem_of_getElem? (i := 57) rfl))) (mvT hZ (hw _ (List.mem_of_getElem? (i := 58) rfl))) (notFace_of_selects (args := #[]) (mvT hZ (hw _ (List.mem_of_getElem? (i := 60) rfl)))) (mvT hZ (hw _ (List.mem_of_getElem? (i := 60) rfl))) (mvT hZ (hw _ (List.mem_of_getElem? (i := 59) rfl))) (by decide) (backOf (W := 0) (own_rm10 l Z a0 hw [] o1 z1 z2 z3 h0 n0 Z0 pE1 pF2 pF3 pF4 pG5) hZ (hw _ (List.mem_of_getElem? (i := 61) rfl)) (hw _ (List.mem_of_getElem? (i := 9) rfl)) (by decide) (by decide)) q1a q1c (g := (mkF m 29 #[.val (.ref o1), .val (.long q1), .second, .val (.long q2), .second, .val (.long ((q2 - q1) + (1 : Int64))), .second, .unset, .unset, .unset, .unset] [(.ref o1)])) rfl (by rw [hml]; rfl) (Steps.refl _) (argsL := []) (rest := []) (lenOf own_pd3 rfl) rfl (by show 2 * 0 + _ ≤ _; exact Nat.le_of_eq rfl) (hb hby own_d9_29) (fun _ _ => ⟨rfl, e0, (by decide : 0 + 0 ≤ _), (by decide : 0 + 0 ≤ _)⟩)
  dsimp only [Pt.U, Pt.locs, Pt.cells, Pt.slots] at X1 lq1 yq1 zq1 st1 hQ1
  subst lq1 yq1 zq1
  obtain ⟨rfl, Nq1, Kp1, G1_0, G1_1, G1_2, G1_3⟩ := hQ1
  have N1 := Fr.app N0 Nq1
  have KC2 := KC0.trans Kp1 (allS (Or.inl (List.mem_of_getElem? (i := 0) rfl)) all0)
  have Z3 := Nat.le_trans Z0 Kp1.1
  refine own_st (G' := T1.setTop (mkF m 32 #[.val (.ref o1), .val (.long q1), .second, .val (.long q2), .second, .val (.long ((q2 - q1) + (1 : Int64))), .second, .unset, .unset, .unset, .unset] [(.long (own_mix (z3 + (-7046029254386353131 : Int64))))])) (fun t k => st1.trans k) ?_
  refine own_lstore X1 hx 34 #[.val (.ref o1), .val (.long q1), .second, .val (.long q2), .second, .val (.long ((q2 - q1) + (1 : Int64))), .second, .val (.long (own_mix (z3 + (-7046029254386353131 : Int64)))), .second, .unset, .unset] (hb hby own_d9_32) rfl ?_
  refine own_lload X1 hx 36 (hb hby own_d9_34) rfl ?_
  refine own_lconst X1 hx 37 (0 : Int64) (hb hby own_d9_36) rfl ?_
  refine own_lcmp X1 hx 38 (hb hby own_d9_37) ?_
  by_cases hc38_4 : ((q2 - q1) + (1 : Int64)) = (0 : Int64)
  · refine own_ifNo X1 hx 41 (hb hby own_d9_38) (teq ((lw_eq _ _).mpr hc38_4)).2 ?_
    refine own_lload X1 hx 43 (hb hby own_d9_41) rfl ?_
    exact own_retL (z := (own_mix (z3 + (-7046029254386353131 : Int64)))) (Q := own_Q9 Z o1 q1 q2 z1 z2 z3 h0 n0) X1 hx hrt (hb hby own_d9_43) hlk rfl ⟨(z3 + (-7046029254386353131 : Int64)), (own_leafJ (show (own_mix (z3 + (-7046029254386353131 : Int64))) = own_btw q1 q2 (z3 + (-7046029254386353131 : Int64)) from by unfold own_btw; rw [if_pos hc38_4])), N1, KC2, G1_0, G1_1, G1_2, G1_3⟩ (by decide) (by decide)
  · refine own_ifYes X1 hx 44 (hb hby own_d9_38) (feq (mt (lw_eq _ _).mp hc38_4)).2 ?_
    refine own_lload X1 hx 46 (hb hby own_d9_44) rfl ?_
    refine own_lload X1 hx 48 (hb hby own_d9_46) rfl ?_
    obtain ⟨_, _, ⟨T5, Lx5, kc5, nc5⟩, -, X5, ⟨Lc5, hQ5, lq5, yq5, zq5⟩, st5⟩ := Jvm.LawKit.callS X1 hx (y := (⟨"java/lang/Long", "compareUnsigned", "(JJ)I"⟩ : MethodName)) hown (mvT hZ (hw _ (List.mem_of_getElem? (i := 62) rfl))) (mvT hZ (hw _ (List.mem_of_getElem? (i := 63) rfl))) (mvT hZ (hw _ (List.mem_of_getElem? (i := 64) rfl))) (mvT hZ (hw _ (List.mem_of_getElem? (i := 65) rfl))) (by decide) (backOf (W := 0) (own_rm11 l Z a0 hw [] (own_mix (z3 + (-7046029254386353131 : Int64))) ((q2 - q1) + (1 : Int64)) T1.heap n0 Z3 ) hZ (hw _ (List.mem_of_getElem? (i := 65) rfl)) (hw _ (List.mem_of_getElem? (i := 64) rfl)) (by decide) (by decide)) (g := (mkF m 48 #[.val (.ref o1), .val (.long q1), .second, .val (.long q2), .second, .val (.long ((q2 - q1) + (1 : Int64))), .second, .val (.long (own_mix (z3 + (-7046029254386353131 : Int64)))), .second, .unset, .unset] [(.long ((q2 - q1) + (1 : Int64))), (.long (own_mix (z3 + (-7046029254386353131 : Int64))))])) rfl (by rw [hml]; rfl) (argsL := [(.long (own_mix (z3 + (-7046029254386353131 : Int64)))), (.long ((q2 - q1) + (1 : Int64)))]) (rest := []) (lenOf own_pd2 rfl) rfl (by show 2 * 0 + _ ≤ _; exact Nat.le_of_eq rfl) (hb hby own_d9_48) (fun _ _ => ⟨rfl, rfl, (by decide : 0 + 0 ≤ _), (by decide : 0 + 0 ≤ _)⟩)
    dsimp only [Pt.U, Pt.locs, Pt.cells, Pt.slots] at X5 lq5 yq5 zq5 st5 hQ5
    subst lq5 yq5 zq5
    obtain ⟨rfl, Nq5, eh5⟩ := hQ5
    have N5 := Fr.app N1 Nq5
    refine own_st (G' := T5.setTop (mkF m 51 #[.val (.ref o1), .val (.long q1), .second, .val (.long q2), .second, .val (.long ((q2 - q1) + (1 : Int64))), .second, .val (.long (own_mix (z3 + (-7046029254386353131 : Int64)))), .second, .unset, .unset] [(.int (own_cmp ((own_mix (z3 + (-7046029254386353131 : Int64))) + (-9223372036854775808 : Int64)) (((q2 - q1) + (1 : Int64)) + (-9223372036854775808 : Int64))))])) st5 ?_
    by_cases hc51_6 : (own_cmp ((own_mix (z3 + (-7046029254386353131 : Int64))) + (-9223372036854775808 : Int64)) (((q2 - q1) + (1 : Int64)) + (-9223372036854775808 : Int64))) < (0 : Int32)
    · refine own_ifNo X5 hx 54 (hb hby own_d9_51) (tlt hc51_6).2.1 ?_
      have hlow := hc51_6
      refine own_lload X5 hx 56 (hb hby own_d9_54) rfl ?_
      refine own_lneg X5 hx 57 (hb hby own_d9_56) ?_
      refine own_lload X5 hx 59 (hb hby own_d9_57) rfl ?_
      obtain ⟨_, _, ⟨T7, Lx7, kc7, nc7⟩, -, X7, ⟨Lc7, hQ7, lq7, yq7, zq7⟩, st7⟩ := Jvm.LawKit.callS X5 hx (y := (⟨"java/lang/Long", "remainderUnsigned", "(JJ)J"⟩ : MethodName)) hown (mvT hZ (hw _ (List.mem_of_getElem? (i := 70) rfl))) (mvT hZ (hw _ (List.mem_of_getElem? (i := 71) rfl))) (mvT hZ (hw _ (List.mem_of_getElem? (i := 64) rfl))) (mvT hZ (hw _ (List.mem_of_getElem? (i := 72) rfl))) (by decide) (backOf (W := 0) (own_rm13 l Z a0 hw [] (-((q2 - q1) + (1 : Int64))) ((q2 - q1) + (1 : Int64)) T1.heap n0 Z3 (hc38_4 : ((q2 - q1) + (1 : Int64)) ≠ (0 : Int64))) hZ (hw _ (List.mem_of_getElem? (i := 72) rfl)) (hw _ (List.mem_of_getElem? (i := 64) rfl)) (by decide) (by decide)) (g := (mkF m 59 #[.val (.ref o1), .val (.long q1), .second, .val (.long q2), .second, .val (.long ((q2 - q1) + (1 : Int64))), .second, .val (.long (own_mix (z3 + (-7046029254386353131 : Int64)))), .second, .unset, .unset] [(.long ((q2 - q1) + (1 : Int64))), (.long (-((q2 - q1) + (1 : Int64))))])) rfl (by rw [hml]; rfl) (argsL := [(.long (-((q2 - q1) + (1 : Int64)))), (.long ((q2 - q1) + (1 : Int64)))]) (rest := []) (lenOf own_pd4 rfl) rfl (by show 2 * 0 + _ ≤ _; exact Nat.le_of_eq rfl) (hb hby own_d9_59) (fun _ _ => ⟨rfl, eh5, (by decide : 0 + 0 ≤ _), (by decide : 0 + 0 ≤ _)⟩)
      dsimp only [Pt.U, Pt.locs, Pt.cells, Pt.slots] at X7 lq7 yq7 zq7 st7 hQ7
      subst lq7 yq7 zq7
      obtain ⟨rfl, Nq7, eh7⟩ := hQ7
      have N7 := Fr.app N5 Nq7
      refine own_st (G' := T7.setTop (mkF m 62 #[.val (.ref o1), .val (.long q1), .second, .val (.long q2), .second, .val (.long ((q2 - q1) + (1 : Int64))), .second, .val (.long (own_mix (z3 + (-7046029254386353131 : Int64)))), .second, .unset, .unset] [(.long (own_remu (-((q2 - q1) + (1 : Int64))) ((q2 - q1) + (1 : Int64))))])) st7 ?_
      refine own_lstore X7 hx 64 #[.val (.ref o1), .val (.long q1), .second, .val (.long q2), .second, .val (.long ((q2 - q1) + (1 : Int64))), .second, .val (.long (own_mix (z3 + (-7046029254386353131 : Int64)))), .second, .val (.long (own_remu (-((q2 - q1) + (1 : Int64))) ((q2 - q1) + (1 : Int64)))), .second] (hb hby own_d9_62) rfl ?_
      have loop64_0 : ∀ (kk64_0 : Nat) (T64_0 : State) (h64_0 : Heap) (ls64_0 : List Loc) (st : Int64), own_mu st = kk64_0 → Stand p l e ({ frames := 2, cells := 0, slots := 0, locals := 30 } : Room) s m #[(.ref o1), (.long q1), (.long q2)] below meth c T64_0 ls64_0 0 0 → T64_0.heap = h64_0 → Fr n0 ls64_0 → n0 ≤ h64_0.size → Keep h0 h64_0 [o1] → Exa Z h64_0 o1 "com/example/loomsand/loomsand/Draws" → Fld Z h64_0 o1 "com/example/loomsand/loomsand/Draws" "key" "J" (.long z1) → Fld Z h64_0 o1 "com/example/loomsand/loomsand/Draws" "row" "J" (.long z2) → Fld Z h64_0 o1 "com/example/loomsand/loomsand/Draws" "state" "J" (.long st) → own_rej (own_mu st) st (own_remu (-((q2 - q1) + (1 : Int64))) ((q2 - q1) + (1 : Int64))) = own_rej (own_mu (z3 + (-7046029254386353131 : Int64))) (z3 + (-7046029254386353131 : Int64)) (own_remu (-((q2 - q1) + (1 : Int64))) ((q2 - q1) + (1 : Int64))) → own_Gs p e below (fun o U' => ∃ v L, o = .returned v ∧ own_Q9 Z o1 q1 q2 z1 z2 z3 h0 n0 v U'.heap L ∧ FrameEnd s o U' L ({ frames := 2, cells := 0, slots := 0, locals := 30 } : Room).cells ({ frames := 2, cells := 0, slots := 0, locals := 30 } : Room).slots) (T64_0.setTop (mkF m 64 #[.val (.ref o1), .val (.long q1), .second, .val (.long q2), .second, .val (.long ((q2 - q1) + (1 : Int64))), .second, .val (.long (own_mix st)), .second, .val (.long (own_remu (-((q2 - q1) + (1 : Int64))) ((q2 - q1) + (1 : Int64)))), .second] [])) := by
        intro kk64_0
        induction kk64_0 using Nat.strongRecOn with
        | _ kk64_0 ih64_0 =>
        intro T64_0 h64_0 ls64_0 st hmu64_0 X64_0 e64_0 N64_0 Z64_0 K64_0 lf64_0_0 lf64_0_1 lf64_0_2 lf64_0_3 hrj
        refine own_lload X64_0 hx 66 (hb hby own_d9_64) rfl ?_
        refine own_lload X64_0 hx 68 (hb hby own_d9_66) rfl ?_
        obtain ⟨_, _, ⟨T8, Lx8, kc8, nc8⟩, -, X8, ⟨Lc8, hQ8, lq8, yq8, zq8⟩, st8⟩ := Jvm.LawKit.callS X64_0 hx (y := (⟨"java/lang/Long", "compareUnsigned", "(JJ)I"⟩ : MethodName)) hown (mvT hZ (hw _ (List.mem_of_getElem? (i := 62) rfl))) (mvT hZ (hw _ (List.mem_of_getElem? (i := 63) rfl))) (mvT hZ (hw _ (List.mem_of_getElem? (i := 64) rfl))) (mvT hZ (hw _ (List.mem_of_getElem? (i := 65) rfl))) (by decide) (backOf (W := 0) (own_rm11 l Z a0 hw [] (own_mix st) (own_remu (-((q2 - q1) + (1 : Int64))) ((q2 - q1) + (1 : Int64))) h64_0 n0 Z64_0 ) hZ (hw _ (List.mem_of_getElem? (i := 65) rfl)) (hw _ (List.mem_of_getElem? (i := 64) rfl)) (by decide) (by decide)) (g := (mkF m 68 #[.val (.ref o1), .val (.long q1), .second, .val (.long q2), .second, .val (.long ((q2 - q1) + (1 : Int64))), .second, .val (.long (own_mix st)), .second, .val (.long (own_remu (-((q2 - q1) + (1 : Int64))) ((q2 - q1) + (1 : Int64)))), .second] [(.long (own_remu (-((q2 - q1) + (1 : Int64))) ((q2 - q1) + (1 : Int64)))), (.long (own_mix st))])) rfl (by rw [hml]; rfl) (argsL := [(.long (own_mix st)), (.long (own_remu (-((q2 - q1) + (1 : Int64))) ((q2 - q1) + (1 : Int64))))]) (rest := []) (lenOf own_pd2 rfl) rfl (by show 2 * 0 + _ ≤ _; exact Nat.le_of_eq rfl) (hb hby own_d9_68) (fun _ _ => ⟨rfl, e64_0, (by decide : 0 + 0 ≤ _), (by decide : 0 + 0 ≤ _)⟩)
        dsimp only [Pt.U, Pt.locs, Pt.cells, Pt.slots] at X8 lq8 yq8 zq8 st8 hQ8
        subst lq8 yq8 zq8
        obtain ⟨rfl, Nq8, eh8⟩ := hQ8
        have N8 := Fr.app N64_0 Nq8
        refine own_st (G' := T8.setTop (mkF m 71 #[.val (.ref o1), .val (.long q1), .second, .val (.long q2), .second, .val (.long ((q2 - q1) + (1 : Int64))), .second, .val (.long (own_mix st)), .second, .val (.long (own_remu (-((q2 - q1) + (1 : Int64))) ((q2 - q1) + (1 : Int64)))), .second] [(.int (own_cmp ((own_mix st) + (-9223372036854775808 : Int64)) ((own_remu (-((q2 - q1) + (1 : Int64))) ((q2 - q1) + (1 : Int64))) + (-9223372036854775808 : Int64))))])) st8 ?_
        by_cases hc71_9 : (own_cmp ((own_mix st) + (-9223372036854775808 : Int64)) ((own_remu (-((q2 - q1) + (1 : Int64))) ((q2 - q1) + (1 : Int64))) + (-9223372036854775808 : Int64))) < (0 : Int32)
        · refine own_ifNo X8 hx 74 (hb hby own_d9_71) (tlt hc71_9).2.1 ?_
          refine own_aloadN X8 hx 75 (hb hby own_d9_74) rfl rfl ?_
          obtain ⟨cq10, kq10, q10a, q10b, q10c⟩ := isOf hZ eh8 lf64_0_0
          obtain ⟨_, _, ⟨T10, Lx10, kc10, nc10⟩, -, X10, ⟨Lc10, hQ10, lq10, yq10, zq10⟩, st10⟩ := X8.virtualBack hx (y := (⟨"com/example/loomsand/loomsand/Draws", "next", "()J"⟩ : MethodName)) (z := (⟨"com/example/loomsand/loomsand/Draws", "next", "()J"⟩ : MethodName)) hown (mvT hZ (hw _ (List.mem_of_getElem? (i := 57) rfl))) (mvT hZ (hw _ (List.mem_of_getElem? (i := 58) rfl))) (notFace_of_selects (args := #[]) (mvT hZ (hw _ (List.mem_of_getElem? (i := 60) rfl)))) (mvT hZ (hw _ (List.mem_of_getElem? (i := 60) rfl))) (mvT hZ (hw _ (List.mem_of_getElem? (i := 59) rfl))) (by decide) (backOf (W := 0) (own_rm10 l Z a0 hw [] o1 z1 z2 st h64_0 n0 Z64_0 lf64_0_0 lf64_0_1 lf64_0_2 lf64_0_3 pG5) hZ (hw _ (List.mem_of_getElem? (i := 61) rfl)) (hw _ (List.mem_of_getElem? (i := 9) rfl)) (by decide) (by decide)) q10a q10c (g := (mkF m 75 #[.val (.ref o1), .val (.long q1), .second, .val (.long q2), .second, .val (.long ((q2 - q1) + (1 : Int64))), .second, .val (.long (own_mix st)), .second, .val (.long (own_remu (-((q2 - q1) + (1 : Int64))) ((q2 - q1) + (1 : Int64)))), .second] [(.ref o1)])) rfl (by rw [hml]; rfl) (Steps.refl _) (argsL := []) (rest := []) (lenOf own_pd3 rfl) rfl (by show 2 * 0 + _ ≤ _; exact Nat.le_of_eq rfl) (hb hby own_d9_75) (fun _ _ => ⟨rfl, eh8, (by decide : 0 + 0 ≤ _), (by decide : 0 + 0 ≤ _)⟩)
          dsimp only [Pt.U, Pt.locs, Pt.cells, Pt.slots] at X10 lq10 yq10 zq10 st10 hQ10
          subst lq10 yq10 zq10
          obtain ⟨rfl, Nq10, Kp10, G10_0, G10_1, G10_2, G10_3⟩ := hQ10
          have N10 := Fr.app N8 Nq10
          have KC11 := K64_0.trans Kp10 (allS (Or.inl (List.mem_of_getElem? (i := 0) rfl)) all0)
          have Z12 := Nat.le_trans Z64_0 Kp10.1
          refine own_st (G' := T10.setTop (mkF m 78 #[.val (.ref o1), .val (.long q1), .second, .val (.long q2), .second, .val (.long ((q2 - q1) + (1 : Int64))), .second, .val (.long (own_mix st)), .second, .val (.long (own_remu (-((q2 - q1) + (1 : Int64))) ((q2 - q1) + (1 : Int64)))), .second] [(.long (own_mix (st + (-7046029254386353131 : Int64))))])) (fun t k => st10.trans k) ?_
          refine own_lstore X10 hx 80 #[.val (.ref o1), .val (.long q1), .second, .val (.long q2), .second, .val (.long ((q2 - q1) + (1 : Int64))), .second, .val (.long (own_mix (st + (-7046029254386353131 : Int64)))), .second, .val (.long (own_remu (-((q2 - q1) + (1 : Int64))) ((q2 - q1) + (1 : Int64)))), .second] (hb hby own_d9_78) rfl ?_
          refine own_goto X10 hx 64 (hb hby own_d9_80) ?_
          exact ih64_0 _ (by rw [← hmu64_0]; exact (own_rejS hc71_9).1) T10 T10.heap _ (st + (-7046029254386353131 : Int64)) rfl X10 rfl N10 Z12 KC11 G10_0 G10_1 G10_2 G10_3 ((own_rejS hc71_9).2.symm.trans hrj : own_rej (own_mu (st + (-7046029254386353131 : Int64))) (st + (-7046029254386353131 : Int64)) (own_remu (-((q2 - q1) + (1 : Int64))) ((q2 - q1) + (1 : Int64))) = own_rej (own_mu (z3 + (-7046029254386353131 : Int64))) (z3 + (-7046029254386353131 : Int64)) (own_remu (-((q2 - q1) + (1 : Int64))) ((q2 - q1) + (1 : Int64))))
        · refine own_ifYes X8 hx 83 (hb hby own_d9_71) (flt hc71_9).2.1 ?_
          refine own_lloadN X8 hx 84 (hb hby own_d9_83) rfl ?_
          refine own_lload X8 hx 86 (hb hby own_d9_84) rfl ?_
          refine own_lload X8 hx 88 (hb hby own_d9_86) rfl ?_
          obtain ⟨_, _, ⟨T13, Lx13, kc13, nc13⟩, -, X13, ⟨Lc13, hQ13, lq13, yq13, zq13⟩, st13⟩ := Jvm.LawKit.callS X8 hx (y := (⟨"java/lang/Long", "remainderUnsigned", "(JJ)J"⟩ : MethodName)) hown (mvT hZ (hw _ (List.mem_of_getElem? (i := 70) rfl))) (mvT hZ (hw _ (List.mem_of_getElem? (i := 71) rfl))) (mvT hZ (hw _ (List.mem_of_getElem? (i := 64) rfl))) (mvT hZ (hw _ (List.mem_of_getElem? (i := 72) rfl))) (by decide) (backOf (W := 2) (own_rm13 l Z a0 hw [] (own_mix st) ((q2 - q1) + (1 : Int64)) h64_0 n0 Z64_0 (hc38_4 : ((q2 - q1) + (1 : Int64)) ≠ (0 : Int64))) hZ (hw _ (List.mem_of_getElem? (i := 72) rfl)) (hw _ (List.mem_of_getElem? (i := 64) rfl)) (by decide) (by decide)) (g := (mkF m 88 #[.val (.ref o1), .val (.long q1), .second, .val (.long q2), .second, .val (.long ((q2 - q1) + (1 : Int64))), .second, .val (.long (own_mix st)), .second, .val (.long (own_remu (-((q2 - q1) + (1 : Int64))) ((q2 - q1) + (1 : Int64)))), .second] [(.long ((q2 - q1) + (1 : Int64))), (.long (own_mix st)), (.long q1)])) rfl (by rw [hml]; rfl) (argsL := [(.long (own_mix st)), (.long ((q2 - q1) + (1 : Int64)))]) (rest := [(.long q1)]) (lenOf own_pd4 rfl) rfl (by show 2 * 0 + _ ≤ _; exact Nat.le_of_eq rfl) (hb hby own_d9_88) (fun _ _ => ⟨rfl, eh8, (by decide : 0 + 0 ≤ _), (by decide : 0 + 0 ≤ _)⟩)
          dsimp only [Pt.U, Pt.locs, Pt.cells, Pt.slots] at X13 lq13 yq13 zq13 st13 hQ13
          subst lq13 yq13 zq13
          obtain ⟨rfl, Nq13, eh13⟩ := hQ13
          have N13 := Fr.app N8 Nq13
          refine own_st (G' := T13.setTop (mkF m 91 #[.val (.ref o1), .val (.long q1), .second, .val (.long q2), .second, .val (.long ((q2 - q1) + (1 : Int64))), .second, .val (.long (own_mix st)), .second, .val (.long (own_remu (-((q2 - q1) + (1 : Int64))) ((q2 - q1) + (1 : Int64)))), .second] [(.long (own_remu (own_mix st) ((q2 - q1) + (1 : Int64)))), (.long q1)])) st13 ?_
          refine own_ladd X13 hx 92 (hb hby own_d9_91) ?_
          exact own_retL (z := (q1 + (own_remu (own_mix st) ((q2 - q1) + (1 : Int64))))) (Q := own_Q9 Z o1 q1 q2 z1 z2 z3 h0 n0) X13 hx hrt (hb hby own_d9_92) hlk eh13 ⟨st, (own_leafJ (show (q1 + (own_remu (own_mix st) ((q2 - q1) + (1 : Int64)))) = own_btw q1 q2 (z3 + (-7046029254386353131 : Int64)) from by unfold own_btw; rw [if_neg hc38_4, if_pos hlow, ← hrj, own_rejN hc71_9])), N13, K64_0, lf64_0_0, lf64_0_1, lf64_0_2, lf64_0_3⟩ (by decide) (by decide)
      exact loop64_0 _ T7 T1.heap _ (z3 + (-7046029254386353131 : Int64)) rfl X7 eh7 N7 Z3 KC2 G1_0 G1_1 G1_2 G1_3 (rfl : own_rej (own_mu (z3 + (-7046029254386353131 : Int64))) (z3 + (-7046029254386353131 : Int64)) (own_remu (-((q2 - q1) + (1 : Int64))) ((q2 - q1) + (1 : Int64))) = own_rej (own_mu (z3 + (-7046029254386353131 : Int64))) (z3 + (-7046029254386353131 : Int64)) (own_remu (-((q2 - q1) + (1 : Int64))) ((q2 - q1) + (1 : Int64))))
    · refine own_ifYes X5 hx 83 (hb hby own_d9_51) (flt hc51_6).2.1 ?_
      refine own_lloadN X5 hx 84 (hb hby own_d9_83) rfl ?_
      refine own_lload X5 hx 86 (hb hby own_d9_84) rfl ?_
      refine own_lload X5 hx 88 (hb hby own_d9_86) rfl ?_
      obtain ⟨_, _, ⟨T14, Lx14, kc14, nc14⟩, -, X14, ⟨Lc14, hQ14, lq14, yq14, zq14⟩, st14⟩ := Jvm.LawKit.callS X5 hx (y := (⟨"java/lang/Long", "remainderUnsigned", "(JJ)J"⟩ : MethodName)) hown (mvT hZ (hw _ (List.mem_of_getElem? (i := 70) rfl))) (mvT hZ (hw _ (List.mem_of_getElem? (i := 71) rfl))) (mvT hZ (hw _ (List.mem_of_getElem? (i := 64) rfl))) (mvT hZ (hw _ (List.mem_of_getElem? (i := 72) rfl))) (by decide) (backOf (W := 2) (own_rm13 l Z a0 hw [] (own_mix (z3 + (-7046029254386353131 : Int64))) ((q2 - q1) + (1 : Int64)) T1.heap n0 Z3 (hc38_4 : ((q2 - q1) + (1 : Int64)) ≠ (0 : Int64))) hZ (hw _ (List.mem_of_getElem? (i := 72) rfl)) (hw _ (List.mem_of_getElem? (i := 64) rfl)) (by decide) (by decide)) (g := (mkF m 88 #[.val (.ref o1), .val (.long q1), .second, .val (.long q2), .second, .val (.long ((q2 - q1) + (1 : Int64))), .second, .val (.long (own_mix (z3 + (-7046029254386353131 : Int64)))), .second, .unset, .unset] [(.long ((q2 - q1) + (1 : Int64))), (.long (own_mix (z3 + (-7046029254386353131 : Int64)))), (.long q1)])) rfl (by rw [hml]; rfl) (argsL := [(.long (own_mix (z3 + (-7046029254386353131 : Int64)))), (.long ((q2 - q1) + (1 : Int64)))]) (rest := [(.long q1)]) (lenOf own_pd4 rfl) rfl (by show 2 * 0 + _ ≤ _; exact Nat.le_of_eq rfl) (hb hby own_d9_88) (fun _ _ => ⟨rfl, eh5, (by decide : 0 + 0 ≤ _), (by decide : 0 + 0 ≤ _)⟩)
      dsimp only [Pt.U, Pt.locs, Pt.cells, Pt.slots] at X14 lq14 yq14 zq14 st14 hQ14
      subst lq14 yq14 zq14
      obtain ⟨rfl, Nq14, eh14⟩ := hQ14
      have N14 := Fr.app N5 Nq14
      refine own_st (G' := T14.setTop (mkF m 91 #[.val (.ref o1), .val (.long q1), .second, .val (.long q2), .second, .val (.long ((q2 - q1) + (1 : Int64))), .second, .val (.long (own_mix (z3 + (-7046029254386353131 : Int64)))), .second, .unset, .unset] [(.long (own_remu (own_mix (z3 + (-7046029254386353131 : Int64))) ((q2 - q1) + (1 : Int64)))), (.long q1)])) st14 ?_
      refine own_ladd X14 hx 92 (hb hby own_d9_91) ?_
      exact own_retL (z := (q1 + (own_remu (own_mix (z3 + (-7046029254386353131 : Int64))) ((q2 - q1) + (1 : Int64))))) (Q := own_Q9 Z o1 q1 q2 z1 z2 z3 h0 n0) X14 hx hrt (hb hby own_d9_92) hlk eh14 ⟨(z3 + (-7046029254386353131 : Int64)), (own_leafJ (show (q1 + (own_remu (own_mix (z3 + (-7046029254386353131 : Int64))) ((q2 - q1) + (1 : Int64)))) = own_btw q1 q2 (z3 + (-7046029254386353131 : Int64)) from by unfold own_btw; rw [if_neg hc38_4, if_neg hc51_6])), N14, KC2, G1_0, G1_1, G1_2, G1_3⟩ (by decide) (by decide)
theorem own_d6_0 : decode method_2_code 0 = .ok (.aload_n 0, 1) := by decide +kernel
theorem own_d6_1 : decode method_2_code 1 = .ok (.lload_n 1, 1) := by decide +kernel
theorem own_d6_2 : decode method_2_code 2 = .ok (.lload_n 3, 1) := by decide +kernel
theorem own_d6_3 : decode method_2_code 3 = .ok (.invokevirtual 7, 3) := by decide +kernel
theorem own_d6_6 : decode method_2_code 6 = .ok (.aload_n 0, 1) := by decide +kernel
theorem own_d6_7 : decode method_2_code 7 = .ok (.lload 5, 2) := by decide +kernel
theorem own_d6_9 : decode method_2_code 9 = .ok (.lload 7, 2) := by decide +kernel
theorem own_d6_11 : decode method_2_code 11 = .ok (.invokevirtual 13, 3) := by decide +kernel
theorem own_d6_14 : decode method_2_code 14 = .ok (.lreturn, 1) := by decide +kernel
theorem own_pn3 : plainName "com/example/loomsand/loomsand/ParentRowsTotalPinLaw" = true := by first | (simp [plainName, overriddenIn]; done) | decide +kernel
theorem own_pd5 : parseMethodDescriptor "(JJ)V" = some ⟨[.long, .long], none⟩ := by decide +kernel
theorem own_ef6 (m : MethodId) (o1 : Addr) (q1 : Int64) (q2 : Int64) (q3 : Int64) (q4 : Int64) : entryFrame m #[(.ref o1), (.long q1), (.long q2), (.long q3), (.long q4)] 9 = mkF m 0 #[.val (.ref o1), .val (.long q1), .second, .val (.long q2), .second, .val (.long q3), .second, .val (.long q4), .second] [] := by first | (simp [entryFrame, mkF, argsToLocals, Value.category]; done) | rfl
def own_Q6 (Z : State) (o1 : Addr) (q1 : Int64) (q2 : Int64) (q3 : Int64) (q4 : Int64) (z1 : Int64) (z2 : Int64) (z3 : Int64) (h0 : Heap) (n0 : Nat) (v : Option Value) (h : Heap) (L : List Loc) : Prop := ∃ zz : Int64, v = some (.long (own_btw q3 q4 ((own_mix (q1 + (q2 * (-7046029254386353131 : Int64)))) + (-7046029254386353131 : Int64)))) ∧ Fr n0 L ∧ Keep h0 h [o1] ∧ Exa Z h o1 "com/example/loomsand/loomsand/Draws" ∧ Fld Z h o1 "com/example/loomsand/loomsand/Draws" "key" "J" (.long q1) ∧ Fld Z h o1 "com/example/loomsand/loomsand/Draws" "row" "J" (.long q2) ∧ Fld Z h o1 "com/example/loomsand/loomsand/Draws" "state" "J" (.long zz)
set_option maxRecDepth 65536 in
set_option maxHeartbeats 40000000 in
theorem own_rm6 (l : Launch) (Z : State) (a0 : Array Value) (hw : ∀ d ∈ tables_1, d.before a0 Z = true) (ws : List Jvm.Cond) (o1 : Addr) (q1 : Int64) (q2 : Int64) (q3 : Int64) (q4 : Int64) (z1 : Int64) (z2 : Int64) (z3 : Int64) (h0 : Heap) (n0 : Nat) (Z0 : n0 ≤ h0.size) (pE1 : Exa Z h0 o1 "com/example/loomsand/loomsand/Draws") (pF2 : Fld Z h0 o1 "com/example/loomsand/loomsand/Draws" "key" "J" (.long z1)) (pF3 : Fld Z h0 o1 "com/example/loomsand/loomsand/Draws" "row" "J" (.long z2)) (pF4 : Fld Z h0 o1 "com/example/loomsand/loomsand/Draws" "state" "J" (.long z3)) (pG5 : n0 ≤ o1) (hle : ¬ (q4 < q3)) :
    MetFree l (⟨"com/example/loomsand/loomsand/ParentRowsTotalPinLaw", "count", "(Lcom/example/loomsand/loomsand/Draws;JJJJ)J"⟩ : MethodName) (head1 (Jvm.Cond.code (⟨"com/example/loomsand/loomsand/ParentRowsTotalPinLaw", "count", "(Lcom/example/loomsand/loomsand/Draws;JJJJ)J"⟩ : MethodName) method_2_code 9 (some .long) :: ws) ({ frames := 3, cells := 0, slots := 0, locals := 52 } : Room)) (fun a U => a = #[(.ref o1), (.long q1), (.long q2), (.long q3), (.long q4)] ∧ Z.Warmed39 U.vm ∧ U.heap = h0) (fun _ _ _ _ _ => True) (fun _ U o U' => ∃ v L, o = .returned v ∧ own_Q6 Z o1 q1 q2 q3 q4 z1 z2 z3 h0 n0 v U'.heap L ∧ FrameEnd U o U' L ({ frames := 3, cells := 0, slots := 0, locals := 52 } : Room).cells ({ frames := 3, cells := 0, slots := 0, locals := 52 } : Room).slots) := by
  refine MetFree.of_bodySF (plainFor_of_name own_pn3) hisR ?_
  intro p e s m args below meth c s₁ Bd hml0 hP hK
  obtain ⟨rfl, hZ, hh⟩ := hP
  have hx := Bd.exec
  have hby := Bd.bytes
  have hlk := Bd.notSynchronized
  have hrt := Bd.returns
  have hml : c.maxLocals = 9 := hml0
  have hown : s.vm.findClass "com/example/loomsand/loomsand/ParentRowsTotalPinLaw" = some m.cls := findClass_of_methodNamed Bd.named
  have hnm := (name_of_methodNamed Bd.named Bd.method).1
  have X0 : Stand p l e ({ frames := 3, cells := 0, slots := 0, locals := 52 } : Room) s m #[(.ref o1), (.long q1), (.long q2), (.long q3), (.long q4)] below meth c s₁ [] 0 0 := Stand.of_body Bd
  have e0 : s₁.heap = h0 := by rw [← hh, Bd.state]; rfl
  have N0 := Fr.nil n0
  have KC0 := Keep.refl h0 [o1]
  refine own_in (own_ef6 m o1 q1 q2 q3 q4) ?_
  refine own_aloadN X0 hx 1 (hb hby own_d6_0) rfl rfl ?_
  refine own_lloadN X0 hx 2 (hb hby own_d6_1) rfl ?_
  refine own_lloadN X0 hx 3 (hb hby own_d6_2) rfl ?_
  obtain ⟨cq1, kq1, q1a, q1b, q1c⟩ := isOf hZ e0 pE1
  obtain ⟨_, _, ⟨T1, Lx1, kc1, nc1⟩, -, X1, ⟨Lc1, hQ1, lq1, yq1, zq1⟩, st1⟩ := X0.virtualBack hx (y := (⟨"com/example/loomsand/loomsand/Draws", "start", "(JJ)V"⟩ : MethodName)) (z := (⟨"com/example/loomsand/loomsand/Draws", "start", "(JJ)V"⟩ : MethodName)) hown (mvT hZ (hw _ (List.mem_of_getElem? (i := 35) rfl))) (mvT hZ (hw _ (List.mem_of_getElem? (i := 36) rfl))) (notFace_of_selects (args := #[]) (mvT hZ (hw _ (List.mem_of_getElem? (i := 38) rfl)))) (mvT hZ (hw _ (List.mem_of_getElem? (i := 38) rfl))) (mvT hZ (hw _ (List.mem_of_getElem? (i := 37) rfl))) (by decide) (backOf (W := 0) (own_rm7 l Z a0 hw [] o1 q1 q2 z1 z2 z3 h0 n0 Z0 pE1 pF2 pF3 pF4 pG5) hZ (hw _ (List.mem_of_getElem? (i := 39) rfl)) (hw _ (List.mem_of_getElem? (i := 9) rfl)) (by decide) (by decide)) q1a q1c (g := (mkF m 3 #[.val (.ref o1), .val (.long q1), .second, .val (.long q2), .second, .val (.long q3), .second, .val (.long q4), .second] [(.long q2), (.long q1), (.ref o1)])) rfl (by rw [hml]; rfl) (Steps.refl _) (argsL := [(.long q1), (.long q2)]) (rest := []) (lenOf own_pd5 rfl) rfl (by show 2 * 0 + _ ≤ _; exact Nat.le_of_eq rfl) (hb hby own_d6_3) (fun _ _ => ⟨rfl, e0, (by decide : 0 + 0 ≤ _), (by decide : 0 + 0 ≤ _)⟩)
  dsimp only [Pt.U, Pt.locs, Pt.cells, Pt.slots] at X1 lq1 yq1 zq1 st1 hQ1
  subst lq1 yq1 zq1
  obtain ⟨rfl, Nq1, Kp1, G1_0, G1_1, G1_2, G1_3⟩ := hQ1
  have N1 := Fr.app N0 Nq1
  have KC2 := KC0.trans Kp1 (allS (Or.inl (List.mem_of_getElem? (i := 0) rfl)) all0)
  have Z3 := Nat.le_trans Z0 Kp1.1
  refine own_st (G' := T1.setTop (mkF m 6 #[.val (.ref o1), .val (.long q1), .second, .val (.long q2), .second, .val (.long q3), .second, .val (.long q4), .second] [])) (fun t k => st1.trans k) ?_
  refine own_aloadN X1 hx 7 (hb hby own_d6_6) rfl rfl ?_
  refine own_lload X1 hx 9 (hb hby own_d6_7) rfl ?_
  refine own_lload X1 hx 11 (hb hby own_d6_9) rfl ?_
  obtain ⟨cq4, kq4, q4a, q4b, q4c⟩ := isOf hZ rfl G1_0
  obtain ⟨_, _, ⟨T4, Lx4, kc4, nc4⟩, -, X4, ⟨Lc4, hQ4, lq4, yq4, zq4⟩, st4⟩ := X1.virtualBack hx (y := (⟨"com/example/loomsand/loomsand/Draws", "between", "(JJ)J"⟩ : MethodName)) (z := (⟨"com/example/loomsand/loomsand/Draws", "between", "(JJ)J"⟩ : MethodName)) hown (mvT hZ (hw _ (List.mem_of_getElem? (i := 52) rfl))) (mvT hZ (hw _ (List.mem_of_getElem? (i := 53) rfl))) (notFace_of_selects (args := #[]) (mvT hZ (hw _ (List.mem_of_getElem? (i := 55) rfl)))) (mvT hZ (hw _ (List.mem_of_getElem? (i := 55) rfl))) (mvT hZ (hw _ (List.mem_of_getElem? (i := 54) rfl))) (by decide) (backOf (W := 0) (own_rm9 l Z a0 hw [] o1 q3 q4 q1 q2 (own_mix (q1 + (q2 * (-7046029254386353131 : Int64)))) T1.heap n0 Z3 G1_0 G1_1 G1_2 G1_3 pG5 (by assumption : ¬ (q4 < q3))) hZ (hw _ (List.mem_of_getElem? (i := 56) rfl)) (hw _ (List.mem_of_getElem? (i := 9) rfl)) (by decide) (by decide)) q4a q4c (g := (mkF m 11 #[.val (.ref o1), .val (.long q1), .second, .val (.long q2), .second, .val (.long q3), .second, .val (.long q4), .second] [(.long q4), (.long q3), (.ref o1)])) rfl (by rw [hml]; rfl) (Steps.refl _) (argsL := [(.long q3), (.long q4)]) (rest := []) (lenOf own_pd4 rfl) rfl (by show 2 * 0 + _ ≤ _; exact Nat.le_of_eq rfl) (hb hby own_d6_11) (fun _ _ => ⟨rfl, rfl, (by decide : 0 + 0 ≤ _), (by decide : 0 + 0 ≤ _)⟩)
  dsimp only [Pt.U, Pt.locs, Pt.cells, Pt.slots] at X4 lq4 yq4 zq4 st4 hQ4
  subst lq4 yq4 zq4
  obtain ⟨zz_4, rfl, Nq4, Kp4, G4_0, G4_1, G4_2, G4_3⟩ := hQ4
  have N4 := Fr.app N1 Nq4
  have KC5 := KC2.trans Kp4 (allS (Or.inl (List.mem_of_getElem? (i := 0) rfl)) all0)
  have Z6 := Nat.le_trans Z3 Kp4.1
  refine own_st (G' := T4.setTop (mkF m 14 #[.val (.ref o1), .val (.long q1), .second, .val (.long q2), .second, .val (.long q3), .second, .val (.long q4), .second] [(.long (own_btw q3 q4 ((own_mix (q1 + (q2 * (-7046029254386353131 : Int64)))) + (-7046029254386353131 : Int64))))])) (fun t k => st4.trans k) ?_
  exact own_retL (z := (own_btw q3 q4 ((own_mix (q1 + (q2 * (-7046029254386353131 : Int64)))) + (-7046029254386353131 : Int64)))) (Q := own_Q6 Z o1 q1 q2 q3 q4 z1 z2 z3 h0 n0) X4 hx hrt (hb hby own_d6_14) hlk rfl ⟨zz_4, rfl, N4, KC5, G4_0, G4_1, G4_2, G4_3⟩ (by decide) (by decide)
theorem own_d15_0 : decode prog_28_method_6_code 0 = .ok (.aload_n 0, 1) := by decide +kernel
theorem own_d15_1 : decode prog_28_method_6_code 1 = .ok (.getfield 10, 3) := by decide +kernel
theorem own_d15_4 : decode prog_28_method_6_code 4 = .ok (.aload_n 0, 1) := by decide +kernel
theorem own_d15_5 : decode prog_28_method_6_code 5 = .ok (.getfield 16, 3) := by decide +kernel
theorem own_d15_8 : decode prog_28_method_6_code 8 = .ok (.lload_n 1, 1) := by decide +kernel
theorem own_d15_9 : decode prog_28_method_6_code 9 = .ok (.invokevirtual 61, 3) := by decide +kernel
theorem own_d15_12 : decode prog_28_method_6_code 12 = .ok (.aload_n 0, 1) := by decide +kernel
theorem own_d15_13 : decode prog_28_method_6_code 13 = .ok (.getfield 10, 3) := by decide +kernel
theorem own_d15_16 : decode prog_28_method_6_code 16 = .ok (.aload_n 0, 1) := by decide +kernel
theorem own_d15_17 : decode prog_28_method_6_code 17 = .ok (.getfield 20, 3) := by decide +kernel
theorem own_d15_20 : decode prog_28_method_6_code 20 = .ok (.aload_n 0, 1) := by decide +kernel
theorem own_d15_21 : decode prog_28_method_6_code 21 = .ok (.getfield 23, 3) := by decide +kernel
theorem own_d15_24 : decode prog_28_method_6_code 24 = .ok (.invokevirtual 65, 3) := by decide +kernel
theorem own_d15_27 : decode prog_28_method_6_code 27 = .ok (.lreturn, 1) := by decide +kernel
theorem own_pn4 : plainName "com/example/loomsand/loomsand/ParentRows" = true := by first | (simp [plainName, overriddenIn]; done) | decide +kernel
theorem own_ef15 (m : MethodId) (o1 : Addr) (q2 : Int64) : entryFrame m #[(.ref o1), (.long q2)] 3 = mkF m 0 #[.val (.ref o1), .val (.long q2), .second] [] := by first | (simp [entryFrame, mkF, argsToLocals, Value.category]; done) | rfl
def own_Q15 (Z : State) (o1 : Addr) (q2 : Int64) (dd : Addr) (q1 : Int64) (q3 : Int64) (q4 : Int64) (z1 : Int64) (z2 : Int64) (z3 : Int64) (h0 : Heap) (n0 : Nat) (v : Option Value) (h : Heap) (L : List Loc) : Prop := ∃ zz : Int64, v = some (.long (own_btw q3 q4 ((own_mix (q1 + (q2 * (-7046029254386353131 : Int64)))) + (-7046029254386353131 : Int64)))) ∧ Fr n0 L ∧ Keep h0 h [dd] ∧ Exa Z h dd "com/example/loomsand/loomsand/Draws" ∧ Fld Z h dd "com/example/loomsand/loomsand/Draws" "key" "J" (.long q1) ∧ Fld Z h dd "com/example/loomsand/loomsand/Draws" "row" "J" (.long q2) ∧ Fld Z h dd "com/example/loomsand/loomsand/Draws" "state" "J" (.long zz)
set_option maxRecDepth 65536 in
set_option maxHeartbeats 40000000 in
theorem own_rm15 (l : Launch) (Z : State) (a0 : Array Value) (hw : ∀ d ∈ tables_1, d.before a0 Z = true) (ws : List Jvm.Cond) (o1 : Addr) (q2 : Int64) (dd : Addr) (q1 : Int64) (q3 : Int64) (q4 : Int64) (z1 : Int64) (z2 : Int64) (z3 : Int64) (h0 : Heap) (n0 : Nat) (Z0 : n0 ≤ h0.size) (pF1 : Fld Z h0 o1 "com/example/loomsand/loomsand/ParentRows" "draws" "Lcom/example/loomsand/loomsand/Draws;" (.ref dd)) (pF2 : Fld Z h0 o1 "com/example/loomsand/loomsand/ParentRows" "key" "J" (.long q1)) (pF3 : Fld Z h0 o1 "com/example/loomsand/loomsand/ParentRows" "min" "J" (.long q3)) (pF4 : Fld Z h0 o1 "com/example/loomsand/loomsand/ParentRows" "max" "J" (.long q4)) (pE5 : Exa Z h0 dd "com/example/loomsand/loomsand/Draws") (pF6 : Fld Z h0 dd "com/example/loomsand/loomsand/Draws" "key" "J" (.long z1)) (pF7 : Fld Z h0 dd "com/example/loomsand/loomsand/Draws" "row" "J" (.long z2)) (pF8 : Fld Z h0 dd "com/example/loomsand/loomsand/Draws" "state" "J" (.long z3)) (pG9 : n0 ≤ dd) (pN10 : o1 ≠ dd) (hle : ¬ (q4 < q3)) :
    MetFree l (⟨"com/example/loomsand/loomsand/ParentRows", "count", "(J)J"⟩ : MethodName) (head1 (Jvm.Cond.code (⟨"com/example/loomsand/loomsand/ParentRows", "count", "(J)J"⟩ : MethodName) prog_28_method_6_code 3 (some .long) :: ws) ({ frames := 3, cells := 0, slots := 0, locals := 52 } : Room)) (fun a U => a = #[(.ref o1), (.long q2)] ∧ Z.Warmed39 U.vm ∧ U.heap = h0) (fun _ _ _ _ _ => True) (fun _ U o U' => ∃ v L, o = .returned v ∧ own_Q15 Z o1 q2 dd q1 q3 q4 z1 z2 z3 h0 n0 v U'.heap L ∧ FrameEnd U o U' L ({ frames := 3, cells := 0, slots := 0, locals := 52 } : Room).cells ({ frames := 3, cells := 0, slots := 0, locals := 52 } : Room).slots) := by
  refine MetFree.of_bodySF (plainFor_of_name own_pn4) hisR ?_
  intro p e s m args below meth c s₁ Bd hml0 hP hK
  obtain ⟨rfl, hZ, hh⟩ := hP
  have hx := Bd.exec
  have hby := Bd.bytes
  have hlk := Bd.notSynchronized
  have hrt := Bd.returns
  have hml : c.maxLocals = 3 := hml0
  have hown : s.vm.findClass "com/example/loomsand/loomsand/ParentRows" = some m.cls := findClass_of_methodNamed Bd.named
  have hnm := (name_of_methodNamed Bd.named Bd.method).1
  have X0 : Stand p l e ({ frames := 3, cells := 0, slots := 0, locals := 52 } : Room) s m #[(.ref o1), (.long q2)] below meth c s₁ [] 0 0 := Stand.of_body Bd
  have e0 : s₁.heap = h0 := by rw [← hh, Bd.state]; rfl
  have N0 := Fr.nil n0
  have KC0 := Keep.refl h0 [dd]
  refine own_in (own_ef15 m o1 q2) ?_
  refine own_aloadN X0 hx 1 (hb hby own_d15_0) rfl rfl ?_
  obtain ⟨T1, X1, e1, st1⟩ := getF X0 hx hZ hown (host := "") (Or.inl (hw _ (List.mem_of_getElem? (i := 85) rfl))) Via.refl e0 pF1 (g := (mkF m 1 #[.val (.ref o1), .val (.long q2), .second] [(.ref o1)])) rfl rfl (hb hby own_d15_1)
  refine own_st (G' := T1.setTop (mkF m 4 #[.val (.ref o1), .val (.long q2), .second] [(.ref dd)])) st1 ?_
  refine own_aloadN X1 hx 5 (hb hby own_d15_4) rfl rfl ?_
  obtain ⟨T2, X2, e2, st2⟩ := getF X1 hx hZ hown (host := "") (Or.inl (hw _ (List.mem_of_getElem? (i := 87) rfl))) Via.refl e1 pF2 (g := (mkF m 5 #[.val (.ref o1), .val (.long q2), .second] [(.ref o1), (.ref dd)])) rfl rfl (hb hby own_d15_5)
  refine own_st (G' := T2.setTop (mkF m 8 #[.val (.ref o1), .val (.long q2), .second] [(.long q1), (.ref dd)])) st2 ?_
  refine own_lloadN X2 hx 9 (hb hby own_d15_8) rfl ?_
  obtain ⟨cq3, kq3, q3a, q3b, q3c⟩ := isOf hZ e2 pE5
  obtain ⟨_, _, ⟨T3, Lx3, kc3, nc3⟩, -, X3, ⟨Lc3, hQ3, lq3, yq3, zq3⟩, st3⟩ := X2.virtualBack hx (y := (⟨"com/example/loomsand/loomsand/Draws", "start", "(JJ)V"⟩ : MethodName)) (z := (⟨"com/example/loomsand/loomsand/Draws", "start", "(JJ)V"⟩ : MethodName)) hown (mvT hZ (hw _ (List.mem_of_getElem? (i := 105) rfl))) (mvT hZ (hw _ (List.mem_of_getElem? (i := 36) rfl))) (notFace_of_selects (args := #[]) (mvT hZ (hw _ (List.mem_of_getElem? (i := 38) rfl)))) (mvT hZ (hw _ (List.mem_of_getElem? (i := 38) rfl))) (mvT hZ (hw _ (List.mem_of_getElem? (i := 37) rfl))) (by decide) (backOf (W := 0) (own_rm7 l Z a0 hw [] dd q1 q2 z1 z2 z3 h0 n0 Z0 pE5 pF6 pF7 pF8 pG9) hZ (hw _ (List.mem_of_getElem? (i := 39) rfl)) (hw _ (List.mem_of_getElem? (i := 9) rfl)) (by decide) (by decide)) q3a q3c (g := (mkF m 9 #[.val (.ref o1), .val (.long q2), .second] [(.long q2), (.long q1), (.ref dd)])) rfl (by rw [hml]; rfl) (Steps.refl _) (argsL := [(.long q1), (.long q2)]) (rest := []) (lenOf own_pd5 rfl) rfl (by show 2 * 0 + _ ≤ _; exact Nat.le_of_eq rfl) (hb hby own_d15_9) (fun _ _ => ⟨rfl, e2, (by decide : 0 + 0 ≤ _), (by decide : 0 + 0 ≤ _)⟩)
  dsimp only [Pt.U, Pt.locs, Pt.cells, Pt.slots] at X3 lq3 yq3 zq3 st3 hQ3
  subst lq3 yq3 zq3
  obtain ⟨rfl, Nq3, Kp3, G3_0, G3_1, G3_2, G3_3⟩ := hQ3
  have N3 := Fr.app N0 Nq3
  have KC4 := KC0.trans Kp3 (allS (Or.inl (List.mem_of_getElem? (i := 0) rfl)) all0)
  have Z5 := Nat.le_trans Z0 Kp3.1
  refine own_st (G' := T3.setTop (mkF m 12 #[.val (.ref o1), .val (.long q2), .second] [])) (fun t k => st3.trans k) ?_
  refine own_aloadN X3 hx 13 (hb hby own_d15_12) rfl rfl ?_
  have f6 := (pF1.keep Kp3 (ninS pN10 nin0))
  obtain ⟨T7, X7, e7, st7⟩ := getF X3 hx hZ hown (host := "") (Or.inl (hw _ (List.mem_of_getElem? (i := 85) rfl))) Via.refl rfl f6 (g := (mkF m 13 #[.val (.ref o1), .val (.long q2), .second] [(.ref o1)])) rfl rfl (hb hby own_d15_13)
  refine own_st (G' := T7.setTop (mkF m 16 #[.val (.ref o1), .val (.long q2), .second] [(.ref dd)])) st7 ?_
  refine own_aloadN X7 hx 17 (hb hby own_d15_16) rfl rfl ?_
  have f8 := (pF3.keep Kp3 (ninS pN10 nin0))
  obtain ⟨T9, X9, e9, st9⟩ := getF X7 hx hZ hown (host := "") (Or.inl (hw _ (List.mem_of_getElem? (i := 89) rfl))) Via.refl e7 f8 (g := (mkF m 17 #[.val (.ref o1), .val (.long q2), .second] [(.ref o1), (.ref dd)])) rfl rfl (hb hby own_d15_17)
  refine own_st (G' := T9.setTop (mkF m 20 #[.val (.ref o1), .val (.long q2), .second] [(.long q3), (.ref dd)])) st9 ?_
  refine own_aloadN X9 hx 21 (hb hby own_d15_20) rfl rfl ?_
  have f10 := (pF4.keep Kp3 (ninS pN10 nin0))
  obtain ⟨T11, X11, e11, st11⟩ := getF X9 hx hZ hown (host := "") (Or.inl (hw _ (List.mem_of_getElem? (i := 91) rfl))) Via.refl e9 f10 (g := (mkF m 21 #[.val (.ref o1), .val (.long q2), .second] [(.ref o1), (.long q3), (.ref dd)])) rfl rfl (hb hby own_d15_21)
  refine own_st (G' := T11.setTop (mkF m 24 #[.val (.ref o1), .val (.long q2), .second] [(.long q4), (.long q3), (.ref dd)])) st11 ?_
  obtain ⟨cq12, kq12, q12a, q12b, q12c⟩ := isOf hZ e11 G3_0
  obtain ⟨_, _, ⟨T12, Lx12, kc12, nc12⟩, -, X12, ⟨Lc12, hQ12, lq12, yq12, zq12⟩, st12⟩ := X11.virtualBack hx (y := (⟨"com/example/loomsand/loomsand/Draws", "between", "(JJ)J"⟩ : MethodName)) (z := (⟨"com/example/loomsand/loomsand/Draws", "between", "(JJ)J"⟩ : MethodName)) hown (mvT hZ (hw _ (List.mem_of_getElem? (i := 106) rfl))) (mvT hZ (hw _ (List.mem_of_getElem? (i := 53) rfl))) (notFace_of_selects (args := #[]) (mvT hZ (hw _ (List.mem_of_getElem? (i := 55) rfl)))) (mvT hZ (hw _ (List.mem_of_getElem? (i := 55) rfl))) (mvT hZ (hw _ (List.mem_of_getElem? (i := 54) rfl))) (by decide) (backOf (W := 0) (own_rm9 l Z a0 hw [] dd q3 q4 q1 q2 (own_mix (q1 + (q2 * (-7046029254386353131 : Int64)))) T3.heap n0 Z5 G3_0 G3_1 G3_2 G3_3 pG9 (by assumption : ¬ (q4 < q3))) hZ (hw _ (List.mem_of_getElem? (i := 56) rfl)) (hw _ (List.mem_of_getElem? (i := 9) rfl)) (by decide) (by decide)) q12a q12c (g := (mkF m 24 #[.val (.ref o1), .val (.long q2), .second] [(.long q4), (.long q3), (.ref dd)])) rfl (by rw [hml]; rfl) (Steps.refl _) (argsL := [(.long q3), (.long q4)]) (rest := []) (lenOf own_pd4 rfl) rfl (by show 2 * 0 + _ ≤ _; exact Nat.le_of_eq rfl) (hb hby own_d15_24) (fun _ _ => ⟨rfl, e11, (by decide : 0 + 0 ≤ _), (by decide : 0 + 0 ≤ _)⟩)
  dsimp only [Pt.U, Pt.locs, Pt.cells, Pt.slots] at X12 lq12 yq12 zq12 st12 hQ12
  subst lq12 yq12 zq12
  obtain ⟨zz_12, rfl, Nq12, Kp12, G12_0, G12_1, G12_2, G12_3⟩ := hQ12
  have N12 := Fr.app N3 Nq12
  have KC13 := KC4.trans Kp12 (allS (Or.inl (List.mem_of_getElem? (i := 0) rfl)) all0)
  have Z14 := Nat.le_trans Z5 Kp12.1
  refine own_st (G' := T12.setTop (mkF m 27 #[.val (.ref o1), .val (.long q2), .second] [(.long (own_btw q3 q4 ((own_mix (q1 + (q2 * (-7046029254386353131 : Int64)))) + (-7046029254386353131 : Int64))))])) (fun t k => st12.trans k) ?_
  exact own_retL (z := (own_btw q3 q4 ((own_mix (q1 + (q2 * (-7046029254386353131 : Int64)))) + (-7046029254386353131 : Int64)))) (Q := own_Q15 Z o1 q2 dd q1 q3 q4 z1 z2 z3 h0 n0) X12 hx hrt (hb hby own_d15_27) hlk rfl ⟨zz_12, rfl, N12, KC13, G12_0, G12_1, G12_2, G12_3⟩ (by decide) (by decide)
theorem own_d16_0 : decode prog_28_method_4_code 0 = .ok (.aload_n 0, 1) := by decide +kernel
theorem own_d16_1 : decode prog_28_method_4_code 1 = .ok (.getfield 38, 3) := by decide +kernel
theorem own_d16_4 : decode prog_28_method_4_code 4 = .ok (.aload_n 0, 1) := by decide +kernel
theorem own_d16_5 : decode prog_28_method_4_code 5 = .ok (.getfield 38, 3) := by decide +kernel
theorem own_d16_8 : decode prog_28_method_4_code 8 = .ok (.arraylength, 1) := by decide +kernel
theorem own_d16_9 : decode prog_28_method_4_code 9 = .ok (.iconst 1, 1) := by decide +kernel
theorem own_d16_10 : decode prog_28_method_4_code 10 = .ok (.isub, 1) := by decide +kernel
theorem own_d16_11 : decode prog_28_method_4_code 11 = .ok (.laload, 1) := by decide +kernel
theorem own_d16_12 : decode prog_28_method_4_code 12 = .ok (.lreturn, 1) := by decide +kernel
theorem own_ef16 (m : MethodId) (o1 : Addr) : entryFrame m #[(.ref o1)] 1 = mkF m 0 #[.val (.ref o1)] [] := by first | (simp [entryFrame, mkF, argsToLocals, Value.category]; done) | rfl
def own_Q16 (Z : State) (o1 : Addr) (bb : Addr) (kb : ClassId) (nn : Int32) (vs : List Value) (qr : Int64) (h0 : Heap) (n0 : Nat) (v : Option Value) (h : Heap) (L : List Loc) : Prop := v = some (.long qr) ∧ Fr n0 L ∧ h = h0
set_option maxRecDepth 65536 in
set_option maxHeartbeats 40000000 in
theorem own_rm16 (l : Launch) (Z : State) (a0 : Array Value) (hw : ∀ d ∈ tables_1, d.before a0 Z = true) (ws : List Jvm.Cond) (o1 : Addr) (bb : Addr) (kb : ClassId) (nn : Int32) (vs : List Value) (qr : Int64) (h0 : Heap) (n0 : Nat) (Z0 : n0 ≤ h0.size) (pF1 : Fld Z h0 o1 "com/example/loomsand/loomsand/ParentRows" "starts" "[J" (.ref bb)) (pV2 : Arv Z h0 bb kb .long nn vs (.long (0 : Int64))) (hn1 : 0 < nn.toInt) (hel : vs.getD (nn - (1 : Int32)).toNatClampNeg (.long (0 : Int64)) = (.long qr)) :
    MetFree l (⟨"com/example/loomsand/loomsand/ParentRows", "total", "()J"⟩ : MethodName) (head1 (Jvm.Cond.code (⟨"com/example/loomsand/loomsand/ParentRows", "total", "()J"⟩ : MethodName) prog_28_method_4_code 1 (some .long) :: ws) ({ frames := 0, cells := 0, slots := 0, locals := 0 } : Room)) (fun a U => a = #[(.ref o1)] ∧ Z.Warmed39 U.vm ∧ U.heap = h0) (fun _ _ _ _ _ => True) (fun _ U o U' => ∃ v L, o = .returned v ∧ own_Q16 Z o1 bb kb nn vs qr h0 n0 v U'.heap L ∧ FrameEnd U o U' L ({ frames := 0, cells := 0, slots := 0, locals := 0 } : Room).cells ({ frames := 0, cells := 0, slots := 0, locals := 0 } : Room).slots) := by
  refine MetFree.of_bodySF (plainFor_of_name own_pn4) hisR ?_
  intro p e s m args below meth c s₁ Bd hml0 hP hK
  obtain ⟨rfl, hZ, hh⟩ := hP
  have hx := Bd.exec
  have hby := Bd.bytes
  have hlk := Bd.notSynchronized
  have hrt := Bd.returns
  have hml : c.maxLocals = 1 := hml0
  have hown : s.vm.findClass "com/example/loomsand/loomsand/ParentRows" = some m.cls := findClass_of_methodNamed Bd.named
  have hnm := (name_of_methodNamed Bd.named Bd.method).1
  have X0 : Stand p l e ({ frames := 0, cells := 0, slots := 0, locals := 0 } : Room) s m #[(.ref o1)] below meth c s₁ [] 0 0 := Stand.of_body Bd
  have e0 : s₁.heap = h0 := by rw [← hh, Bd.state]; rfl
  have N0 := Fr.nil n0
  refine own_in (own_ef16 m o1) ?_
  refine own_aloadN X0 hx 1 (hb hby own_d16_0) rfl rfl ?_
  obtain ⟨T1, X1, e1, st1⟩ := getF X0 hx hZ hown (host := "") (Or.inl (hw _ (List.mem_of_getElem? (i := 99) rfl))) Via.refl e0 pF1 (g := (mkF m 1 #[.val (.ref o1)] [(.ref o1)])) rfl rfl (hb hby own_d16_1)
  refine own_st (G' := T1.setTop (mkF m 4 #[.val (.ref o1)] [(.ref bb)])) st1 ?_
  refine own_aloadN X1 hx 5 (hb hby own_d16_4) rfl rfl ?_
  obtain ⟨T2, X2, e2, st2⟩ := getF X1 hx hZ hown (host := "") (Or.inl (hw _ (List.mem_of_getElem? (i := 99) rfl))) Via.refl e1 pF1 (g := (mkF m 5 #[.val (.ref o1)] [(.ref o1), (.ref bb)])) rfl rfl (hb hby own_d16_5)
  refine own_st (G' := T2.setTop (mkF m 8 #[.val (.ref o1)] [(.ref bb), (.ref bb)])) st2 ?_
  obtain ⟨cl3, Ar3, qv3, S3, M3, H3, G3⟩ := id pV2
  have ln3 := len_of S3 M3
  refine own_st (G' := T2.setTop (mkF m 9 #[.val (.ref o1)] [(.int nn), (.ref bb)])) (fun t k => X2.arraylength hx (by rw [e2]; exact Ar3.1) (State.isArrayOf_alike hZ.alike Ar3.2.1) (g := (mkF m 8 #[.val (.ref o1)] [(.ref bb), (.ref bb)])) rfl rfl (hb hby own_d16_8) _ (by rw [ln3]; exact k)) ?_
  refine own_iconst X2 hx 10 (1 : Int32) (hb hby own_d16_9) rfl ?_
  refine own_isub X2 hx 11 (hb hby own_d16_10) ?_
  obtain ⟨cl4, Ar4, qv4, S4, M4, H4, G4⟩ := id pV2
  have hin4 : ¬ ((nn - (1 : Int32)) < 0 ∨ cl4.slots.size ≤ ((nn - (1 : Int32))).toNatClampNeg) := inb_of S4 (own_last hn1)
  refine own_st (G' := T2.setTop (mkF m 12 #[.val (.ref o1)] [(.long qr)])) (fun t k => X2.laload hx (j := (nn - (1 : Int32))) (v := (.long qr)) (by rw [e2]; exact Ar4.1) (State.isArrayOf_alike hZ.alike Ar4.2.1) Ar4.2.2 hin4 (H4.at hin4 hel) (g := (mkF m 11 #[.val (.ref o1)] [(.int (nn - (1 : Int32))), (.ref bb)])) rfl rfl (hb hby own_d16_11) _ k) ?_
  exact own_retL (z := qr) (Q := own_Q16 Z o1 bb kb nn vs qr h0 n0) X2 hx hrt (hb hby own_d16_12) hlk e2 ⟨rfl, N0, rfl⟩ (by decide) (by decide)
def own_lstJ (N : Nat) (g : Nat → Int64) : List Value := (List.range N).map fun i => Value.long (g i)
theorem own_lstJ_len (N : Nat) (g : Nat → Int64) : (own_lstJ N g).length = N := by simp [own_lstJ]
theorem own_lstJ_get {N : Nat} {g : Nat → Int64} {dv : Value} {j : Nat} (h : j < N) : (own_lstJ N g).getD j dv = .long (g j) := by simp [own_lstJ, h]
theorem own_lstJ_set {N : Nat} {g : Nat → Int64} {q : Nat} {y : Int64} : (own_lstJ N g).set q (.long y) = own_lstJ N (fun i => if i = q then y else g i) := by
  apply List.ext_getElem?
  intro j
  simp only [own_lstJ, List.getElem?_set, List.getElem?_map, List.length_map, List.length_range]
  by_cases h : q = j
  · subst h
    by_cases h2 : q < N
    · simp [h2]
    · simp [h2]
  · have h' : ¬ j = q := fun e => h e.symm
    by_cases h2 : j < N
    · simp [h, h', h2]
    · simp [h, h2]
theorem own_lstJ_pad (N : Nat) : ∀ i, (own_lstJ N fun _ => (0 : Int64)).getD i (.long (0 : Int64)) = ([] : List Value).getD i (.long (0 : Int64)) := fun i => by
  by_cases h : i < N
  · rw [own_lstJ_get h]; simp
  · simp [own_lstJ, h]

def own_sum (q1 q3 q4 : Int64) : Nat → Int64
  | 0 => (0 : Int64)
  | n + 1 => own_sum q1 q3 q4 n + (own_btw q3 q4 ((own_mix (q1 + ((Int64.ofNat n) * (-7046029254386353131 : Int64)))) + (-7046029254386353131 : Int64)))
theorem own_block {q2 : Int64} (hp : 0 ≤ q2.toInt ∧ q2.toInt ≤ 511) : own_max (128 : Int64) (((q2 + (16777216 : Int64)) - (1 : Int64)) / (16777216 : Int64)) = (128 : Int64) := by
  have h1 := c_ladd q2 16777216
  have e1 : (16777216 : Int64).toInt = 16777216 := rfl
  have e2 : (1 : Int64).toInt = 1 := rfl
  have r1 := rng64 (q2 + 16777216)
  have h2 := c_lsub (q2 + 16777216) 1
  have r2 := rng64 ((q2 + 16777216) - 1)
  have h3 := (c_ldiv ((q2 + 16777216) - 1) 16777216 16777216 rfl (by decide)).1 (by omega)
  unfold own_max
  rw [if_neg]
  rw [Int64.lt_iff_toInt_lt, h3]
  have e3 : (128 : Int64).toInt = 128 := rfl
  omega
theorem own_n5 {q2 : Int64} {nn : Int32} (hp : 0 ≤ q2.toInt ∧ q2.toInt ≤ 511) (h : ((((q2 + (128 : Int64)) - (1 : Int64)) / (128 : Int64)).toInt32 + (1 : Int32)) = nn) : 0 < nn.toInt ∧ nn.toInt ≤ 5 ∧ nn.toInt = (q2.toInt + 127) / 128 + 1 := by
  subst h
  have h1 := c_ladd q2 128
  have e1 : (128 : Int64).toInt = 128 := rfl
  have e2 : (1 : Int64).toInt = 1 := rfl
  have r1 := rng64 (q2 + 128)
  have h2 := c_lsub (q2 + 128) 1
  have r2 := rng64 ((q2 + 128) - 1)
  have h3 := (c_ldiv ((q2 + 128) - 1) 128 128 rfl (by decide)).1 (by omega)
  have h4 := c_l2i (((q2 + 128) - 1) / 128)
  have r4 := rng32 (((q2 + 128) - 1) / 128).toInt32
  have h5 := c_iadd (((q2 + 128) - 1) / 128).toInt32 1
  have r5 := rng32 ((((q2 + 128) - 1) / 128).toInt32 + 1)
  have e3 : (1 : Int32).toInt = 1 := rfl
  refine ⟨?_, ?_, ?_⟩ <;> omega
theorem own_n5a {nn : Int32} {q2 : Int64} (h : 0 < nn.toInt ∧ nn.toInt ≤ 5 ∧ nn.toInt = (q2.toInt + 127) / 128 + 1) : ¬ nn < 0 := by
  rw [Int32.lt_iff_toInt_lt]; have e : (0 : Int32).toInt = 0 := rfl; omega
theorem own_n5b {nn : Int32} {q2 : Int64} (h : 0 < nn.toInt ∧ nn.toInt ≤ 5 ∧ nn.toInt = (q2.toInt + 127) / 128 + 1) : nn.toNatClampNeg ≤ 5 := by
  unfold Int32.toNatClampNeg; omega
theorem own_l5 {nn : Int32} {q2 : Int64} (h : 0 < nn.toInt ∧ nn.toInt ≤ 5 ∧ nn.toInt = (q2.toInt + 127) / 128 + 1) : (nn - (1 : Int32)).toNatClampNeg < 5 := by
  have h1 := c_isub nn 1
  have h3 := rng32 (nn - 1)
  have e1 : (1 : Int32).toInt = 1 := rfl
  unfold Int32.toNatClampNeg; omega
theorem own_dec {q2 ii : Int64} {ki : Nat} (hp : 0 ≤ q2.toInt ∧ q2.toInt ≤ 511) (hik : ii.toInt = (ki : Int)) (hlt : ii < q2) : q2.toInt.toNat - (ki + 1) < q2.toInt.toNat - ki := by
  rw [Int64.lt_iff_toInt_lt] at hlt; omega
theorem own_up {q2 ii : Int64} {ki : Nat} (hp : 0 ≤ q2.toInt ∧ q2.toInt ≤ 511) (hik : ii.toInt = (ki : Int)) (hlt : ii < q2) : (ii + (1 : Int64)).toInt = ((ki + 1 : Nat) : Int) := by
  rw [Int64.lt_iff_toInt_lt] at hlt
  have h1 := c_ladd ii 1
  have r1 := rng64 (ii + 1)
  have e2 : (1 : Int64).toInt = 1 := rfl
  omega
theorem own_up2 {q2 ii : Int64} {ki : Nat} (hp : 0 ≤ q2.toInt ∧ q2.toInt ≤ 511) (hik : ii.toInt = (ki : Int)) (hlt : ii < q2) : ki + 1 ≤ q2.toInt.toNat := by
  rw [Int64.lt_iff_toInt_lt] at hlt; omega
theorem own_of {ii : Int64} {ki : Nat} (hik : ii.toInt = (ki : Int)) : ii = Int64.ofNat ki := by
  apply Int64.toInt_inj.mp
  have r := rng64 ii
  rw [hik, Int64.toInt_ofNat_of_lt (by omega)]
theorem own_acc {q1 q3 q4 ii acc : Int64} {ki : Nat} (hik : ii.toInt = (ki : Int)) (hacc : acc = own_sum q1 q3 q4 ki) : (acc + (own_btw q3 q4 ((own_mix (q1 + (ii * (-7046029254386353131 : Int64)))) + (-7046029254386353131 : Int64)))) = own_sum q1 q3 q4 (ki + 1) := by
  rw [own_of hik, hacc]; rfl
theorem own_ib {q2 ii : Int64} {nn : Int32} {ki : Nat} (hp : 0 ≤ q2.toInt ∧ q2.toInt ≤ 511) (hik : ii.toInt = (ki : Int)) (h : ((((q2 + (128 : Int64)) - (1 : Int64)) / (128 : Int64)).toInt32 + (1 : Int32)) = nn) (hlt : ii < q2) : ¬ ((ii / (128 : Int64)).toInt32) < 0 ∧ ((ii / (128 : Int64)).toInt32) < nn := by
  have h5 := own_n5 hp h
  rw [Int64.lt_iff_toInt_lt] at hlt
  have h3 := (c_ldiv ii 128 128 rfl (by decide)).1 (by omega)
  have h4 := c_l2i (ii / 128)
  have r4 := rng32 (ii / 128).toInt32
  rw [Int32.lt_iff_toInt_lt, Int32.lt_iff_toInt_lt]
  have e : (0 : Int32).toInt = 0 := rfl
  constructor <;> omega
theorem own_ib5 {q2 ii : Int64} {ki : Nat} (hp : 0 ≤ q2.toInt ∧ q2.toInt ≤ 511) (hik : ii.toInt = (ki : Int)) (hlt : ii < q2) : ((ii / (128 : Int64)).toInt32).toNatClampNeg < 5 := by
  rw [Int64.lt_iff_toInt_lt] at hlt
  have h3 := (c_ldiv ii 128 128 rfl (by decide)).1 (by omega)
  have h4 := c_l2i (ii / 128)
  have r4 := rng32 (ii / 128).toInt32
  unfold Int32.toNatClampNeg; omega
theorem own_fin {q1 q2 q3 q4 ii acc : Int64} {nn : Int32} {gg : Nat → Int64} {ki : Nat} (h5 : 0 < nn.toInt ∧ nn.toInt ≤ 5 ∧ nn.toInt = (q2.toInt + 127) / 128 + 1) (hp : 0 ≤ q2.toInt ∧ q2.toInt ≤ 511) (hik : ii.toInt = (ki : Int)) (hkq : ki ≤ q2.toInt.toNat) (hge : ¬ ii < q2) (hacc : acc = own_sum q1 q3 q4 ki) :
    (own_lstJ 5 (fun i => if i = (nn - (1 : Int32)).toNatClampNeg then acc else gg i)).getD (nn - (1 : Int32)).toNatClampNeg (.long (0 : Int64)) = (.long (own_sum q1 q3 q4 q2.toInt.toNat)) := by
  rw [own_lstJ_get (own_l5 h5)]
  rw [Int64.lt_iff_toInt_lt] at hge
  have e : ki = q2.toInt.toNat := by omega
  simp [hacc, e]

theorem own_d14_0 : decode prog_28_method_1_code 0 = .ok (.aload_n 0, 1) := by decide +kernel
theorem own_d14_1 : decode prog_28_method_1_code 1 = .ok (.invokespecial 1, 3) := by decide +kernel
theorem own_d14_4 : decode prog_28_method_1_code 4 = .ok (.aload_n 0, 1) := by decide +kernel
theorem own_d14_5 : decode prog_28_method_1_code 5 = .ok (.new 7, 3) := by decide +kernel
theorem own_d14_8 : decode prog_28_method_1_code 8 = .ok (.dup, 1) := by decide +kernel
theorem own_d14_9 : decode prog_28_method_1_code 9 = .ok (.invokespecial 9, 3) := by decide +kernel
theorem own_d14_12 : decode prog_28_method_1_code 12 = .ok (.putfield 10, 3) := by decide +kernel
theorem own_d14_15 : decode prog_28_method_1_code 15 = .ok (.aload_n 0, 1) := by decide +kernel
theorem own_d14_16 : decode prog_28_method_1_code 16 = .ok (.lload_n 1, 1) := by decide +kernel
theorem own_d14_17 : decode prog_28_method_1_code 17 = .ok (.putfield 16, 3) := by decide +kernel
theorem own_d14_20 : decode prog_28_method_1_code 20 = .ok (.aload_n 0, 1) := by decide +kernel
theorem own_d14_21 : decode prog_28_method_1_code 21 = .ok (.lload 5, 2) := by decide +kernel
theorem own_d14_23 : decode prog_28_method_1_code 23 = .ok (.putfield 20, 3) := by decide +kernel
theorem own_d14_26 : decode prog_28_method_1_code 26 = .ok (.aload_n 0, 1) := by decide +kernel
theorem own_d14_27 : decode prog_28_method_1_code 27 = .ok (.lload 7, 2) := by decide +kernel
theorem own_d14_29 : decode prog_28_method_1_code 29 = .ok (.putfield 23, 3) := by decide +kernel
theorem own_d14_32 : decode prog_28_method_1_code 32 = .ok (.aload_n 0, 1) := by decide +kernel
theorem own_d14_33 : decode prog_28_method_1_code 33 = .ok (.ldc2_w 26, 3) := by decide +kernel
theorem own_d14_36 : decode prog_28_method_1_code 36 = .ok (.lload_n 3, 1) := by decide +kernel
theorem own_d14_37 : decode prog_28_method_1_code 37 = .ok (.ldc2_w 28, 3) := by decide +kernel
theorem own_d14_40 : decode prog_28_method_1_code 40 = .ok (.ladd, 1) := by decide +kernel
theorem own_d14_41 : decode prog_28_method_1_code 41 = .ok (.lconst 1, 1) := by decide +kernel
theorem own_d14_42 : decode prog_28_method_1_code 42 = .ok (.lsub, 1) := by decide +kernel
theorem own_d14_43 : decode prog_28_method_1_code 43 = .ok (.ldc2_w 28, 3) := by decide +kernel
theorem own_d14_46 : decode prog_28_method_1_code 46 = .ok (.ldiv, 1) := by decide +kernel
theorem own_d14_47 : decode prog_28_method_1_code 47 = .ok (.invokestatic 30, 3) := by decide +kernel
theorem own_d14_50 : decode prog_28_method_1_code 50 = .ok (.putfield 35, 3) := by decide +kernel
theorem own_d14_53 : decode prog_28_method_1_code 53 = .ok (.aload_n 0, 1) := by decide +kernel
theorem own_d14_54 : decode prog_28_method_1_code 54 = .ok (.lload_n 3, 1) := by decide +kernel
theorem own_d14_55 : decode prog_28_method_1_code 55 = .ok (.aload_n 0, 1) := by decide +kernel
theorem own_d14_56 : decode prog_28_method_1_code 56 = .ok (.getfield 35, 3) := by decide +kernel
theorem own_d14_59 : decode prog_28_method_1_code 59 = .ok (.ladd, 1) := by decide +kernel
theorem own_d14_60 : decode prog_28_method_1_code 60 = .ok (.lconst 1, 1) := by decide +kernel
theorem own_d14_61 : decode prog_28_method_1_code 61 = .ok (.lsub, 1) := by decide +kernel
theorem own_d14_62 : decode prog_28_method_1_code 62 = .ok (.aload_n 0, 1) := by decide +kernel
theorem own_d14_63 : decode prog_28_method_1_code 63 = .ok (.getfield 35, 3) := by decide +kernel
theorem own_d14_66 : decode prog_28_method_1_code 66 = .ok (.ldiv, 1) := by decide +kernel
theorem own_d14_67 : decode prog_28_method_1_code 67 = .ok (.l2i, 1) := by decide +kernel
theorem own_d14_68 : decode prog_28_method_1_code 68 = .ok (.iconst 1, 1) := by decide +kernel
theorem own_d14_69 : decode prog_28_method_1_code 69 = .ok (.iadd, 1) := by decide +kernel
theorem own_d14_70 : decode prog_28_method_1_code 70 = .ok (.newarray .long, 2) := by decide +kernel
theorem own_d14_72 : decode prog_28_method_1_code 72 = .ok (.putfield 38, 3) := by decide +kernel
theorem own_d14_75 : decode prog_28_method_1_code 75 = .ok (.lconst 0, 1) := by decide +kernel
theorem own_d14_76 : decode prog_28_method_1_code 76 = .ok (.lstore 9, 2) := by decide +kernel
theorem own_d14_78 : decode prog_28_method_1_code 78 = .ok (.lconst 0, 1) := by decide +kernel
theorem own_d14_79 : decode prog_28_method_1_code 79 = .ok (.lstore 11, 2) := by decide +kernel
theorem own_d14_81 : decode prog_28_method_1_code 81 = .ok (.lload 11, 2) := by decide +kernel
theorem own_d14_83 : decode prog_28_method_1_code 83 = .ok (.lload_n 3, 1) := by decide +kernel
theorem own_d14_84 : decode prog_28_method_1_code 84 = .ok (.lcmp, 1) := by decide +kernel
theorem own_d14_85 : decode prog_28_method_1_code 85 = .ok (.ifCond .ge 50, 3) := by decide +kernel
theorem own_d14_88 : decode prog_28_method_1_code 88 = .ok (.lload 11, 2) := by decide +kernel
theorem own_d14_90 : decode prog_28_method_1_code 90 = .ok (.aload_n 0, 1) := by decide +kernel
theorem own_d14_91 : decode prog_28_method_1_code 91 = .ok (.getfield 35, 3) := by decide +kernel
theorem own_d14_94 : decode prog_28_method_1_code 94 = .ok (.lrem, 1) := by decide +kernel
theorem own_d14_95 : decode prog_28_method_1_code 95 = .ok (.lconst 0, 1) := by decide +kernel
theorem own_d14_96 : decode prog_28_method_1_code 96 = .ok (.lcmp, 1) := by decide +kernel
theorem own_d14_97 : decode prog_28_method_1_code 97 = .ok (.ifCond .ne 18, 3) := by decide +kernel
theorem own_d14_100 : decode prog_28_method_1_code 100 = .ok (.aload_n 0, 1) := by decide +kernel
theorem own_d14_101 : decode prog_28_method_1_code 101 = .ok (.getfield 38, 3) := by decide +kernel
theorem own_d14_104 : decode prog_28_method_1_code 104 = .ok (.lload 11, 2) := by decide +kernel
theorem own_d14_106 : decode prog_28_method_1_code 106 = .ok (.aload_n 0, 1) := by decide +kernel
theorem own_d14_107 : decode prog_28_method_1_code 107 = .ok (.getfield 35, 3) := by decide +kernel
theorem own_d14_110 : decode prog_28_method_1_code 110 = .ok (.ldiv, 1) := by decide +kernel
theorem own_d14_111 : decode prog_28_method_1_code 111 = .ok (.l2i, 1) := by decide +kernel
theorem own_d14_112 : decode prog_28_method_1_code 112 = .ok (.lload 9, 2) := by decide +kernel
theorem own_d14_114 : decode prog_28_method_1_code 114 = .ok (.lastore, 1) := by decide +kernel
theorem own_d14_115 : decode prog_28_method_1_code 115 = .ok (.lload 9, 2) := by decide +kernel
theorem own_d14_117 : decode prog_28_method_1_code 117 = .ok (.aload_n 0, 1) := by decide +kernel
theorem own_d14_118 : decode prog_28_method_1_code 118 = .ok (.lload 11, 2) := by decide +kernel
theorem own_d14_120 : decode prog_28_method_1_code 120 = .ok (.invokevirtual 42, 3) := by decide +kernel
theorem own_d14_123 : decode prog_28_method_1_code 123 = .ok (.ladd, 1) := by decide +kernel
theorem own_d14_124 : decode prog_28_method_1_code 124 = .ok (.lstore 9, 2) := by decide +kernel
theorem own_d14_126 : decode prog_28_method_1_code 126 = .ok (.lload 11, 2) := by decide +kernel
theorem own_d14_128 : decode prog_28_method_1_code 128 = .ok (.lconst 1, 1) := by decide +kernel
theorem own_d14_129 : decode prog_28_method_1_code 129 = .ok (.ladd, 1) := by decide +kernel
theorem own_d14_130 : decode prog_28_method_1_code 130 = .ok (.lstore 11, 2) := by decide +kernel
theorem own_d14_132 : decode prog_28_method_1_code 132 = .ok (.goto (-51), 3) := by decide +kernel
theorem own_d14_135 : decode prog_28_method_1_code 135 = .ok (.aload_n 0, 1) := by decide +kernel
theorem own_d14_136 : decode prog_28_method_1_code 136 = .ok (.getfield 38, 3) := by decide +kernel
theorem own_d14_139 : decode prog_28_method_1_code 139 = .ok (.aload_n 0, 1) := by decide +kernel
theorem own_d14_140 : decode prog_28_method_1_code 140 = .ok (.getfield 38, 3) := by decide +kernel
theorem own_d14_143 : decode prog_28_method_1_code 143 = .ok (.arraylength, 1) := by decide +kernel
theorem own_d14_144 : decode prog_28_method_1_code 144 = .ok (.iconst 1, 1) := by decide +kernel
theorem own_d14_145 : decode prog_28_method_1_code 145 = .ok (.isub, 1) := by decide +kernel
theorem own_d14_146 : decode prog_28_method_1_code 146 = .ok (.lload 9, 2) := by decide +kernel
theorem own_d14_148 : decode prog_28_method_1_code 148 = .ok (.lastore, 1) := by decide +kernel
theorem own_d14_149 : decode prog_28_method_1_code 149 = .ok (.return_, 1) := by decide +kernel
theorem own_pd6 : parseMethodDescriptor "()V" = some ⟨[], none⟩ := by decide +kernel
theorem own_ef14 (m : MethodId) (o1 : Addr) (q1 : Int64) (q2 : Int64) (q3 : Int64) (q4 : Int64) : entryFrame m #[(.ref o1), (.long q1), (.long q2), (.long q3), (.long q4)] 13 = mkF m 0 #[.val (.ref o1), .val (.long q1), .second, .val (.long q2), .second, .val (.long q3), .second, .val (.long q4), .second, .unset, .unset, .unset, .unset] [] := by first | (simp [entryFrame, mkF, argsToLocals, Value.category]; done) | rfl
def own_Q14 (Z : State) (o1 : Addr) (q1 : Int64) (q2 : Int64) (q3 : Int64) (q4 : Int64) (h0 : Heap) (n0 : Nat) (v : Option Value) (h : Heap) (L : List Loc) : Prop := ∃ bb : Addr, ∃ kb : ClassId, ∃ nn : Int32, ∃ gg : Nat → Int64, v = none ∧ Fr n0 L ∧ Keep h0 h [o1] ∧ Exa Z h o1 "com/example/loomsand/loomsand/ParentRows" ∧ h0.size ≤ bb ∧ Fld Z h o1 "com/example/loomsand/loomsand/ParentRows" "starts" "[J" (.ref bb) ∧ Arv Z h bb kb .long nn (own_lstJ 5 gg) (.long (0 : Int64)) ∧ 0 < nn.toInt ∧ (own_lstJ 5 gg).getD (nn - (1 : Int32)).toNatClampNeg (.long (0 : Int64)) = (.long (own_sum q1 q3 q4 q2.toInt.toNat))
set_option maxRecDepth 65536 in
set_option maxHeartbeats 40000000 in
theorem own_rm14 (l : Launch) (Z : State) (a0 : Array Value) (hw : ∀ d ∈ tables_1, d.before a0 Z = true) (ws : List Jvm.Cond) (o1 : Addr) (q1 : Int64) (q2 : Int64) (q3 : Int64) (q4 : Int64) (h0 : Heap) (n0 : Nat) (Z0 : n0 ≤ h0.size) (pE1 : Exa Z h0 o1 "com/example/loomsand/loomsand/ParentRows") (pF2 : Fld Z h0 o1 "com/example/loomsand/loomsand/ParentRows" "draws" "Lcom/example/loomsand/loomsand/Draws;" .null) (pF3 : Fld Z h0 o1 "com/example/loomsand/loomsand/ParentRows" "key" "J" (.long (0 : Int64))) (pF4 : Fld Z h0 o1 "com/example/loomsand/loomsand/ParentRows" "min" "J" (.long (0 : Int64))) (pF5 : Fld Z h0 o1 "com/example/loomsand/loomsand/ParentRows" "max" "J" (.long (0 : Int64))) (pF6 : Fld Z h0 o1 "com/example/loomsand/loomsand/ParentRows" "block" "J" (.long (0 : Int64))) (pF7 : Fld Z h0 o1 "com/example/loomsand/loomsand/ParentRows" "starts" "[J" .null) (pG8 : n0 ≤ o1) (hle : ¬ (q4 < q3)) (hp : 0 ≤ q2.toInt ∧ q2.toInt ≤ 511) :
    MetFree l (⟨"com/example/loomsand/loomsand/ParentRows", "<init>", "(JJJJ)V"⟩ : MethodName) (head1 (Jvm.Cond.code (⟨"com/example/loomsand/loomsand/ParentRows", "<init>", "(JJJJ)V"⟩ : MethodName) prog_28_method_1_code 13 none :: ws) ({ frames := 4, cells := 4, slots := 14, locals := 3090 } : Room)) (fun a U => a = #[(.ref o1), (.long q1), (.long q2), (.long q3), (.long q4)] ∧ Z.Warmed39 U.vm ∧ U.heap = h0) (fun _ _ _ _ _ => True) (fun _ U o U' => ∃ v L, o = .returned v ∧ own_Q14 Z o1 q1 q2 q3 q4 h0 n0 v U'.heap L ∧ FrameEnd U o U' L ({ frames := 4, cells := 4, slots := 14, locals := 3090 } : Room).cells ({ frames := 4, cells := 4, slots := 14, locals := 3090 } : Room).slots) := by
  refine MetFree.of_bodySF (plainFor_of_name own_pn4) hisR ?_
  intro p e s m args below meth c s₁ Bd hml0 hP hK
  obtain ⟨rfl, hZ, hh⟩ := hP
  have hx := Bd.exec
  have hby := Bd.bytes
  have hlk := Bd.notSynchronized
  have hrt := Bd.returns
  have hml : c.maxLocals = 13 := hml0
  have hown : s.vm.findClass "com/example/loomsand/loomsand/ParentRows" = some m.cls := findClass_of_methodNamed Bd.named
  have hnm := (name_of_methodNamed Bd.named Bd.method).1
  have X0 : Stand p l e ({ frames := 4, cells := 4, slots := 14, locals := 3090 } : Room) s m #[(.ref o1), (.long q1), (.long q2), (.long q3), (.long q4)] below meth c s₁ [] 0 0 := Stand.of_body Bd
  have e0 : s₁.heap = h0 := by rw [← hh, Bd.state]; rfl
  have N0 := Fr.nil n0
  have KC0 := Keep.refl h0 [o1]
  refine own_in (own_ef14 m o1 q1 q2 q3 q4) ?_
  refine own_aloadN X0 hx 1 (hb hby own_d14_0) rfl rfl ?_
  obtain ⟨T1, X1, e1, st1⟩ := initO X0 hx hZ hown (hw _ (List.mem_of_getElem? (i := 82) rfl)) (hw _ (List.mem_of_getElem? (i := 14) rfl)) (hw _ (List.mem_of_getElem? (i := 15) rfl)) e0 (g := (mkF m 1 #[.val (.ref o1), .val (.long q1), .second, .val (.long q2), .second, .val (.long q3), .second, .val (.long q4), .second, .unset, .unset, .unset, .unset] [(.ref o1)])) rfl (by rw [hml]; rfl) rfl (hb hby own_d14_1) (by decide) (W := 0) (by show 2 * 0 + _ ≤ _; exact Nat.le_of_eq rfl) (by decide)
  refine own_st (G' := T1.setTop (mkF m 4 #[.val (.ref o1), .val (.long q1), .second, .val (.long q2), .second, .val (.long q3), .second, .val (.long q4), .second, .unset, .unset, .unset, .unset] [])) st1 ?_
  refine own_aloadN X1 hx 5 (hb hby own_d14_4) rfl rfl ?_
  obtain ⟨T2, h2, X2, e2, E2, A2, D2, -, st2⟩ := newO X1 hx hZ hown (hw _ (List.mem_of_getElem? (i := 83) rfl)) (hw _ (List.mem_of_getElem? (i := 8) rfl)) (hw _ (List.mem_of_getElem? (i := 9) rfl)) e1 (g := (mkF m 5 #[.val (.ref o1), .val (.long q1), .second, .val (.long q2), .second, .val (.long q3), .second, .val (.long q4), .second, .unset, .unset, .unset, .unset] [(.ref o1)])) rfl (hb hby own_d14_5) (by decide) (by decide)
  obtain ⟨b2, g2⟩ : ∃ z, z = h0.size := ⟨_, rfl⟩
  rw [← g2] at A2 D2 st2
  have ne3 : o1 ≠ b2 := Nat.ne_of_lt (Nat.lt_of_lt_of_le pE1.lt (Nat.le_of_eq g2.symm))
  have gt_b2 : n0 ≤ b2 := Nat.le_trans Z0 (Nat.le_of_eq g2.symm)
  have sz_b2 : h0.size ≤ b2 := Nat.le_trans KC0.1 (Nat.le_of_eq g2.symm)
  have KC4 := KC0.ext E2
  have Z5 := Nat.le_trans Z0 E2.1
  have F2_shuffle : Fld Z h2 b2 "com/example/loomsand/loomsand/Draws" "shuffle" "Lcom/example/loomsand/loomsand/Feistel;" .null := D2 (Or.inr (hw _ (List.mem_of_getElem? (i := 30) rfl))) (ty := (.object "com/example/loomsand/loomsand/Feistel")) (by decide)
  have F2_key : Fld Z h2 b2 "com/example/loomsand/loomsand/Draws" "key" "J" (.long (0 : Int64)) := D2 (Or.inl (hw _ (List.mem_of_getElem? (i := 41) rfl))) (ty := .long) (by decide)
  have F2_row : Fld Z h2 b2 "com/example/loomsand/loomsand/Draws" "row" "J" (.long (0 : Int64)) := D2 (Or.inl (hw _ (List.mem_of_getElem? (i := 43) rfl))) (ty := .long) (by decide)
  have F2_state : Fld Z h2 b2 "com/example/loomsand/loomsand/Draws" "state" "J" (.long (0 : Int64)) := D2 (Or.inl (hw _ (List.mem_of_getElem? (i := 51) rfl))) (ty := .long) (by decide)
  refine own_st (G' := T2.setTop (mkF m 8 #[.val (.ref o1), .val (.long q1), .second, .val (.long q2), .second, .val (.long q3), .second, .val (.long q4), .second, .unset, .unset, .unset, .unset] [(.ref b2), (.ref o1)])) st2 ?_
  refine own_dup X2 hx 9 (hb hby own_d14_8) rfl ?_
  obtain ⟨_, _, ⟨T6, Lx6, kc6, nc6⟩, -, X6, ⟨Lc6, hQ6, lq6, yq6, zq6⟩, st6⟩ := X2.specialBack hx (y := (⟨"com/example/loomsand/loomsand/Draws", "<init>", "()V"⟩ : MethodName)) rfl hown (mvT hZ (hw _ (List.mem_of_getElem? (i := 84) rfl))) (mvT hZ (hw _ (List.mem_of_getElem? (i := 11) rfl))) (mvT hZ (hw _ (List.mem_of_getElem? (i := 12) rfl))) (by decide) (backOf (W := 2) (own_rm3 l Z a0 hw [] b2 h2 n0 Z5 A2 F2_shuffle F2_key F2_row F2_state gt_b2) hZ (hw _ (List.mem_of_getElem? (i := 12) rfl)) (hw _ (List.mem_of_getElem? (i := 9) rfl)) (by decide) (by decide)) (g := (mkF m 9 #[.val (.ref o1), .val (.long q1), .second, .val (.long q2), .second, .val (.long q3), .second, .val (.long q4), .second, .unset, .unset, .unset, .unset] [(.ref b2), (.ref b2), (.ref o1)])) rfl (by rw [hml]; rfl) (Steps.refl _) (a := b2) (argsL := []) (rest := [(.ref b2), (.ref o1)]) (lenOf own_pd6 rfl) rfl (by show 2 * 0 + _ ≤ _; exact Nat.le_of_eq rfl) (hb hby own_d14_9) (fun _ _ => ⟨rfl, e2, (by decide : 1 + 2 ≤ _), (by decide : 5 + 4 ≤ _)⟩)
  dsimp only [Pt.U, Pt.locs, Pt.cells, Pt.slots] at X6 lq6 yq6 zq6 st6 hQ6
  subst lq6 yq6 zq6
  obtain ⟨rfl, Nq6, Kp6, G6_0, G6_1, G6_2, G6_3⟩ := hQ6
  have N6 := Fr.app N0 Nq6
  have KC7 := KC4.trans Kp6 (allS (Or.inr sz_b2) all0)
  have Z8 := Nat.le_trans Z5 Kp6.1
  refine own_st (G' := T6.setTop (mkF m 12 #[.val (.ref o1), .val (.long q1), .second, .val (.long q2), .second, .val (.long q3), .second, .val (.long q4), .second, .unset, .unset, .unset, .unset] [(.ref b2), (.ref o1)])) (fun t k => st6.trans k) ?_
  have f9 := ((pF2.ext E2).keep Kp6 (ninS ne3 nin0))
  have f10 := ((pE1.ext E2).keep Kp6)
  obtain ⟨T11, h11, X11, e11, W11, st11⟩ := putF X6 hx hZ hown (host := "") (Or.inl (hw _ (List.mem_of_getElem? (i := 85) rfl))) Via.refl rfl f9 f10 (Or.inr ⟨(hw _ (List.mem_of_getElem? (i := 86) rfl)), rfl, hnm⟩) (hw _ (List.mem_of_getElem? (i := 77) rfl)) (v := (.ref b2)) (ty := (.object "com/example/loomsand/loomsand/Draws")) (by decide) rfl rfl (g := (mkF m 12 #[.val (.ref o1), .val (.long q1), .second, .val (.long q2), .second, .val (.long q3), .second, .val (.long q4), .second, .unset, .unset, .unset, .unset] [(.ref b2), (.ref o1)])) rfl rfl (hb hby own_d14_12)
  have Fw11 := f9.same W11
  have N11 := Fr.snoc X11 N6 pG8
  have KC12 := KC7.wr W11 (Or.inl (List.mem_of_getElem? (i := 0) rfl))
  have Z13 := Nat.le_trans Z8 (Nat.le_of_eq W11.size.symm)
  refine own_st (G' := T11.setTop (mkF m 15 #[.val (.ref o1), .val (.long q1), .second, .val (.long q2), .second, .val (.long q3), .second, .val (.long q4), .second, .unset, .unset, .unset, .unset] [])) st11 ?_
  refine own_aloadN X11 hx 16 (hb hby own_d14_15) rfl rfl ?_
  refine own_lloadN X11 hx 17 (hb hby own_d14_16) rfl ?_
  have f14 := (((pF3.ext E2).keep Kp6 (ninS ne3 nin0)).other W11 (Or.inr (slot_ne (Or.inr (hw _ (List.mem_of_getElem? (i := 88) rfl))) (Or.inr (hw _ (List.mem_of_getElem? (i := 86) rfl))) (by decide) (t := .long) (t' := (.object "com/example/loomsand/loomsand/Draws")) (by decide) (by decide))))
  have f15 := (f10.wr W11)
  obtain ⟨T16, h16, X16, e16, W16, st16⟩ := putF X11 hx hZ hown (host := "") (Or.inl (hw _ (List.mem_of_getElem? (i := 87) rfl))) Via.refl e11 f14 f15 (Or.inr ⟨(hw _ (List.mem_of_getElem? (i := 88) rfl)), rfl, hnm⟩) (hw _ (List.mem_of_getElem? (i := 77) rfl)) (v := (.long q1)) (ty := .long) (by decide) rfl rfl (g := (mkF m 17 #[.val (.ref o1), .val (.long q1), .second, .val (.long q2), .second, .val (.long q3), .second, .val (.long q4), .second, .unset, .unset, .unset, .unset] [(.long q1), (.ref o1)])) rfl rfl (hb hby own_d14_17)
  have Fw16 := f14.same W16
  have N16 := Fr.snoc X16 N11 pG8
  have KC17 := KC12.wr W16 (Or.inl (List.mem_of_getElem? (i := 0) rfl))
  have Z18 := Nat.le_trans Z13 (Nat.le_of_eq W16.size.symm)
  refine own_st (G' := T16.setTop (mkF m 20 #[.val (.ref o1), .val (.long q1), .second, .val (.long q2), .second, .val (.long q3), .second, .val (.long q4), .second, .unset, .unset, .unset, .unset] [])) st16 ?_
  refine own_aloadN X16 hx 21 (hb hby own_d14_20) rfl rfl ?_
  refine own_lload X16 hx 23 (hb hby own_d14_21) rfl ?_
  have f19 := ((((pF4.ext E2).keep Kp6 (ninS ne3 nin0)).other W11 (Or.inr (slot_ne (Or.inr (hw _ (List.mem_of_getElem? (i := 90) rfl))) (Or.inr (hw _ (List.mem_of_getElem? (i := 86) rfl))) (by decide) (t := .long) (t' := (.object "com/example/loomsand/loomsand/Draws")) (by decide) (by decide)))).other W16 (Or.inr (slot_ne (Or.inr (hw _ (List.mem_of_getElem? (i := 90) rfl))) (Or.inr (hw _ (List.mem_of_getElem? (i := 88) rfl))) (by decide) (t := .long) (t' := .long) (by decide) (by decide))))
  have f20 := (f15.wr W16)
  obtain ⟨T21, h21, X21, e21, W21, st21⟩ := putF X16 hx hZ hown (host := "") (Or.inl (hw _ (List.mem_of_getElem? (i := 89) rfl))) Via.refl e16 f19 f20 (Or.inr ⟨(hw _ (List.mem_of_getElem? (i := 90) rfl)), rfl, hnm⟩) (hw _ (List.mem_of_getElem? (i := 77) rfl)) (v := (.long q3)) (ty := .long) (by decide) rfl rfl (g := (mkF m 23 #[.val (.ref o1), .val (.long q1), .second, .val (.long q2), .second, .val (.long q3), .second, .val (.long q4), .second, .unset, .unset, .unset, .unset] [(.long q3), (.ref o1)])) rfl rfl (hb hby own_d14_23)
  have Fw21 := f19.same W21
  have N21 := Fr.snoc X21 N16 pG8
  have KC22 := KC17.wr W21 (Or.inl (List.mem_of_getElem? (i := 0) rfl))
  have Z23 := Nat.le_trans Z18 (Nat.le_of_eq W21.size.symm)
  refine own_st (G' := T21.setTop (mkF m 26 #[.val (.ref o1), .val (.long q1), .second, .val (.long q2), .second, .val (.long q3), .second, .val (.long q4), .second, .unset, .unset, .unset, .unset] [])) st21 ?_
  refine own_aloadN X21 hx 27 (hb hby own_d14_26) rfl rfl ?_
  refine own_lload X21 hx 29 (hb hby own_d14_27) rfl ?_
  have f24 := (((((pF5.ext E2).keep Kp6 (ninS ne3 nin0)).other W11 (Or.inr (slot_ne (Or.inr (hw _ (List.mem_of_getElem? (i := 92) rfl))) (Or.inr (hw _ (List.mem_of_getElem? (i := 86) rfl))) (by decide) (t := .long) (t' := (.object "com/example/loomsand/loomsand/Draws")) (by decide) (by decide)))).other W16 (Or.inr (slot_ne (Or.inr (hw _ (List.mem_of_getElem? (i := 92) rfl))) (Or.inr (hw _ (List.mem_of_getElem? (i := 88) rfl))) (by decide) (t := .long) (t' := .long) (by decide) (by decide)))).other W21 (Or.inr (slot_ne (Or.inr (hw _ (List.mem_of_getElem? (i := 92) rfl))) (Or.inr (hw _ (List.mem_of_getElem? (i := 90) rfl))) (by decide) (t := .long) (t' := .long) (by decide) (by decide))))
  have f25 := (f20.wr W21)
  obtain ⟨T26, h26, X26, e26, W26, st26⟩ := putF X21 hx hZ hown (host := "") (Or.inl (hw _ (List.mem_of_getElem? (i := 91) rfl))) Via.refl e21 f24 f25 (Or.inr ⟨(hw _ (List.mem_of_getElem? (i := 92) rfl)), rfl, hnm⟩) (hw _ (List.mem_of_getElem? (i := 77) rfl)) (v := (.long q4)) (ty := .long) (by decide) rfl rfl (g := (mkF m 29 #[.val (.ref o1), .val (.long q1), .second, .val (.long q2), .second, .val (.long q3), .second, .val (.long q4), .second, .unset, .unset, .unset, .unset] [(.long q4), (.ref o1)])) rfl rfl (hb hby own_d14_29)
  have Fw26 := f24.same W26
  have N26 := Fr.snoc X26 N21 pG8
  have KC27 := KC22.wr W26 (Or.inl (List.mem_of_getElem? (i := 0) rfl))
  have Z28 := Nat.le_trans Z23 (Nat.le_of_eq W26.size.symm)
  refine own_st (G' := T26.setTop (mkF m 32 #[.val (.ref o1), .val (.long q1), .second, .val (.long q2), .second, .val (.long q3), .second, .val (.long q4), .second, .unset, .unset, .unset, .unset] [])) st26 ?_
  refine own_aloadN X26 hx 33 (hb hby own_d14_32) rfl rfl ?_
  refine own_ldcL X26 hx 36 hown (mvT hZ (hw _ (List.mem_of_getElem? (i := 93) rfl))) (hb hby own_d14_33) ?_
  refine own_lloadN X26 hx 37 (hb hby own_d14_36) rfl ?_
  refine own_ldcL X26 hx 40 hown (mvT hZ (hw _ (List.mem_of_getElem? (i := 94) rfl))) (hb hby own_d14_37) ?_
  refine own_ladd X26 hx 41 (hb hby own_d14_40) ?_
  refine own_lconst X26 hx 42 (1 : Int64) (hb hby own_d14_41) rfl ?_
  refine own_lsub X26 hx 43 (hb hby own_d14_42) ?_
  refine own_ldcL X26 hx 46 hown (mvT hZ (hw _ (List.mem_of_getElem? (i := 94) rfl))) (hb hby own_d14_43) ?_
  refine own_ldiv X26 hx 47 (hb hby own_d14_46) (by decide) ?_
  obtain ⟨_, _, ⟨T29, Lx29, kc29, nc29⟩, -, X29, ⟨Lc29, hQ29, lq29, yq29, zq29⟩, st29⟩ := Jvm.LawKit.callS X26 hx (y := (⟨"java/lang/Math", "max", "(JJ)J"⟩ : MethodName)) hown (mvT hZ (hw _ (List.mem_of_getElem? (i := 95) rfl))) (mvT hZ (hw _ (List.mem_of_getElem? (i := 5) rfl))) (mvT hZ (hw _ (List.mem_of_getElem? (i := 2) rfl))) (mvT hZ (hw _ (List.mem_of_getElem? (i := 6) rfl))) (by decide) (backOf (W := 1) (own_rm2 l Z a0 hw [] (128 : Int64) (((q2 + (16777216 : Int64)) - (1 : Int64)) / (16777216 : Int64)) h26 n0 Z28 ) hZ (hw _ (List.mem_of_getElem? (i := 6) rfl)) (hw _ (List.mem_of_getElem? (i := 2) rfl)) (by decide) (by decide)) (g := (mkF m 47 #[.val (.ref o1), .val (.long q1), .second, .val (.long q2), .second, .val (.long q3), .second, .val (.long q4), .second, .unset, .unset, .unset, .unset] [(.long (((q2 + (16777216 : Int64)) - (1 : Int64)) / (16777216 : Int64))), (.long (128 : Int64)), (.ref o1)])) rfl (by rw [hml]; rfl) (argsL := [(.long (128 : Int64)), (.long (((q2 + (16777216 : Int64)) - (1 : Int64)) / (16777216 : Int64)))]) (rest := [(.ref o1)]) (lenOf own_pd4 rfl) rfl (by show 2 * 0 + _ ≤ _; exact Nat.le_of_eq rfl) (hb hby own_d14_47) (fun _ _ => ⟨rfl, e26, (by decide : 3 + 0 ≤ _), (by decide : 9 + 0 ≤ _)⟩)
  dsimp only [Pt.U, Pt.locs, Pt.cells, Pt.slots] at X29 lq29 yq29 zq29 st29 hQ29
  subst lq29 yq29 zq29
  obtain ⟨rfl, Nq29, eh29⟩ := hQ29
  have N29 := Fr.app N26 Nq29
  refine own_st (G' := T29.setTop (mkF m 50 #[.val (.ref o1), .val (.long q1), .second, .val (.long q2), .second, .val (.long q3), .second, .val (.long q4), .second, .unset, .unset, .unset, .unset] [(.long (own_max (128 : Int64) (((q2 + (16777216 : Int64)) - (1 : Int64)) / (16777216 : Int64)))), (.ref o1)])) st29 ?_
  rw [own_block hp]
  have f30 := ((((((pF6.ext E2).keep Kp6 (ninS ne3 nin0)).other W11 (Or.inr (slot_ne (Or.inr (hw _ (List.mem_of_getElem? (i := 97) rfl))) (Or.inr (hw _ (List.mem_of_getElem? (i := 86) rfl))) (by decide) (t := .long) (t' := (.object "com/example/loomsand/loomsand/Draws")) (by decide) (by decide)))).other W16 (Or.inr (slot_ne (Or.inr (hw _ (List.mem_of_getElem? (i := 97) rfl))) (Or.inr (hw _ (List.mem_of_getElem? (i := 88) rfl))) (by decide) (t := .long) (t' := .long) (by decide) (by decide)))).other W21 (Or.inr (slot_ne (Or.inr (hw _ (List.mem_of_getElem? (i := 97) rfl))) (Or.inr (hw _ (List.mem_of_getElem? (i := 90) rfl))) (by decide) (t := .long) (t' := .long) (by decide) (by decide)))).other W26 (Or.inr (slot_ne (Or.inr (hw _ (List.mem_of_getElem? (i := 97) rfl))) (Or.inr (hw _ (List.mem_of_getElem? (i := 92) rfl))) (by decide) (t := .long) (t' := .long) (by decide) (by decide))))
  have f31 := (f25.wr W26)
  obtain ⟨T32, h32, X32, e32, W32, st32⟩ := putF X29 hx hZ hown (host := "") (Or.inl (hw _ (List.mem_of_getElem? (i := 96) rfl))) Via.refl eh29 f30 f31 (Or.inr ⟨(hw _ (List.mem_of_getElem? (i := 97) rfl)), rfl, hnm⟩) (hw _ (List.mem_of_getElem? (i := 77) rfl)) (v := (.long (128 : Int64))) (ty := .long) (by decide) rfl rfl (g := (mkF m 50 #[.val (.ref o1), .val (.long q1), .second, .val (.long q2), .second, .val (.long q3), .second, .val (.long q4), .second, .unset, .unset, .unset, .unset] [(.long (128 : Int64)), (.ref o1)])) rfl rfl (hb hby own_d14_50)
  have Fw32 := f30.same W32
  have N32 := Fr.snoc X32 N29 pG8
  have KC33 := KC27.wr W32 (Or.inl (List.mem_of_getElem? (i := 0) rfl))
  have Z34 := Nat.le_trans Z28 (Nat.le_of_eq W32.size.symm)
  refine own_st (G' := T32.setTop (mkF m 53 #[.val (.ref o1), .val (.long q1), .second, .val (.long q2), .second, .val (.long q3), .second, .val (.long q4), .second, .unset, .unset, .unset, .unset] [])) st32 ?_
  refine own_aloadN X32 hx 54 (hb hby own_d14_53) rfl rfl ?_
  refine own_lloadN X32 hx 55 (hb hby own_d14_54) rfl ?_
  refine own_aloadN X32 hx 56 (hb hby own_d14_55) rfl rfl ?_
  obtain ⟨T35, X35, e35, st35⟩ := getF X32 hx hZ hown (host := "") (Or.inl (hw _ (List.mem_of_getElem? (i := 96) rfl))) Via.refl e32 Fw32 (g := (mkF m 56 #[.val (.ref o1), .val (.long q1), .second, .val (.long q2), .second, .val (.long q3), .second, .val (.long q4), .second, .unset, .unset, .unset, .unset] [(.ref o1), (.long q2), (.ref o1)])) rfl rfl (hb hby own_d14_56)
  refine own_st (G' := T35.setTop (mkF m 59 #[.val (.ref o1), .val (.long q1), .second, .val (.long q2), .second, .val (.long q3), .second, .val (.long q4), .second, .unset, .unset, .unset, .unset] [(.long (128 : Int64)), (.long q2), (.ref o1)])) st35 ?_
  refine own_ladd X35 hx 60 (hb hby own_d14_59) ?_
  refine own_lconst X35 hx 61 (1 : Int64) (hb hby own_d14_60) rfl ?_
  refine own_lsub X35 hx 62 (hb hby own_d14_61) ?_
  refine own_aloadN X35 hx 63 (hb hby own_d14_62) rfl rfl ?_
  obtain ⟨T36, X36, e36, st36⟩ := getF X35 hx hZ hown (host := "") (Or.inl (hw _ (List.mem_of_getElem? (i := 96) rfl))) Via.refl e35 Fw32 (g := (mkF m 63 #[.val (.ref o1), .val (.long q1), .second, .val (.long q2), .second, .val (.long q3), .second, .val (.long q4), .second, .unset, .unset, .unset, .unset] [(.ref o1), (.long ((q2 + (128 : Int64)) - (1 : Int64))), (.ref o1)])) rfl rfl (hb hby own_d14_63)
  refine own_st (G' := T36.setTop (mkF m 66 #[.val (.ref o1), .val (.long q1), .second, .val (.long q2), .second, .val (.long q3), .second, .val (.long q4), .second, .unset, .unset, .unset, .unset] [(.long (128 : Int64)), (.long ((q2 + (128 : Int64)) - (1 : Int64))), (.ref o1)])) st36 ?_
  refine own_ldiv X36 hx 67 (hb hby own_d14_66) (by decide) ?_
  refine own_l2i X36 hx 68 (hb hby own_d14_67) ?_
  refine own_iconst X36 hx 69 (1 : Int32) (hb hby own_d14_68) rfl ?_
  refine own_iadd X36 hx 70 (hb hby own_d14_69) ?_
  generalize hnn : (((((q2 + (128 : Int64)) - (1 : Int64)) / (128 : Int64)).toInt32) + (1 : Int32)) = nn
  have hn5 := own_n5 hp hnn
  obtain ⟨T37, h37, k37, X37, e37, E37, A37, st37⟩ := newP X36 hx hZ (hw _ (List.mem_of_getElem? (i := 98) rfl)) e36 (g := (mkF m 70 #[.val (.ref o1), .val (.long q1), .second, .val (.long q2), .second, .val (.long q3), .second, .val (.long q4), .second, .unset, .unset, .unset, .unset] [(.int nn), (.ref o1)])) rfl (hb hby own_d14_70) rfl (own_n5a hn5) (cap := 5) (own_n5b hn5) (by decide) (by decide) (by decide)
  obtain ⟨b37, g37⟩ : ∃ z, z = h32.size := ⟨_, rfl⟩
  rw [← g37] at A37 st37
  have f38 := (f31.wr W32)
  have ne39 : o1 ≠ b37 := Nat.ne_of_lt (Nat.lt_of_lt_of_le f38.lt (Nat.le_of_eq g37.symm))
  have f40 := (((((G6_0.wr W11).wr W16).wr W21).wr W26).wr W32)
  have ne41 : b2 ≠ b37 := Nat.ne_of_lt (Nat.lt_of_lt_of_le f40.lt (Nat.le_of_eq g37.symm))
  have gt_b37 : n0 ≤ b37 := Nat.le_trans Z34 (Nat.le_of_eq g37.symm)
  have sz_b37 : h0.size ≤ b37 := Nat.le_trans KC33.1 (Nat.le_of_eq g37.symm)
  have V37 : Arv Z h37 b37 k37 .long nn [] (.long (0 : Int64)) := Arv.new A37 (own_n5a hn5)
  have KC42 := KC33.ext E37
  have Z43 := Nat.le_trans Z34 E37.1
  refine own_st (G' := T37.setTop (mkF m 72 #[.val (.ref o1), .val (.long q1), .second, .val (.long q2), .second, .val (.long q3), .second, .val (.long q4), .second, .unset, .unset, .unset, .unset] [(.ref b37), (.ref o1)])) st37 ?_
  have V44 := V37.pad (own_lstJ_pad 5)
  have f45 := ((((((((pF7.ext E2).keep Kp6 (ninS ne3 nin0)).other W11 (Or.inr (slot_ne (Or.inr (hw _ (List.mem_of_getElem? (i := 100) rfl))) (Or.inr (hw _ (List.mem_of_getElem? (i := 86) rfl))) (by decide) (t := (.array .long)) (t' := (.object "com/example/loomsand/loomsand/Draws")) (by decide) (by decide)))).other W16 (Or.inr (slot_ne (Or.inr (hw _ (List.mem_of_getElem? (i := 100) rfl))) (Or.inr (hw _ (List.mem_of_getElem? (i := 88) rfl))) (by decide) (t := (.array .long)) (t' := .long) (by decide) (by decide)))).other W21 (Or.inr (slot_ne (Or.inr (hw _ (List.mem_of_getElem? (i := 100) rfl))) (Or.inr (hw _ (List.mem_of_getElem? (i := 90) rfl))) (by decide) (t := (.array .long)) (t' := .long) (by decide) (by decide)))).other W26 (Or.inr (slot_ne (Or.inr (hw _ (List.mem_of_getElem? (i := 100) rfl))) (Or.inr (hw _ (List.mem_of_getElem? (i := 92) rfl))) (by decide) (t := (.array .long)) (t' := .long) (by decide) (by decide)))).other W32 (Or.inr (slot_ne (Or.inr (hw _ (List.mem_of_getElem? (i := 100) rfl))) (Or.inr (hw _ (List.mem_of_getElem? (i := 97) rfl))) (by decide) (t := (.array .long)) (t' := .long) (by decide) (by decide)))).ext E37)
  have f46 := (f38.ext E37)
  obtain ⟨T47, h47, X47, e47, W47, st47⟩ := putF X37 hx hZ hown (host := "") (Or.inl (hw _ (List.mem_of_getElem? (i := 99) rfl))) Via.refl e37 f45 f46 (Or.inr ⟨(hw _ (List.mem_of_getElem? (i := 100) rfl)), rfl, hnm⟩) (hw _ (List.mem_of_getElem? (i := 77) rfl)) (v := (.ref b37)) (ty := (.array .long)) (by decide) rfl rfl (g := (mkF m 72 #[.val (.ref o1), .val (.long q1), .second, .val (.long q2), .second, .val (.long q3), .second, .val (.long q4), .second, .unset, .unset, .unset, .unset] [(.ref b37), (.ref o1)])) rfl rfl (hb hby own_d14_72)
  have Fw47 := f45.same W47
  have N47 := Fr.snoc X47 N32 pG8
  have KC48 := KC42.wr W47 (Or.inl (List.mem_of_getElem? (i := 0) rfl))
  have Z49 := Nat.le_trans Z43 (Nat.le_of_eq W47.size.symm)
  refine own_st (G' := T47.setTop (mkF m 75 #[.val (.ref o1), .val (.long q1), .second, .val (.long q2), .second, .val (.long q3), .second, .val (.long q4), .second, .unset, .unset, .unset, .unset] [])) st47 ?_
  refine own_lconst X47 hx 76 (0 : Int64) (hb hby own_d14_75) rfl ?_
  refine own_lstore X47 hx 78 #[.val (.ref o1), .val (.long q1), .second, .val (.long q2), .second, .val (.long q3), .second, .val (.long q4), .second, .val (.long (0 : Int64)), .second, .unset, .unset] (hb hby own_d14_76) rfl ?_
  refine own_lconst X47 hx 79 (0 : Int64) (hb hby own_d14_78) rfl ?_
  refine own_lstore X47 hx 81 #[.val (.ref o1), .val (.long q1), .second, .val (.long q2), .second, .val (.long q3), .second, .val (.long q4), .second, .val (.long (0 : Int64)), .second, .val (.long (0 : Int64)), .second] (hb hby own_d14_79) rfl ?_
  have loop81_0 : ∀ (kk81_0 : Nat) (T81_0 : State) (h81_0 : Heap) (ls81_0 : List Loc) (ii : Int64) (acc : Int64) (y1 : Int64) (y2 : Int64) (y3 : Int64) (gg : Nat → Int64) (ki : Nat), q2.toInt.toNat - ki = kk81_0 → Stand p l e ({ frames := 4, cells := 4, slots := 14, locals := 3090 } : Room) s m #[(.ref o1), (.long q1), (.long q2), (.long q3), (.long q4)] below meth c T81_0 ls81_0 4 14 → T81_0.heap = h81_0 → Fr n0 ls81_0 → n0 ≤ h81_0.size → Keep h0 h81_0 [o1] → Exa Z h81_0 o1 "com/example/loomsand/loomsand/ParentRows" → Fld Z h81_0 o1 "com/example/loomsand/loomsand/ParentRows" "draws" "Lcom/example/loomsand/loomsand/Draws;" (.ref b2) → Fld Z h81_0 o1 "com/example/loomsand/loomsand/ParentRows" "key" "J" (.long q1) → Fld Z h81_0 o1 "com/example/loomsand/loomsand/ParentRows" "min" "J" (.long q3) → Fld Z h81_0 o1 "com/example/loomsand/loomsand/ParentRows" "max" "J" (.long q4) → Fld Z h81_0 o1 "com/example/loomsand/loomsand/ParentRows" "block" "J" (.long (128 : Int64)) → Fld Z h81_0 o1 "com/example/loomsand/loomsand/ParentRows" "starts" "[J" (.ref b37) → Exa Z h81_0 b2 "com/example/loomsand/loomsand/Draws" → Fld Z h81_0 b2 "com/example/loomsand/loomsand/Draws" "key" "J" (.long y1) → Fld Z h81_0 b2 "com/example/loomsand/loomsand/Draws" "row" "J" (.long y2) → Fld Z h81_0 b2 "com/example/loomsand/loomsand/Draws" "state" "J" (.long y3) → Arv Z h81_0 b37 k37 .long nn (own_lstJ 5 gg) (.long (0 : Int64)) → ii.toInt = (ki : Int) → ki ≤ q2.toInt.toNat → acc = own_sum q1 q3 q4 ki → own_Gs p e below (fun o U' => ∃ v L, o = .returned v ∧ own_Q14 Z o1 q1 q2 q3 q4 h0 n0 v U'.heap L ∧ FrameEnd s o U' L ({ frames := 4, cells := 4, slots := 14, locals := 3090 } : Room).cells ({ frames := 4, cells := 4, slots := 14, locals := 3090 } : Room).slots) (T81_0.setTop (mkF m 81 #[.val (.ref o1), .val (.long q1), .second, .val (.long q2), .second, .val (.long q3), .second, .val (.long q4), .second, .val (.long acc), .second, .val (.long ii), .second] [])) := by
    intro kk81_0
    induction kk81_0 using Nat.strongRecOn with
    | _ kk81_0 ih81_0 =>
    intro T81_0 h81_0 ls81_0 ii acc y1 y2 y3 gg ki hmu81_0 X81_0 e81_0 N81_0 Z81_0 K81_0 lf81_0_0 lf81_0_1 lf81_0_2 lf81_0_3 lf81_0_4 lf81_0_5 lf81_0_6 lf81_0_7 lf81_0_8 lf81_0_9 lf81_0_10 lf81_0_11 hik hkq hacc
    refine own_lload X81_0 hx 83 (hb hby own_d14_81) rfl ?_
    refine own_lloadN X81_0 hx 84 (hb hby own_d14_83) rfl ?_
    refine own_lcmp X81_0 hx 85 (hb hby own_d14_84) ?_
    by_cases hc85_50 : ii < q2
    · refine own_ifNo X81_0 hx 88 (hb hby own_d14_85) (tlt ((lw_lt _ _).mpr hc85_50)).2.1 ?_
      refine own_lload X81_0 hx 90 (hb hby own_d14_88) rfl ?_
      refine own_aloadN X81_0 hx 91 (hb hby own_d14_90) rfl rfl ?_
      obtain ⟨T51, X51, e51, st51⟩ := getF X81_0 hx hZ hown (host := "") (Or.inl (hw _ (List.mem_of_getElem? (i := 96) rfl))) Via.refl e81_0 lf81_0_5 (g := (mkF m 91 #[.val (.ref o1), .val (.long q1), .second, .val (.long q2), .second, .val (.long q3), .second, .val (.long q4), .second, .val (.long acc), .second, .val (.long ii), .second] [(.ref o1), (.long ii)])) rfl rfl (hb hby own_d14_91)
      refine own_st (G' := T51.setTop (mkF m 94 #[.val (.ref o1), .val (.long q1), .second, .val (.long q2), .second, .val (.long q3), .second, .val (.long q4), .second, .val (.long acc), .second, .val (.long ii), .second] [(.long (128 : Int64)), (.long ii)])) st51 ?_
      refine own_lrem X51 hx 95 (hb hby own_d14_94) (by decide) ?_
      refine own_lconst X51 hx 96 (0 : Int64) (hb hby own_d14_95) rfl ?_
      refine own_lcmp X51 hx 97 (hb hby own_d14_96) ?_
      by_cases hc97_52 : (ii % (128 : Int64)) = (0 : Int64)
      · refine own_ifNo X51 hx 100 (hb hby own_d14_97) (teq ((lw_eq _ _).mpr hc97_52)).2 ?_
        refine own_aloadN X51 hx 101 (hb hby own_d14_100) rfl rfl ?_
        obtain ⟨T53, X53, e53, st53⟩ := getF X51 hx hZ hown (host := "") (Or.inl (hw _ (List.mem_of_getElem? (i := 99) rfl))) Via.refl e51 lf81_0_6 (g := (mkF m 101 #[.val (.ref o1), .val (.long q1), .second, .val (.long q2), .second, .val (.long q3), .second, .val (.long q4), .second, .val (.long acc), .second, .val (.long ii), .second] [(.ref o1)])) rfl rfl (hb hby own_d14_101)
        refine own_st (G' := T53.setTop (mkF m 104 #[.val (.ref o1), .val (.long q1), .second, .val (.long q2), .second, .val (.long q3), .second, .val (.long q4), .second, .val (.long acc), .second, .val (.long ii), .second] [(.ref b37)])) st53 ?_
        refine own_lload X53 hx 106 (hb hby own_d14_104) rfl ?_
        refine own_aloadN X53 hx 107 (hb hby own_d14_106) rfl rfl ?_
        obtain ⟨T54, X54, e54, st54⟩ := getF X53 hx hZ hown (host := "") (Or.inl (hw _ (List.mem_of_getElem? (i := 96) rfl))) Via.refl e53 lf81_0_5 (g := (mkF m 107 #[.val (.ref o1), .val (.long q1), .second, .val (.long q2), .second, .val (.long q3), .second, .val (.long q4), .second, .val (.long acc), .second, .val (.long ii), .second] [(.ref o1), (.long ii), (.ref b37)])) rfl rfl (hb hby own_d14_107)
        refine own_st (G' := T54.setTop (mkF m 110 #[.val (.ref o1), .val (.long q1), .second, .val (.long q2), .second, .val (.long q3), .second, .val (.long q4), .second, .val (.long acc), .second, .val (.long ii), .second] [(.long (128 : Int64)), (.long ii), (.ref b37)])) st54 ?_
        refine own_ldiv X54 hx 111 (hb hby own_d14_110) (by decide) ?_
        refine own_l2i X54 hx 112 (hb hby own_d14_111) ?_
        refine own_lload X54 hx 114 (hb hby own_d14_112) rfl ?_
        obtain ⟨cl55, Ar55, qv55, S55, M55, H55, G55⟩ := id lf81_0_11
        have hin55 : ¬ (((ii / (128 : Int64)).toInt32) < 0 ∨ cl55.slots.size ≤ (((ii / (128 : Int64)).toInt32)).toNatClampNeg) := inb_of S55 (own_ib hp hik hnn hc85_50)
        obtain ⟨T55, h55, X55, e55, W55, st55⟩ := stJ X54 hx hZ e54 Ar55 (j := ((ii / (128 : Int64)).toInt32)) hin55 (g := (mkF m 114 #[.val (.ref o1), .val (.long q1), .second, .val (.long q2), .second, .val (.long q3), .second, .val (.long q4), .second, .val (.long acc), .second, .val (.long ii), .second] [(.long acc), (.int ((ii / (128 : Int64)).toInt32)), (.ref b37)])) rfl rfl (hb hby own_d14_114)
        have V55 := Arv.set Ar55 qv55 S55 M55 H55 G55 rfl W55 (((ii / (128 : Int64)).toInt32)).toNatClampNeg rfl (by rw [own_lstJ_len]; exact own_ib5 hp hik hc85_50)
        rw [own_lstJ_set] at V55
        have N55 := Fr.snoc X55 N81_0 gt_b37
        have KC56 := K81_0.wr W55 (Or.inr sz_b37)
        have Z57 := Nat.le_trans Z81_0 (Nat.le_of_eq W55.size.symm)
        refine own_st (G' := T55.setTop (mkF m 115 #[.val (.ref o1), .val (.long q1), .second, .val (.long q2), .second, .val (.long q3), .second, .val (.long q4), .second, .val (.long acc), .second, .val (.long ii), .second] [])) st55 ?_
        refine own_lload X55 hx 117 (hb hby own_d14_115) rfl ?_
        refine own_aloadN X55 hx 118 (hb hby own_d14_117) rfl rfl ?_
        refine own_lload X55 hx 120 (hb hby own_d14_118) rfl ?_
        have f58 := (lf81_0_1.other W55 (Or.inl ne39))
        have f59 := (lf81_0_2.other W55 (Or.inl ne39))
        have f60 := (lf81_0_3.other W55 (Or.inl ne39))
        have f61 := (lf81_0_4.other W55 (Or.inl ne39))
        have f62 := (lf81_0_7.wr W55)
        have f63 := (lf81_0_8.other W55 (Or.inl ne41))
        have f64 := (lf81_0_9.other W55 (Or.inl ne41))
        have f65 := (lf81_0_10.other W55 (Or.inl ne41))
        have f67 := (lf81_0_0.wr W55)
        obtain ⟨cq66, qp66, qp66'⟩ := f67.cell
        obtain ⟨_, _, ⟨T66, Lx66, kc66, nc66⟩, -, X66, ⟨Lc66, hQ66, lq66, yq66, zq66⟩, st66⟩ := X55.privateBack hx (y := (⟨"com/example/loomsand/loomsand/ParentRows", "count", "(J)J"⟩ : MethodName)) hown (mvT hZ (hw _ (List.mem_of_getElem? (i := 101) rfl))) (mvT hZ (hw _ (List.mem_of_getElem? (i := 102) rfl))) (own_selfsel hZ (hw _ (List.mem_of_getElem? (i := 77) rfl)) (hw _ (List.mem_of_getElem? (i := 102) rfl)) (hw _ (List.mem_of_getElem? (i := 103) rfl)) (by decide)) (Cond.privateMethod_at (mvP hZ (hw _ (List.mem_of_getElem? (i := 103) rfl)) (args := #[]))) (mvT hZ (hw _ (List.mem_of_getElem? (i := 104) rfl))) (by decide) (backOf (W := 2) (own_rm15 l Z a0 hw [] o1 ii b2 q1 q3 q4 y1 y2 y3 h55 n0 Z57 f58 f59 f60 f61 f62 f63 f64 f65 gt_b2 ne3 (hle : ¬ (q4 < q3))) hZ (hw _ (List.mem_of_getElem? (i := 104) rfl)) (hw _ (List.mem_of_getElem? (i := 78) rfl)) (by decide) (by decide)) (g := (mkF m 120 #[.val (.ref o1), .val (.long q1), .second, .val (.long q2), .second, .val (.long q3), .second, .val (.long q4), .second, .val (.long acc), .second, .val (.long ii), .second] [(.long ii), (.ref o1), (.long acc)])) rfl (by rw [hml]; rfl) (Steps.refl _) (a := o1) (by rw [e55]; exact qp66) qp66' (argsL := [(.long ii)]) (rest := [(.long acc)]) (lenOf own_pd1 rfl) rfl (by show 2 * 0 + _ ≤ _; exact Nat.le_of_eq rfl) (hb hby own_d14_120) (fun _ _ => ⟨rfl, e55, (by decide : 4 + 0 ≤ _), (by decide : 14 + 0 ≤ _)⟩)
        dsimp only [Pt.U, Pt.locs, Pt.cells, Pt.slots] at X66 lq66 yq66 zq66 st66 hQ66
        subst lq66 yq66 zq66
        obtain ⟨zz_66, rfl, Nq66, Kp66, G66_0, G66_1, G66_2, G66_3⟩ := hQ66
        have N66 := Fr.app N55 Nq66
        have KC68 := KC56.trans Kp66 (allS (Or.inr sz_b2) all0)
        have Z69 := Nat.le_trans Z57 Kp66.1
        refine own_st (G' := T66.setTop (mkF m 123 #[.val (.ref o1), .val (.long q1), .second, .val (.long q2), .second, .val (.long q3), .second, .val (.long q4), .second, .val (.long acc), .second, .val (.long ii), .second] [(.long (own_btw q3 q4 ((own_mix (q1 + (ii * (-7046029254386353131 : Int64)))) + (-7046029254386353131 : Int64)))), (.long acc)])) (fun t k => st66.trans k) ?_
        refine own_ladd X66 hx 124 (hb hby own_d14_123) ?_
        refine own_lstore X66 hx 126 #[.val (.ref o1), .val (.long q1), .second, .val (.long q2), .second, .val (.long q3), .second, .val (.long q4), .second, .val (.long (acc + (own_btw q3 q4 ((own_mix (q1 + (ii * (-7046029254386353131 : Int64)))) + (-7046029254386353131 : Int64))))), .second, .val (.long ii), .second] (hb hby own_d14_124) rfl ?_
        refine own_lload X66 hx 128 (hb hby own_d14_126) rfl ?_
        refine own_lconst X66 hx 129 (1 : Int64) (hb hby own_d14_128) rfl ?_
        refine own_ladd X66 hx 130 (hb hby own_d14_129) ?_
        refine own_lstore X66 hx 132 #[.val (.ref o1), .val (.long q1), .second, .val (.long q2), .second, .val (.long q3), .second, .val (.long q4), .second, .val (.long (acc + (own_btw q3 q4 ((own_mix (q1 + (ii * (-7046029254386353131 : Int64)))) + (-7046029254386353131 : Int64))))), .second, .val (.long (ii + (1 : Int64))), .second] (hb hby own_d14_130) rfl ?_
        refine own_goto X66 hx 81 (hb hby own_d14_132) ?_
        have f70 := (f67.keep Kp66)
        have f71 := (f58.keep Kp66 (ninS ne3 nin0))
        have f72 := (f59.keep Kp66 (ninS ne3 nin0))
        have f73 := (f60.keep Kp66 (ninS ne3 nin0))
        have f74 := (f61.keep Kp66 (ninS ne3 nin0))
        have f75 := ((lf81_0_5.other W55 (Or.inl ne39)).keep Kp66 (ninS ne3 nin0))
        have f76 := ((lf81_0_6.other W55 (Or.inl ne39)).keep Kp66 (ninS ne3 nin0))
        have f77 := (V55.keep Kp66 (ninS (Ne.symm ne41) nin0))
        exact ih81_0 _ (by rw [← hmu81_0]; exact own_dec hp hik hc85_50) T66 T66.heap _ (ii + (1 : Int64)) (acc + (own_btw q3 q4 ((own_mix (q1 + (ii * (-7046029254386353131 : Int64)))) + (-7046029254386353131 : Int64)))) q1 ii zz_66 (fun i => if i = (((ii / (128 : Int64)).toInt32)).toNatClampNeg then acc else gg i) (ki + 1) rfl X66 rfl N66 Z69 KC68 f70 f71 f72 f73 f74 f75 f76 G66_0 G66_1 G66_2 G66_3 f77 (own_up hp hik hc85_50 : (ii + (1 : Int64)).toInt = ((ki + 1) : Int)) (own_up2 hp hik hc85_50 : (ki + 1) ≤ q2.toInt.toNat) (own_acc hik hacc : (acc + (own_btw q3 q4 ((own_mix (q1 + (ii * (-7046029254386353131 : Int64)))) + (-7046029254386353131 : Int64)))) = own_sum q1 q3 q4 (ki + 1))
      · refine own_ifYes X51 hx 115 (hb hby own_d14_97) (feq (mt (lw_eq _ _).mp hc97_52)).2 ?_
        refine own_lload X51 hx 117 (hb hby own_d14_115) rfl ?_
        refine own_aloadN X51 hx 118 (hb hby own_d14_117) rfl rfl ?_
        refine own_lload X51 hx 120 (hb hby own_d14_118) rfl ?_
        obtain ⟨cq78, qp78, qp78'⟩ := lf81_0_0.cell
        obtain ⟨_, _, ⟨T78, Lx78, kc78, nc78⟩, -, X78, ⟨Lc78, hQ78, lq78, yq78, zq78⟩, st78⟩ := X51.privateBack hx (y := (⟨"com/example/loomsand/loomsand/ParentRows", "count", "(J)J"⟩ : MethodName)) hown (mvT hZ (hw _ (List.mem_of_getElem? (i := 101) rfl))) (mvT hZ (hw _ (List.mem_of_getElem? (i := 102) rfl))) (own_selfsel hZ (hw _ (List.mem_of_getElem? (i := 77) rfl)) (hw _ (List.mem_of_getElem? (i := 102) rfl)) (hw _ (List.mem_of_getElem? (i := 103) rfl)) (by decide)) (Cond.privateMethod_at (mvP hZ (hw _ (List.mem_of_getElem? (i := 103) rfl)) (args := #[]))) (mvT hZ (hw _ (List.mem_of_getElem? (i := 104) rfl))) (by decide) (backOf (W := 2) (own_rm15 l Z a0 hw [] o1 ii b2 q1 q3 q4 y1 y2 y3 h81_0 n0 Z81_0 lf81_0_1 lf81_0_2 lf81_0_3 lf81_0_4 lf81_0_7 lf81_0_8 lf81_0_9 lf81_0_10 gt_b2 ne3 (hle : ¬ (q4 < q3))) hZ (hw _ (List.mem_of_getElem? (i := 104) rfl)) (hw _ (List.mem_of_getElem? (i := 78) rfl)) (by decide) (by decide)) (g := (mkF m 120 #[.val (.ref o1), .val (.long q1), .second, .val (.long q2), .second, .val (.long q3), .second, .val (.long q4), .second, .val (.long acc), .second, .val (.long ii), .second] [(.long ii), (.ref o1), (.long acc)])) rfl (by rw [hml]; rfl) (Steps.refl _) (a := o1) (by rw [e51]; exact qp78) qp78' (argsL := [(.long ii)]) (rest := [(.long acc)]) (lenOf own_pd1 rfl) rfl (by show 2 * 0 + _ ≤ _; exact Nat.le_of_eq rfl) (hb hby own_d14_120) (fun _ _ => ⟨rfl, e51, (by decide : 4 + 0 ≤ _), (by decide : 14 + 0 ≤ _)⟩)
        dsimp only [Pt.U, Pt.locs, Pt.cells, Pt.slots] at X78 lq78 yq78 zq78 st78 hQ78
        subst lq78 yq78 zq78
        obtain ⟨zz_78, rfl, Nq78, Kp78, G78_0, G78_1, G78_2, G78_3⟩ := hQ78
        have N78 := Fr.app N81_0 Nq78
        have KC79 := K81_0.trans Kp78 (allS (Or.inr sz_b2) all0)
        have Z80 := Nat.le_trans Z81_0 Kp78.1
        refine own_st (G' := T78.setTop (mkF m 123 #[.val (.ref o1), .val (.long q1), .second, .val (.long q2), .second, .val (.long q3), .second, .val (.long q4), .second, .val (.long acc), .second, .val (.long ii), .second] [(.long (own_btw q3 q4 ((own_mix (q1 + (ii * (-7046029254386353131 : Int64)))) + (-7046029254386353131 : Int64)))), (.long acc)])) (fun t k => st78.trans k) ?_
        refine own_ladd X78 hx 124 (hb hby own_d14_123) ?_
        refine own_lstore X78 hx 126 #[.val (.ref o1), .val (.long q1), .second, .val (.long q2), .second, .val (.long q3), .second, .val (.long q4), .second, .val (.long (acc + (own_btw q3 q4 ((own_mix (q1 + (ii * (-7046029254386353131 : Int64)))) + (-7046029254386353131 : Int64))))), .second, .val (.long ii), .second] (hb hby own_d14_124) rfl ?_
        refine own_lload X78 hx 128 (hb hby own_d14_126) rfl ?_
        refine own_lconst X78 hx 129 (1 : Int64) (hb hby own_d14_128) rfl ?_
        refine own_ladd X78 hx 130 (hb hby own_d14_129) ?_
        refine own_lstore X78 hx 132 #[.val (.ref o1), .val (.long q1), .second, .val (.long q2), .second, .val (.long q3), .second, .val (.long q4), .second, .val (.long (acc + (own_btw q3 q4 ((own_mix (q1 + (ii * (-7046029254386353131 : Int64)))) + (-7046029254386353131 : Int64))))), .second, .val (.long (ii + (1 : Int64))), .second] (hb hby own_d14_130) rfl ?_
        refine own_goto X78 hx 81 (hb hby own_d14_132) ?_
        have f81 := (lf81_0_0.keep Kp78)
        have f82 := (lf81_0_1.keep Kp78 (ninS ne3 nin0))
        have f83 := (lf81_0_2.keep Kp78 (ninS ne3 nin0))
        have f84 := (lf81_0_3.keep Kp78 (ninS ne3 nin0))
        have f85 := (lf81_0_4.keep Kp78 (ninS ne3 nin0))
        have f86 := (lf81_0_5.keep Kp78 (ninS ne3 nin0))
        have f87 := (lf81_0_6.keep Kp78 (ninS ne3 nin0))
        have f88 := (lf81_0_11.keep Kp78 (ninS (Ne.symm ne41) nin0))
        exact ih81_0 _ (by rw [← hmu81_0]; exact own_dec hp hik hc85_50) T78 T78.heap _ (ii + (1 : Int64)) (acc + (own_btw q3 q4 ((own_mix (q1 + (ii * (-7046029254386353131 : Int64)))) + (-7046029254386353131 : Int64)))) q1 ii zz_78 gg (ki + 1) rfl X78 rfl N78 Z80 KC79 f81 f82 f83 f84 f85 f86 f87 G78_0 G78_1 G78_2 G78_3 f88 (own_up hp hik hc85_50 : (ii + (1 : Int64)).toInt = ((ki + 1) : Int)) (own_up2 hp hik hc85_50 : (ki + 1) ≤ q2.toInt.toNat) (own_acc hik hacc : (acc + (own_btw q3 q4 ((own_mix (q1 + (ii * (-7046029254386353131 : Int64)))) + (-7046029254386353131 : Int64)))) = own_sum q1 q3 q4 (ki + 1))
    · refine own_ifYes X81_0 hx 135 (hb hby own_d14_85) (flt (mt (lw_lt _ _).mp hc85_50)).2.1 ?_
      refine own_aloadN X81_0 hx 136 (hb hby own_d14_135) rfl rfl ?_
      obtain ⟨T89, X89, e89, st89⟩ := getF X81_0 hx hZ hown (host := "") (Or.inl (hw _ (List.mem_of_getElem? (i := 99) rfl))) Via.refl e81_0 lf81_0_6 (g := (mkF m 136 #[.val (.ref o1), .val (.long q1), .second, .val (.long q2), .second, .val (.long q3), .second, .val (.long q4), .second, .val (.long acc), .second, .val (.long ii), .second] [(.ref o1)])) rfl rfl (hb hby own_d14_136)
      refine own_st (G' := T89.setTop (mkF m 139 #[.val (.ref o1), .val (.long q1), .second, .val (.long q2), .second, .val (.long q3), .second, .val (.long q4), .second, .val (.long acc), .second, .val (.long ii), .second] [(.ref b37)])) st89 ?_
      refine own_aloadN X89 hx 140 (hb hby own_d14_139) rfl rfl ?_
      obtain ⟨T90, X90, e90, st90⟩ := getF X89 hx hZ hown (host := "") (Or.inl (hw _ (List.mem_of_getElem? (i := 99) rfl))) Via.refl e89 lf81_0_6 (g := (mkF m 140 #[.val (.ref o1), .val (.long q1), .second, .val (.long q2), .second, .val (.long q3), .second, .val (.long q4), .second, .val (.long acc), .second, .val (.long ii), .second] [(.ref o1), (.ref b37)])) rfl rfl (hb hby own_d14_140)
      refine own_st (G' := T90.setTop (mkF m 143 #[.val (.ref o1), .val (.long q1), .second, .val (.long q2), .second, .val (.long q3), .second, .val (.long q4), .second, .val (.long acc), .second, .val (.long ii), .second] [(.ref b37), (.ref b37)])) st90 ?_
      obtain ⟨cl91, Ar91, qv91, S91, M91, H91, G91⟩ := id lf81_0_11
      have ln91 := len_of S91 M91
      refine own_st (G' := T90.setTop (mkF m 144 #[.val (.ref o1), .val (.long q1), .second, .val (.long q2), .second, .val (.long q3), .second, .val (.long q4), .second, .val (.long acc), .second, .val (.long ii), .second] [(.int nn), (.ref b37)])) (fun t k => X90.arraylength hx (by rw [e90]; exact Ar91.1) (State.isArrayOf_alike hZ.alike Ar91.2.1) (g := (mkF m 143 #[.val (.ref o1), .val (.long q1), .second, .val (.long q2), .second, .val (.long q3), .second, .val (.long q4), .second, .val (.long acc), .second, .val (.long ii), .second] [(.ref b37), (.ref b37)])) rfl rfl (hb hby own_d14_143) _ (by rw [ln91]; exact k)) ?_
      refine own_iconst X90 hx 145 (1 : Int32) (hb hby own_d14_144) rfl ?_
      refine own_isub X90 hx 146 (hb hby own_d14_145) ?_
      refine own_lload X90 hx 148 (hb hby own_d14_146) rfl ?_
      obtain ⟨cl92, Ar92, qv92, S92, M92, H92, G92⟩ := id lf81_0_11
      have hin92 : ¬ ((nn - (1 : Int32)) < 0 ∨ cl92.slots.size ≤ ((nn - (1 : Int32))).toNatClampNeg) := inb_of S92 (own_last hn5.1)
      obtain ⟨T92, h92, X92, e92, W92, st92⟩ := stJ X90 hx hZ e90 Ar92 (j := (nn - (1 : Int32))) hin92 (g := (mkF m 148 #[.val (.ref o1), .val (.long q1), .second, .val (.long q2), .second, .val (.long q3), .second, .val (.long q4), .second, .val (.long acc), .second, .val (.long ii), .second] [(.long acc), (.int (nn - (1 : Int32))), (.ref b37)])) rfl rfl (hb hby own_d14_148)
      have V92 := Arv.set Ar92 qv92 S92 M92 H92 G92 rfl W92 ((nn - (1 : Int32))).toNatClampNeg rfl (by rw [own_lstJ_len]; exact own_l5 hn5)
      rw [own_lstJ_set] at V92
      have N92 := Fr.snoc X92 N81_0 gt_b37
      have KC93 := K81_0.wr W92 (Or.inr sz_b37)
      have Z94 := Nat.le_trans Z81_0 (Nat.le_of_eq W92.size.symm)
      refine own_st (G' := T92.setTop (mkF m 149 #[.val (.ref o1), .val (.long q1), .second, .val (.long q2), .second, .val (.long q3), .second, .val (.long q4), .second, .val (.long acc), .second, .val (.long ii), .second] [])) st92 ?_
      have f95 := (lf81_0_0.wr W92)
      have f96 := (lf81_0_6.other W92 (Or.inl ne39))
      exact own_retV (Q := own_Q14 Z o1 q1 q2 q3 q4 h0 n0) X92 hx hrt (hb hby own_d14_149) hlk e92 ⟨b37, k37, nn, (fun i => if i = ((nn - (1 : Int32))).toNatClampNeg then acc else gg i), rfl, N92, KC93, f95, sz_b37, f96, V92, hn5.1, (own_fin hn5 hp hik hkq hc85_50 hacc)⟩ (by decide) (by decide)
  have f97 := (f46.wr W47)
  have f98 := ((((((Fw11.other W16 (Or.inr (slot_ne (Or.inr (hw _ (List.mem_of_getElem? (i := 86) rfl))) (Or.inr (hw _ (List.mem_of_getElem? (i := 88) rfl))) (by decide) (t := (.object "com/example/loomsand/loomsand/Draws")) (t' := .long) (by decide) (by decide)))).other W21 (Or.inr (slot_ne (Or.inr (hw _ (List.mem_of_getElem? (i := 86) rfl))) (Or.inr (hw _ (List.mem_of_getElem? (i := 90) rfl))) (by decide) (t := (.object "com/example/loomsand/loomsand/Draws")) (t' := .long) (by decide) (by decide)))).other W26 (Or.inr (slot_ne (Or.inr (hw _ (List.mem_of_getElem? (i := 86) rfl))) (Or.inr (hw _ (List.mem_of_getElem? (i := 92) rfl))) (by decide) (t := (.object "com/example/loomsand/loomsand/Draws")) (t' := .long) (by decide) (by decide)))).other W32 (Or.inr (slot_ne (Or.inr (hw _ (List.mem_of_getElem? (i := 86) rfl))) (Or.inr (hw _ (List.mem_of_getElem? (i := 97) rfl))) (by decide) (t := (.object "com/example/loomsand/loomsand/Draws")) (t' := .long) (by decide) (by decide)))).ext E37).other W47 (Or.inr (slot_ne (Or.inr (hw _ (List.mem_of_getElem? (i := 86) rfl))) (Or.inr (hw _ (List.mem_of_getElem? (i := 100) rfl))) (by decide) (t := (.object "com/example/loomsand/loomsand/Draws")) (t' := (.array .long)) (by decide) (by decide))))
  have f99 := (((((Fw16.other W21 (Or.inr (slot_ne (Or.inr (hw _ (List.mem_of_getElem? (i := 88) rfl))) (Or.inr (hw _ (List.mem_of_getElem? (i := 90) rfl))) (by decide) (t := .long) (t' := .long) (by decide) (by decide)))).other W26 (Or.inr (slot_ne (Or.inr (hw _ (List.mem_of_getElem? (i := 88) rfl))) (Or.inr (hw _ (List.mem_of_getElem? (i := 92) rfl))) (by decide) (t := .long) (t' := .long) (by decide) (by decide)))).other W32 (Or.inr (slot_ne (Or.inr (hw _ (List.mem_of_getElem? (i := 88) rfl))) (Or.inr (hw _ (List.mem_of_getElem? (i := 97) rfl))) (by decide) (t := .long) (t' := .long) (by decide) (by decide)))).ext E37).other W47 (Or.inr (slot_ne (Or.inr (hw _ (List.mem_of_getElem? (i := 88) rfl))) (Or.inr (hw _ (List.mem_of_getElem? (i := 100) rfl))) (by decide) (t := .long) (t' := (.array .long)) (by decide) (by decide))))
  have f100 := ((((Fw21.other W26 (Or.inr (slot_ne (Or.inr (hw _ (List.mem_of_getElem? (i := 90) rfl))) (Or.inr (hw _ (List.mem_of_getElem? (i := 92) rfl))) (by decide) (t := .long) (t' := .long) (by decide) (by decide)))).other W32 (Or.inr (slot_ne (Or.inr (hw _ (List.mem_of_getElem? (i := 90) rfl))) (Or.inr (hw _ (List.mem_of_getElem? (i := 97) rfl))) (by decide) (t := .long) (t' := .long) (by decide) (by decide)))).ext E37).other W47 (Or.inr (slot_ne (Or.inr (hw _ (List.mem_of_getElem? (i := 90) rfl))) (Or.inr (hw _ (List.mem_of_getElem? (i := 100) rfl))) (by decide) (t := .long) (t' := (.array .long)) (by decide) (by decide))))
  have f101 := (((Fw26.other W32 (Or.inr (slot_ne (Or.inr (hw _ (List.mem_of_getElem? (i := 92) rfl))) (Or.inr (hw _ (List.mem_of_getElem? (i := 97) rfl))) (by decide) (t := .long) (t' := .long) (by decide) (by decide)))).ext E37).other W47 (Or.inr (slot_ne (Or.inr (hw _ (List.mem_of_getElem? (i := 92) rfl))) (Or.inr (hw _ (List.mem_of_getElem? (i := 100) rfl))) (by decide) (t := .long) (t' := (.array .long)) (by decide) (by decide))))
  have f102 := ((Fw32.ext E37).other W47 (Or.inr (slot_ne (Or.inr (hw _ (List.mem_of_getElem? (i := 97) rfl))) (Or.inr (hw _ (List.mem_of_getElem? (i := 100) rfl))) (by decide) (t := .long) (t' := (.array .long)) (by decide) (by decide))))
  have f103 := ((f40.ext E37).wr W47)
  have f104 := (((((((G6_1.other W11 (Or.inl (Ne.symm ne3))).other W16 (Or.inl (Ne.symm ne3))).other W21 (Or.inl (Ne.symm ne3))).other W26 (Or.inl (Ne.symm ne3))).other W32 (Or.inl (Ne.symm ne3))).ext E37).other W47 (Or.inl (Ne.symm ne3)))
  have f105 := (((((((G6_2.other W11 (Or.inl (Ne.symm ne3))).other W16 (Or.inl (Ne.symm ne3))).other W21 (Or.inl (Ne.symm ne3))).other W26 (Or.inl (Ne.symm ne3))).other W32 (Or.inl (Ne.symm ne3))).ext E37).other W47 (Or.inl (Ne.symm ne3)))
  have f106 := (((((((G6_3.other W11 (Or.inl (Ne.symm ne3))).other W16 (Or.inl (Ne.symm ne3))).other W21 (Or.inl (Ne.symm ne3))).other W26 (Or.inl (Ne.symm ne3))).other W32 (Or.inl (Ne.symm ne3))).ext E37).other W47 (Or.inl (Ne.symm ne3)))
  have f107 := (V44.other W47 (Ne.symm ne39))
  exact loop81_0 _ T47 h47 _ (0 : Int64) (0 : Int64) (0 : Int64) (0 : Int64) (0 : Int64) (fun _ => (0 : Int64)) 0 rfl X47 e47 N47 Z49 KC48 f97 f98 f99 f100 f101 f102 Fw47 f103 f104 f105 f106 f107 (rfl : (0 : Int64).toInt = (0 : Int)) (Nat.zero_le _ : 0 ≤ q2.toInt.toNat) (rfl : (0 : Int64) = own_sum q1 q3 q4 0)
theorem own_mm (a b : Int64) : ¬ (own_max a b < own_min a b) := by
  unfold own_max own_min
  simp only [Int64.lt_iff_toInt_lt]
  repeat' split
  all_goals omega
theorem own_nlt (a : Int64) : ¬ (a < a) := by rw [Int64.lt_iff_toInt_lt]; omega
theorem own_511 (v : Int32) : 0 ≤ ((v &&& (511 : Int32)).toInt64).toInt ∧ ((v &&& (511 : Int32)).toInt64).toInt ≤ 511 := by
  have h := c_mask v 511 9 (by decide) (by decide)
  rw [c_i2l, h]; omega
theorem own_four (v : Int32) : (v &&& (3 : Int32)) = 0 ∨ (v &&& (3 : Int32)) = 1 ∨ (v &&& (3 : Int32)) = 2 ∨ (v &&& (3 : Int32)) = 3 := by
  have h := c_mask v 3 2 (by decide) (by decide)
  simp only [← Int32.toInt_inj, Int32.reduceToInt]
  omega
theorem own_r01 (a : Int64) : (a - (((((a.toUInt64 >>> ((1 : Int32) &&& 0x3f).toInt64.toUInt64).toInt64) / (1 : Int64)) <<< ((1 : Int32) &&& 0x3f).toInt64) * (1 : Int64))) = 0 ∨ (a - (((((a.toUInt64 >>> ((1 : Int32) &&& 0x3f).toInt64.toUInt64).toInt64) / (1 : Int64)) <<< ((1 : Int32) &&& 0x3f).toInt64) * (1 : Int64))) = 1 := by
  rw [Int64.div_one, Int64.mul_one]
  have h1 := c_lushr a 1 1 (by decide) (by decide)
  generalize (a.toUInt64 >>> ((1 : Int32) &&& 0x3f).toInt64.toUInt64).toInt64 = q at *
  have h2 := c_lshl q 1 1 (by decide)
  generalize q <<< ((1 : Int32) &&& 0x3f).toInt64 = t at *
  have h3 := c_lsub a t
  have r1 := rng64 a
  have r2 := rng64 t
  have r3 := rng64 (a - t)
  generalize a - t = r at *
  have e0 : (0 : Int64).toInt = 0 := rfl
  have e1 : (1 : Int64).toInt = 1 := rfl
  simp only [← Int64.toInt_inj, e0, e1]
  omega
theorem own_remu1 (a : Int64) : own_remu a (1 : Int64) = (0 : Int64) := by
  unfold own_remu
  rw [if_neg (by decide)]
  rcases own_r01 a with h | h
  · rw [h]; decide +kernel
  · rw [h]; decide +kernel
theorem own_one (a : Int64) : ((a - a) + (1 : Int64)) = (1 : Int64) := by rw [Int64.sub_self, Int64.zero_add]
theorem own_btwc (a st : Int64) : own_btw a a st = a := by
  unfold own_btw
  rw [own_one, if_neg (by decide)]
  split
  · rw [own_remu1, Int64.add_zero]
  · rw [own_remu1, Int64.add_zero]
theorem own_sumc (q1 a : Int64) (n : Nat) : own_sum q1 a a n = Int64.ofNat n * a := by
  induction n with
  | zero => simp [own_sum]
  | succ n ih =>
    show own_sum q1 a a n + own_btw a a _ = _
    rw [ih, own_btwc, Int64.ofNat_add, Int64.add_mul]
    congr 1
    exact (Int64.one_mul a).symm
theorem own_flat (q1 a : Int64) (v : Int32) : own_sum q1 a a ((v &&& (511 : Int32)).toInt64).toInt.toNat = ((v &&& (511 : Int32)).toInt64) * a := by
  rw [own_sumc]
  congr 1
  refine (own_of ?_).symm
  have := own_511 v
  omega

theorem own_pd7 : parseMethodDescriptor "(Lcom/example/loomsand/loomsand/Draws;JJJJ)J" = some ⟨[(.object "com/example/loomsand/loomsand/Draws"), .long, .long, .long, .long], some .long⟩ := by decide +kernel
theorem own_pd8 : parseMethodDescriptor "(JJJJ)V" = some ⟨[.long, .long, .long, .long], none⟩ := by decide +kernel
theorem own_ef0 (m : MethodId) (q1 : Int64) (q2 : Int64) (q3 : Int64) (v4 : Int32) (q5 : Int64) (v6 : Int32) : entryFrame m #[(.long q1), (.long q2), (.long q3), (.int v4), (.long q5), (.int v6)] maxLocals = mkF m 0 #[.val (.long q1), .second, .val (.long q2), .second, .val (.long q3), .second, .val (.int v4), .val (.long q5), .second, .val (.int v6), .unset, .unset, .unset, .unset, .unset, .unset, .unset, .unset, .unset, .unset, .unset, .unset, .unset, .unset, .unset, .unset, .unset, .unset, .unset, .unset, .unset] [] := by first | (simp [entryFrame, mkF, argsToLocals, Value.category, maxLocals]; done) | rfl
def own_Q0 (Z : State) (q1 : Int64) (q2 : Int64) (q3 : Int64) (v4 : Int32) (q5 : Int64) (v6 : Int32) (h0 : Heap) (n0 : Nat) (v : Option Value) (h : Heap) (L : List Loc) : Prop := v = some (.int (1 : Int32)) ∧ Fr n0 L
set_option maxRecDepth 65536 in
set_option maxHeartbeats 40000000 in
theorem own_rm0 (l : Launch) (Z : State) (a0 : Array Value) (hw : ∀ d ∈ tables_1, d.before a0 Z = true) (ws : List Jvm.Cond) (q1 : Int64) (q2 : Int64) (q3 : Int64) (v4 : Int32) (q5 : Int64) (v6 : Int32) (h0 : Heap) (n0 : Nat) (Z0 : n0 ≤ h0.size)  :
    MetFree l x (head1 (Jvm.Cond.code x code maxLocals ret :: ws) room_1) (fun a U => a = #[(.long q1), (.long q2), (.long q3), (.int v4), (.long q5), (.int v6)] ∧ Z.Warmed39 U.vm ∧ U.heap = h0) (fun _ _ _ _ _ => True) (fun _ U o U' => ∃ v L, o = .returned v ∧ own_Q0 Z q1 q2 q3 v4 q5 v6 h0 n0 v U'.heap L ∧ FrameEnd U o U' L room_1.cells room_1.slots) := by
  refine MetFree.of_bodySF (plainFor_of_name own_pn3) hisR ?_
  intro p e s m args below meth c s₁ Bd hml0 hP hK
  obtain ⟨rfl, hZ, hh⟩ := hP
  have hx := Bd.exec
  have hby := Bd.bytes
  have hlk := Bd.notSynchronized
  have hrt := Bd.returns
  have hml : c.maxLocals = 31 := hml0
  have hown : s.vm.findClass "com/example/loomsand/loomsand/ParentRowsTotalPinLaw" = some m.cls := findClass_of_methodNamed Bd.named
  have hnm := (name_of_methodNamed Bd.named Bd.method).1
  have X0 : Stand p l e room_1 s m #[(.long q1), (.long q2), (.long q3), (.int v4), (.long q5), (.int v6)] below meth c s₁ [] 0 0 := Stand.of_body Bd
  have e0 : s₁.heap = h0 := by rw [← hh, Bd.state]; rfl
  have N0 := Fr.nil n0
  refine own_in (own_ef0 m q1 q2 q3 v4 q5 v6) ?_
  refine own_lloadN X0 hx 1 (hb hby at_0) rfl ?_
  refine own_lload X0 hx 3 (hb hby at_1) rfl ?_
  obtain ⟨_, _, ⟨T1, Lx1, kc1, nc1⟩, -, X1, ⟨Lc1, hQ1, lq1, yq1, zq1⟩, st1⟩ := Jvm.LawKit.callS X0 hx (y := (⟨"java/lang/Math", "min", "(JJ)J"⟩ : MethodName)) hown (mvT hZ (hw _ (List.mem_of_getElem? (i := 0) rfl))) (mvT hZ (hw _ (List.mem_of_getElem? (i := 1) rfl))) (mvT hZ (hw _ (List.mem_of_getElem? (i := 2) rfl))) (mvT hZ (hw _ (List.mem_of_getElem? (i := 3) rfl))) (by decide) (backOf (W := 0) (own_rm1 l Z a0 hw [] q2 q3 h0 n0 Z0 ) hZ (hw _ (List.mem_of_getElem? (i := 3) rfl)) (hw _ (List.mem_of_getElem? (i := 2) rfl)) (by decide) (by decide)) (g := (mkF m 3 #[.val (.long q1), .second, .val (.long q2), .second, .val (.long q3), .second, .val (.int v4), .val (.long q5), .second, .val (.int v6), .unset, .unset, .unset, .unset, .unset, .unset, .unset, .unset, .unset, .unset, .unset, .unset, .unset, .unset, .unset, .unset, .unset, .unset, .unset, .unset, .unset] [(.long q3), (.long q2)])) rfl (by rw [hml]; rfl) (argsL := [(.long q2), (.long q3)]) (rest := []) (lenOf own_pd4 rfl) rfl (by show 2 * 0 + _ ≤ _; exact Nat.le_of_eq rfl) (hb hby at_3) (fun _ _ => ⟨rfl, e0, (by decide : 0 + 0 ≤ _), (by decide : 0 + 0 ≤ _)⟩)
  dsimp only [Pt.U, Pt.locs, Pt.cells, Pt.slots] at X1 lq1 yq1 zq1 st1 hQ1
  subst lq1 yq1 zq1
  obtain ⟨rfl, Nq1, eh1⟩ := hQ1
  have N1 := Fr.app N0 Nq1
  refine own_st (G' := T1.setTop (mkF m 6 #[.val (.long q1), .second, .val (.long q2), .second, .val (.long q3), .second, .val (.int v4), .val (.long q5), .second, .val (.int v6), .unset, .unset, .unset, .unset, .unset, .unset, .unset, .unset, .unset, .unset, .unset, .unset, .unset, .unset, .unset, .unset, .unset, .unset, .unset, .unset, .unset] [(.long (own_min q2 q3))])) st1 ?_
  refine own_lstore X1 hx 8 #[.val (.long q1), .second, .val (.long q2), .second, .val (.long q3), .second, .val (.int v4), .val (.long q5), .second, .val (.int v6), .val (.long (own_min q2 q3)), .second, .unset, .unset, .unset, .unset, .unset, .unset, .unset, .unset, .unset, .unset, .unset, .unset, .unset, .unset, .unset, .unset, .unset, .unset, .unset] (hb hby at_6) rfl ?_
  refine own_lloadN X1 hx 9 (hb hby at_8) rfl ?_
  refine own_lload X1 hx 11 (hb hby at_9) rfl ?_
  obtain ⟨_, _, ⟨T2, Lx2, kc2, nc2⟩, -, X2, ⟨Lc2, hQ2, lq2, yq2, zq2⟩, st2⟩ := Jvm.LawKit.callS X1 hx (y := (⟨"java/lang/Math", "max", "(JJ)J"⟩ : MethodName)) hown (mvT hZ (hw _ (List.mem_of_getElem? (i := 4) rfl))) (mvT hZ (hw _ (List.mem_of_getElem? (i := 5) rfl))) (mvT hZ (hw _ (List.mem_of_getElem? (i := 2) rfl))) (mvT hZ (hw _ (List.mem_of_getElem? (i := 6) rfl))) (by decide) (backOf (W := 0) (own_rm2 l Z a0 hw [] q2 q3 h0 n0 Z0 ) hZ (hw _ (List.mem_of_getElem? (i := 6) rfl)) (hw _ (List.mem_of_getElem? (i := 2) rfl)) (by decide) (by decide)) (g := (mkF m 11 #[.val (.long q1), .second, .val (.long q2), .second, .val (.long q3), .second, .val (.int v4), .val (.long q5), .second, .val (.int v6), .val (.long (own_min q2 q3)), .second, .unset, .unset, .unset, .unset, .unset, .unset, .unset, .unset, .unset, .unset, .unset, .unset, .unset, .unset, .unset, .unset, .unset, .unset, .unset] [(.long q3), (.long q2)])) rfl (by rw [hml]; rfl) (argsL := [(.long q2), (.long q3)]) (rest := []) (lenOf own_pd4 rfl) rfl (by show 2 * 0 + _ ≤ _; exact Nat.le_of_eq rfl) (hb hby at_11) (fun _ _ => ⟨rfl, eh1, (by decide : 0 + 0 ≤ _), (by decide : 0 + 0 ≤ _)⟩)
  dsimp only [Pt.U, Pt.locs, Pt.cells, Pt.slots] at X2 lq2 yq2 zq2 st2 hQ2
  subst lq2 yq2 zq2
  obtain ⟨rfl, Nq2, eh2⟩ := hQ2
  have N2 := Fr.app N1 Nq2
  refine own_st (G' := T2.setTop (mkF m 14 #[.val (.long q1), .second, .val (.long q2), .second, .val (.long q3), .second, .val (.int v4), .val (.long q5), .second, .val (.int v6), .val (.long (own_min q2 q3)), .second, .unset, .unset, .unset, .unset, .unset, .unset, .unset, .unset, .unset, .unset, .unset, .unset, .unset, .unset, .unset, .unset, .unset, .unset, .unset] [(.long (own_max q2 q3))])) st2 ?_
  refine own_lstore X2 hx 16 #[.val (.long q1), .second, .val (.long q2), .second, .val (.long q3), .second, .val (.int v4), .val (.long q5), .second, .val (.int v6), .val (.long (own_min q2 q3)), .second, .val (.long (own_max q2 q3)), .second, .unset, .unset, .unset, .unset, .unset, .unset, .unset, .unset, .unset, .unset, .unset, .unset, .unset, .unset, .unset, .unset, .unset] (hb hby at_14) rfl ?_
  refine own_iload X2 hx 18 (hb hby at_16) rfl ?_
  refine own_iconst X2 hx 19 (3 : Int32) (hb hby at_18) rfl ?_
  refine own_iand X2 hx 20 (hb hby at_19) ?_
  rcases own_four v4 with hk3 | hk4 | hk5 | hk6
  · rw [hk3]
    refine own_i2l X2 hx 21 (hb hby at_20) ?_
    show own_Gs p e below _ (T2.setTop (mkF m 21 #[.val (.long q1), .second, .val (.long q2), .second, .val (.long q3), .second, .val (.int v4), .val (.long q5), .second, .val (.int v6), .val (.long (own_min q2 q3)), .second, .val (.long (own_max q2 q3)), .second, .unset, .unset, .unset, .unset, .unset, .unset, .unset, .unset, .unset, .unset, .unset, .unset, .unset, .unset, .unset, .unset, .unset] [(.long (0 : Int64))]))
    refine own_lstore X2 hx 23 #[.val (.long q1), .second, .val (.long q2), .second, .val (.long q3), .second, .val (.int v4), .val (.long q5), .second, .val (.int v6), .val (.long (own_min q2 q3)), .second, .val (.long (own_max q2 q3)), .second, .val (.long (0 : Int64)), .second, .unset, .unset, .unset, .unset, .unset, .unset, .unset, .unset, .unset, .unset, .unset, .unset, .unset, .unset, .unset] (hb hby at_21) rfl ?_
    obtain ⟨T7, h7, X7, e7, E7, A7, D7, -, st7⟩ := newO X2 hx hZ hown (hw _ (List.mem_of_getElem? (i := 7) rfl)) (hw _ (List.mem_of_getElem? (i := 8) rfl)) (hw _ (List.mem_of_getElem? (i := 9) rfl)) eh2 (g := (mkF m 23 #[.val (.long q1), .second, .val (.long q2), .second, .val (.long q3), .second, .val (.int v4), .val (.long q5), .second, .val (.int v6), .val (.long (own_min q2 q3)), .second, .val (.long (own_max q2 q3)), .second, .val (.long (0 : Int64)), .second, .unset, .unset, .unset, .unset, .unset, .unset, .unset, .unset, .unset, .unset, .unset, .unset, .unset, .unset, .unset] [])) rfl (hb hby at_23) (by decide) (by decide)
    obtain ⟨b7, g7⟩ : ∃ z, z = h0.size := ⟨_, rfl⟩
    rw [← g7] at A7 D7 st7
    have gt_b7 : n0 ≤ b7 := Nat.le_trans Z0 (Nat.le_of_eq g7.symm)
    have Z8 := Nat.le_trans Z0 E7.1
    have F7_shuffle : Fld Z h7 b7 "com/example/loomsand/loomsand/Draws" "shuffle" "Lcom/example/loomsand/loomsand/Feistel;" .null := D7 (Or.inr (hw _ (List.mem_of_getElem? (i := 30) rfl))) (ty := (.object "com/example/loomsand/loomsand/Feistel")) (by decide)
    have F7_key : Fld Z h7 b7 "com/example/loomsand/loomsand/Draws" "key" "J" (.long (0 : Int64)) := D7 (Or.inl (hw _ (List.mem_of_getElem? (i := 41) rfl))) (ty := .long) (by decide)
    have F7_row : Fld Z h7 b7 "com/example/loomsand/loomsand/Draws" "row" "J" (.long (0 : Int64)) := D7 (Or.inl (hw _ (List.mem_of_getElem? (i := 43) rfl))) (ty := .long) (by decide)
    have F7_state : Fld Z h7 b7 "com/example/loomsand/loomsand/Draws" "state" "J" (.long (0 : Int64)) := D7 (Or.inl (hw _ (List.mem_of_getElem? (i := 51) rfl))) (ty := .long) (by decide)
    refine own_st (G' := T7.setTop (mkF m 26 #[.val (.long q1), .second, .val (.long q2), .second, .val (.long q3), .second, .val (.int v4), .val (.long q5), .second, .val (.int v6), .val (.long (own_min q2 q3)), .second, .val (.long (own_max q2 q3)), .second, .val (.long (0 : Int64)), .second, .unset, .unset, .unset, .unset, .unset, .unset, .unset, .unset, .unset, .unset, .unset, .unset, .unset, .unset, .unset] [(.ref b7)])) st7 ?_
    refine own_dup X7 hx 27 (hb hby at_26) rfl ?_
    obtain ⟨_, _, ⟨T9, Lx9, kc9, nc9⟩, -, X9, ⟨Lc9, hQ9, lq9, yq9, zq9⟩, st9⟩ := X7.specialBack hx (y := (⟨"com/example/loomsand/loomsand/Draws", "<init>", "()V"⟩ : MethodName)) rfl hown (mvT hZ (hw _ (List.mem_of_getElem? (i := 10) rfl))) (mvT hZ (hw _ (List.mem_of_getElem? (i := 11) rfl))) (mvT hZ (hw _ (List.mem_of_getElem? (i := 12) rfl))) (by decide) (backOf (W := 1) (own_rm3 l Z a0 hw [] b7 h7 n0 Z8 A7 F7_shuffle F7_key F7_row F7_state gt_b7) hZ (hw _ (List.mem_of_getElem? (i := 12) rfl)) (hw _ (List.mem_of_getElem? (i := 9) rfl)) (by decide) (by decide)) (g := (mkF m 27 #[.val (.long q1), .second, .val (.long q2), .second, .val (.long q3), .second, .val (.int v4), .val (.long q5), .second, .val (.int v6), .val (.long (own_min q2 q3)), .second, .val (.long (own_max q2 q3)), .second, .val (.long (0 : Int64)), .second, .unset, .unset, .unset, .unset, .unset, .unset, .unset, .unset, .unset, .unset, .unset, .unset, .unset, .unset, .unset] [(.ref b7), (.ref b7)])) rfl (by rw [hml]; rfl) (Steps.refl _) (a := b7) (argsL := []) (rest := [(.ref b7)]) (lenOf own_pd6 rfl) rfl (by show 2 * 0 + _ ≤ _; exact Nat.le_of_eq rfl) (hb hby at_27) (fun _ _ => ⟨rfl, e7, (by decide : 1 + 2 ≤ _), (by decide : 5 + 4 ≤ _)⟩)
    dsimp only [Pt.U, Pt.locs, Pt.cells, Pt.slots] at X9 lq9 yq9 zq9 st9 hQ9
    subst lq9 yq9 zq9
    obtain ⟨rfl, Nq9, Kp9, G9_0, G9_1, G9_2, G9_3⟩ := hQ9
    have N9 := Fr.app N2 Nq9
    have Z10 := Nat.le_trans Z8 Kp9.1
    refine own_st (G' := T9.setTop (mkF m 30 #[.val (.long q1), .second, .val (.long q2), .second, .val (.long q3), .second, .val (.int v4), .val (.long q5), .second, .val (.int v6), .val (.long (own_min q2 q3)), .second, .val (.long (own_max q2 q3)), .second, .val (.long (0 : Int64)), .second, .unset, .unset, .unset, .unset, .unset, .unset, .unset, .unset, .unset, .unset, .unset, .unset, .unset, .unset, .unset] [(.ref b7)])) (fun t k => st9.trans k) ?_
    refine own_astore X9 hx 32 #[.val (.long q1), .second, .val (.long q2), .second, .val (.long q3), .second, .val (.int v4), .val (.long q5), .second, .val (.int v6), .val (.long (own_min q2 q3)), .second, .val (.long (own_max q2 q3)), .second, .val (.long (0 : Int64)), .second, .val (.ref b7), .unset, .unset, .unset, .unset, .unset, .unset, .unset, .unset, .unset, .unset, .unset, .unset, .unset, .unset] (hb hby at_30) rfl rfl ?_
    refine own_aload X9 hx 34 (hb hby at_32) rfl rfl ?_
    refine own_lloadN X9 hx 35 (hb hby at_34) rfl ?_
    refine own_lconst X9 hx 36 (0 : Int64) (hb hby at_35) rfl ?_
    refine own_lload X9 hx 38 (hb hby at_36) rfl ?_
    refine own_lload X9 hx 40 (hb hby at_38) rfl ?_
    obtain ⟨_, _, ⟨T11, Lx11, kc11, nc11⟩, -, X11, ⟨Lc11, hQ11, lq11, yq11, zq11⟩, st11⟩ := Jvm.LawKit.callS X9 hx (y := (⟨"com/example/loomsand/loomsand/ParentRowsTotalPinLaw", "count", "(Lcom/example/loomsand/loomsand/Draws;JJJJ)J"⟩ : MethodName)) hown (mvT hZ (hw _ (List.mem_of_getElem? (i := 31) rfl))) (mvT hZ (hw _ (List.mem_of_getElem? (i := 32) rfl))) (mvT hZ (hw _ (List.mem_of_getElem? (i := 33) rfl))) (mvT hZ (hw _ (List.mem_of_getElem? (i := 34) rfl))) (by decide) (backOf (W := 0) (own_rm6 l Z a0 hw [] b7 q1 (0 : Int64) (own_min q2 q3) (own_max q2 q3) (0 : Int64) (0 : Int64) (0 : Int64) T9.heap n0 Z10 G9_0 G9_1 G9_2 G9_3 gt_b7 (own_mm _ _ : ¬ ((own_max q2 q3) < (own_min q2 q3)))) hZ (hw _ (List.mem_of_getElem? (i := 34) rfl)) (hw _ (List.mem_of_getElem? (i := 33) rfl)) (by decide) (by decide)) (g := (mkF m 40 #[.val (.long q1), .second, .val (.long q2), .second, .val (.long q3), .second, .val (.int v4), .val (.long q5), .second, .val (.int v6), .val (.long (own_min q2 q3)), .second, .val (.long (own_max q2 q3)), .second, .val (.long (0 : Int64)), .second, .val (.ref b7), .unset, .unset, .unset, .unset, .unset, .unset, .unset, .unset, .unset, .unset, .unset, .unset, .unset, .unset] [(.long (own_max q2 q3)), (.long (own_min q2 q3)), (.long (0 : Int64)), (.long q1), (.ref b7)])) rfl (by rw [hml]; rfl) (argsL := [(.ref b7), (.long q1), (.long (0 : Int64)), (.long (own_min q2 q3)), (.long (own_max q2 q3))]) (rest := []) (lenOf own_pd7 rfl) rfl (by show 2 * 0 + _ ≤ _; exact Nat.le_of_eq rfl) (hb hby at_40) (fun _ _ => ⟨rfl, rfl, (by decide : 3 + 0 ≤ _), (by decide : 9 + 0 ≤ _)⟩)
    dsimp only [Pt.U, Pt.locs, Pt.cells, Pt.slots] at X11 lq11 yq11 zq11 st11 hQ11
    subst lq11 yq11 zq11
    obtain ⟨zz_11, rfl, Nq11, Kp11, G11_0, G11_1, G11_2, G11_3⟩ := hQ11
    have N11 := Fr.app N9 Nq11
    have Z12 := Nat.le_trans Z10 Kp11.1
    refine own_st (G' := T11.setTop (mkF m 43 #[.val (.long q1), .second, .val (.long q2), .second, .val (.long q3), .second, .val (.int v4), .val (.long q5), .second, .val (.int v6), .val (.long (own_min q2 q3)), .second, .val (.long (own_max q2 q3)), .second, .val (.long (0 : Int64)), .second, .val (.ref b7), .unset, .unset, .unset, .unset, .unset, .unset, .unset, .unset, .unset, .unset, .unset, .unset, .unset, .unset] [(.long (own_btw (own_min q2 q3) (own_max q2 q3) ((own_mix (q1 + ((0 : Int64) * (-7046029254386353131 : Int64)))) + (-7046029254386353131 : Int64))))])) st11 ?_
    refine own_lstore X11 hx 45 #[.val (.long q1), .second, .val (.long q2), .second, .val (.long q3), .second, .val (.int v4), .val (.long q5), .second, .val (.int v6), .val (.long (own_min q2 q3)), .second, .val (.long (own_max q2 q3)), .second, .val (.long (0 : Int64)), .second, .val (.ref b7), .val (.long (own_btw (own_min q2 q3) (own_max q2 q3) ((own_mix (q1 + ((0 : Int64) * (-7046029254386353131 : Int64)))) + (-7046029254386353131 : Int64)))), .second, .unset, .unset, .unset, .unset, .unset, .unset, .unset, .unset, .unset, .unset, .unset, .unset] (hb hby at_43) rfl ?_
    refine own_aload X11 hx 47 (hb hby at_45) rfl rfl ?_
    refine own_lloadN X11 hx 48 (hb hby at_47) rfl ?_
    refine own_lconst X11 hx 49 (1 : Int64) (hb hby at_48) rfl ?_
    refine own_lload X11 hx 51 (hb hby at_49) rfl ?_
    refine own_lload X11 hx 53 (hb hby at_51) rfl ?_
    obtain ⟨_, _, ⟨T13, Lx13, kc13, nc13⟩, -, X13, ⟨Lc13, hQ13, lq13, yq13, zq13⟩, st13⟩ := Jvm.LawKit.callS X11 hx (y := (⟨"com/example/loomsand/loomsand/ParentRowsTotalPinLaw", "count", "(Lcom/example/loomsand/loomsand/Draws;JJJJ)J"⟩ : MethodName)) hown (mvT hZ (hw _ (List.mem_of_getElem? (i := 31) rfl))) (mvT hZ (hw _ (List.mem_of_getElem? (i := 32) rfl))) (mvT hZ (hw _ (List.mem_of_getElem? (i := 33) rfl))) (mvT hZ (hw _ (List.mem_of_getElem? (i := 34) rfl))) (by decide) (backOf (W := 0) (own_rm6 l Z a0 hw [] b7 q1 (1 : Int64) (own_min q2 q3) (own_max q2 q3) q1 (0 : Int64) zz_11 T11.heap n0 Z12 G11_0 G11_1 G11_2 G11_3 gt_b7 (own_mm _ _ : ¬ ((own_max q2 q3) < (own_min q2 q3)))) hZ (hw _ (List.mem_of_getElem? (i := 34) rfl)) (hw _ (List.mem_of_getElem? (i := 33) rfl)) (by decide) (by decide)) (g := (mkF m 53 #[.val (.long q1), .second, .val (.long q2), .second, .val (.long q3), .second, .val (.int v4), .val (.long q5), .second, .val (.int v6), .val (.long (own_min q2 q3)), .second, .val (.long (own_max q2 q3)), .second, .val (.long (0 : Int64)), .second, .val (.ref b7), .val (.long (own_btw (own_min q2 q3) (own_max q2 q3) ((own_mix (q1 + ((0 : Int64) * (-7046029254386353131 : Int64)))) + (-7046029254386353131 : Int64)))), .second, .unset, .unset, .unset, .unset, .unset, .unset, .unset, .unset, .unset, .unset, .unset, .unset] [(.long (own_max q2 q3)), (.long (own_min q2 q3)), (.long (1 : Int64)), (.long q1), (.ref b7)])) rfl (by rw [hml]; rfl) (argsL := [(.ref b7), (.long q1), (.long (1 : Int64)), (.long (own_min q2 q3)), (.long (own_max q2 q3))]) (rest := []) (lenOf own_pd7 rfl) rfl (by show 2 * 0 + _ ≤ _; exact Nat.le_of_eq rfl) (hb hby at_53) (fun _ _ => ⟨rfl, rfl, (by decide : 3 + 0 ≤ _), (by decide : 9 + 0 ≤ _)⟩)
    dsimp only [Pt.U, Pt.locs, Pt.cells, Pt.slots] at X13 lq13 yq13 zq13 st13 hQ13
    subst lq13 yq13 zq13
    obtain ⟨zz_13, rfl, Nq13, Kp13, G13_0, G13_1, G13_2, G13_3⟩ := hQ13
    have N13 := Fr.app N11 Nq13
    have Z14 := Nat.le_trans Z12 Kp13.1
    refine own_st (G' := T13.setTop (mkF m 56 #[.val (.long q1), .second, .val (.long q2), .second, .val (.long q3), .second, .val (.int v4), .val (.long q5), .second, .val (.int v6), .val (.long (own_min q2 q3)), .second, .val (.long (own_max q2 q3)), .second, .val (.long (0 : Int64)), .second, .val (.ref b7), .val (.long (own_btw (own_min q2 q3) (own_max q2 q3) ((own_mix (q1 + ((0 : Int64) * (-7046029254386353131 : Int64)))) + (-7046029254386353131 : Int64)))), .second, .unset, .unset, .unset, .unset, .unset, .unset, .unset, .unset, .unset, .unset, .unset, .unset] [(.long (own_btw (own_min q2 q3) (own_max q2 q3) ((own_mix (q1 + ((1 : Int64) * (-7046029254386353131 : Int64)))) + (-7046029254386353131 : Int64))))])) st13 ?_
    refine own_lstore X13 hx 58 #[.val (.long q1), .second, .val (.long q2), .second, .val (.long q3), .second, .val (.int v4), .val (.long q5), .second, .val (.int v6), .val (.long (own_min q2 q3)), .second, .val (.long (own_max q2 q3)), .second, .val (.long (0 : Int64)), .second, .val (.ref b7), .val (.long (own_btw (own_min q2 q3) (own_max q2 q3) ((own_mix (q1 + ((0 : Int64) * (-7046029254386353131 : Int64)))) + (-7046029254386353131 : Int64)))), .second, .val (.long (own_btw (own_min q2 q3) (own_max q2 q3) ((own_mix (q1 + ((1 : Int64) * (-7046029254386353131 : Int64)))) + (-7046029254386353131 : Int64)))), .second, .unset, .unset, .unset, .unset, .unset, .unset, .unset, .unset, .unset, .unset] (hb hby at_56) rfl ?_
    refine own_aload X13 hx 60 (hb hby at_58) rfl rfl ?_
    refine own_lloadN X13 hx 61 (hb hby at_60) rfl ?_
    refine own_ldcL X13 hx 64 hown (mvT hZ (hw _ (List.mem_of_getElem? (i := 74) rfl))) (hb hby at_61) ?_
    refine own_lload X13 hx 66 (hb hby at_64) rfl ?_
    refine own_lload X13 hx 68 (hb hby at_66) rfl ?_
    obtain ⟨_, _, ⟨T15, Lx15, kc15, nc15⟩, -, X15, ⟨Lc15, hQ15, lq15, yq15, zq15⟩, st15⟩ := Jvm.LawKit.callS X13 hx (y := (⟨"com/example/loomsand/loomsand/ParentRowsTotalPinLaw", "count", "(Lcom/example/loomsand/loomsand/Draws;JJJJ)J"⟩ : MethodName)) hown (mvT hZ (hw _ (List.mem_of_getElem? (i := 31) rfl))) (mvT hZ (hw _ (List.mem_of_getElem? (i := 32) rfl))) (mvT hZ (hw _ (List.mem_of_getElem? (i := 33) rfl))) (mvT hZ (hw _ (List.mem_of_getElem? (i := 34) rfl))) (by decide) (backOf (W := 0) (own_rm6 l Z a0 hw [] b7 q1 (2 : Int64) (own_min q2 q3) (own_max q2 q3) q1 (1 : Int64) zz_13 T13.heap n0 Z14 G13_0 G13_1 G13_2 G13_3 gt_b7 (own_mm _ _ : ¬ ((own_max q2 q3) < (own_min q2 q3)))) hZ (hw _ (List.mem_of_getElem? (i := 34) rfl)) (hw _ (List.mem_of_getElem? (i := 33) rfl)) (by decide) (by decide)) (g := (mkF m 68 #[.val (.long q1), .second, .val (.long q2), .second, .val (.long q3), .second, .val (.int v4), .val (.long q5), .second, .val (.int v6), .val (.long (own_min q2 q3)), .second, .val (.long (own_max q2 q3)), .second, .val (.long (0 : Int64)), .second, .val (.ref b7), .val (.long (own_btw (own_min q2 q3) (own_max q2 q3) ((own_mix (q1 + ((0 : Int64) * (-7046029254386353131 : Int64)))) + (-7046029254386353131 : Int64)))), .second, .val (.long (own_btw (own_min q2 q3) (own_max q2 q3) ((own_mix (q1 + ((1 : Int64) * (-7046029254386353131 : Int64)))) + (-7046029254386353131 : Int64)))), .second, .unset, .unset, .unset, .unset, .unset, .unset, .unset, .unset, .unset, .unset] [(.long (own_max q2 q3)), (.long (own_min q2 q3)), (.long (2 : Int64)), (.long q1), (.ref b7)])) rfl (by rw [hml]; rfl) (argsL := [(.ref b7), (.long q1), (.long (2 : Int64)), (.long (own_min q2 q3)), (.long (own_max q2 q3))]) (rest := []) (lenOf own_pd7 rfl) rfl (by show 2 * 0 + _ ≤ _; exact Nat.le_of_eq rfl) (hb hby at_68) (fun _ _ => ⟨rfl, rfl, (by decide : 3 + 0 ≤ _), (by decide : 9 + 0 ≤ _)⟩)
    dsimp only [Pt.U, Pt.locs, Pt.cells, Pt.slots] at X15 lq15 yq15 zq15 st15 hQ15
    subst lq15 yq15 zq15
    obtain ⟨zz_15, rfl, Nq15, Kp15, G15_0, G15_1, G15_2, G15_3⟩ := hQ15
    have N15 := Fr.app N13 Nq15
    have Z16 := Nat.le_trans Z14 Kp15.1
    refine own_st (G' := T15.setTop (mkF m 71 #[.val (.long q1), .second, .val (.long q2), .second, .val (.long q3), .second, .val (.int v4), .val (.long q5), .second, .val (.int v6), .val (.long (own_min q2 q3)), .second, .val (.long (own_max q2 q3)), .second, .val (.long (0 : Int64)), .second, .val (.ref b7), .val (.long (own_btw (own_min q2 q3) (own_max q2 q3) ((own_mix (q1 + ((0 : Int64) * (-7046029254386353131 : Int64)))) + (-7046029254386353131 : Int64)))), .second, .val (.long (own_btw (own_min q2 q3) (own_max q2 q3) ((own_mix (q1 + ((1 : Int64) * (-7046029254386353131 : Int64)))) + (-7046029254386353131 : Int64)))), .second, .unset, .unset, .unset, .unset, .unset, .unset, .unset, .unset, .unset, .unset] [(.long (own_btw (own_min q2 q3) (own_max q2 q3) ((own_mix (q1 + ((2 : Int64) * (-7046029254386353131 : Int64)))) + (-7046029254386353131 : Int64))))])) st15 ?_
    refine own_lstore X15 hx 73 #[.val (.long q1), .second, .val (.long q2), .second, .val (.long q3), .second, .val (.int v4), .val (.long q5), .second, .val (.int v6), .val (.long (own_min q2 q3)), .second, .val (.long (own_max q2 q3)), .second, .val (.long (0 : Int64)), .second, .val (.ref b7), .val (.long (own_btw (own_min q2 q3) (own_max q2 q3) ((own_mix (q1 + ((0 : Int64) * (-7046029254386353131 : Int64)))) + (-7046029254386353131 : Int64)))), .second, .val (.long (own_btw (own_min q2 q3) (own_max q2 q3) ((own_mix (q1 + ((1 : Int64) * (-7046029254386353131 : Int64)))) + (-7046029254386353131 : Int64)))), .second, .val (.long (own_btw (own_min q2 q3) (own_max q2 q3) ((own_mix (q1 + ((2 : Int64) * (-7046029254386353131 : Int64)))) + (-7046029254386353131 : Int64)))), .second, .unset, .unset, .unset, .unset, .unset, .unset, .unset, .unset] (hb hby at_71) rfl ?_
    refine own_lconst X15 hx 74 (0 : Int64) (hb hby at_73) rfl ?_
    refine own_lstore X15 hx 76 #[.val (.long q1), .second, .val (.long q2), .second, .val (.long q3), .second, .val (.int v4), .val (.long q5), .second, .val (.int v6), .val (.long (own_min q2 q3)), .second, .val (.long (own_max q2 q3)), .second, .val (.long (0 : Int64)), .second, .val (.ref b7), .val (.long (own_btw (own_min q2 q3) (own_max q2 q3) ((own_mix (q1 + ((0 : Int64) * (-7046029254386353131 : Int64)))) + (-7046029254386353131 : Int64)))), .second, .val (.long (own_btw (own_min q2 q3) (own_max q2 q3) ((own_mix (q1 + ((1 : Int64) * (-7046029254386353131 : Int64)))) + (-7046029254386353131 : Int64)))), .second, .val (.long (own_btw (own_min q2 q3) (own_max q2 q3) ((own_mix (q1 + ((2 : Int64) * (-7046029254386353131 : Int64)))) + (-7046029254386353131 : Int64)))), .second, .val (.long (0 : Int64)), .second, .unset, .unset, .unset, .unset, .unset, .unset] (hb hby at_74) rfl ?_
    refine own_lload X15 hx 78 (hb hby at_76) rfl ?_
    refine own_lconst X15 hx 79 (1 : Int64) (hb hby at_78) rfl ?_
    refine own_lcmp X15 hx 80 (hb hby at_79) ?_
    refine own_ifYes X15 hx 90 (hb hby at_80) (tlt ((lw_lt _ _).mpr (by decide : (0 : Int64) < (1 : Int64)))).1 ?_
    refine own_lload X15 hx 92 (hb hby at_90) rfl ?_
    refine own_ldcL X15 hx 95 hown (mvT hZ (hw _ (List.mem_of_getElem? (i := 74) rfl))) (hb hby at_92) ?_
    refine own_lcmp X15 hx 96 (hb hby at_95) ?_
    refine own_ifYes X15 hx 106 (hb hby at_96) (tlt ((lw_lt _ _).mpr (by decide : (0 : Int64) < (2 : Int64)))).1 ?_
    refine own_lload X15 hx 108 (hb hby at_106) rfl ?_
    refine own_ldcL X15 hx 111 hown (mvT hZ (hw _ (List.mem_of_getElem? (i := 75) rfl))) (hb hby at_108) ?_
    refine own_lcmp X15 hx 112 (hb hby at_111) ?_
    refine own_ifYes X15 hx 122 (hb hby at_112) (tlt ((lw_lt _ _).mpr (by decide : (0 : Int64) < (3 : Int64)))).1 ?_
    obtain ⟨T17, h17, X17, e17, E17, A17, D17, -, st17⟩ := newO X15 hx hZ hown (hw _ (List.mem_of_getElem? (i := 76) rfl)) (hw _ (List.mem_of_getElem? (i := 77) rfl)) (hw _ (List.mem_of_getElem? (i := 78) rfl)) rfl (g := (mkF m 122 #[.val (.long q1), .second, .val (.long q2), .second, .val (.long q3), .second, .val (.int v4), .val (.long q5), .second, .val (.int v6), .val (.long (own_min q2 q3)), .second, .val (.long (own_max q2 q3)), .second, .val (.long (0 : Int64)), .second, .val (.ref b7), .val (.long (own_btw (own_min q2 q3) (own_max q2 q3) ((own_mix (q1 + ((0 : Int64) * (-7046029254386353131 : Int64)))) + (-7046029254386353131 : Int64)))), .second, .val (.long (own_btw (own_min q2 q3) (own_max q2 q3) ((own_mix (q1 + ((1 : Int64) * (-7046029254386353131 : Int64)))) + (-7046029254386353131 : Int64)))), .second, .val (.long (own_btw (own_min q2 q3) (own_max q2 q3) ((own_mix (q1 + ((2 : Int64) * (-7046029254386353131 : Int64)))) + (-7046029254386353131 : Int64)))), .second, .val (.long (0 : Int64)), .second, .unset, .unset, .unset, .unset, .unset, .unset] [])) rfl (hb hby at_122) (by decide) (by decide)
    obtain ⟨b17, g17⟩ : ∃ z, z = T15.heap.size := ⟨_, rfl⟩
    rw [← g17] at A17 D17 st17
    have ne18 : b7 ≠ b17 := Nat.ne_of_lt (Nat.lt_of_lt_of_le G15_0.lt (Nat.le_of_eq g17.symm))
    have gt_b17 : n0 ≤ b17 := Nat.le_trans Z16 (Nat.le_of_eq g17.symm)
    have Z19 := Nat.le_trans Z16 E17.1
    have F17_draws : Fld Z h17 b17 "com/example/loomsand/loomsand/ParentRows" "draws" "Lcom/example/loomsand/loomsand/Draws;" .null := D17 (Or.inr (hw _ (List.mem_of_getElem? (i := 86) rfl))) (ty := (.object "com/example/loomsand/loomsand/Draws")) (by decide)
    have F17_key : Fld Z h17 b17 "com/example/loomsand/loomsand/ParentRows" "key" "J" (.long (0 : Int64)) := D17 (Or.inr (hw _ (List.mem_of_getElem? (i := 88) rfl))) (ty := .long) (by decide)
    have F17_min : Fld Z h17 b17 "com/example/loomsand/loomsand/ParentRows" "min" "J" (.long (0 : Int64)) := D17 (Or.inr (hw _ (List.mem_of_getElem? (i := 90) rfl))) (ty := .long) (by decide)
    have F17_max : Fld Z h17 b17 "com/example/loomsand/loomsand/ParentRows" "max" "J" (.long (0 : Int64)) := D17 (Or.inr (hw _ (List.mem_of_getElem? (i := 92) rfl))) (ty := .long) (by decide)
    have F17_block : Fld Z h17 b17 "com/example/loomsand/loomsand/ParentRows" "block" "J" (.long (0 : Int64)) := D17 (Or.inr (hw _ (List.mem_of_getElem? (i := 97) rfl))) (ty := .long) (by decide)
    have F17_starts : Fld Z h17 b17 "com/example/loomsand/loomsand/ParentRows" "starts" "[J" .null := D17 (Or.inr (hw _ (List.mem_of_getElem? (i := 100) rfl))) (ty := (.array .long)) (by decide)
    refine own_st (G' := T17.setTop (mkF m 125 #[.val (.long q1), .second, .val (.long q2), .second, .val (.long q3), .second, .val (.int v4), .val (.long q5), .second, .val (.int v6), .val (.long (own_min q2 q3)), .second, .val (.long (own_max q2 q3)), .second, .val (.long (0 : Int64)), .second, .val (.ref b7), .val (.long (own_btw (own_min q2 q3) (own_max q2 q3) ((own_mix (q1 + ((0 : Int64) * (-7046029254386353131 : Int64)))) + (-7046029254386353131 : Int64)))), .second, .val (.long (own_btw (own_min q2 q3) (own_max q2 q3) ((own_mix (q1 + ((1 : Int64) * (-7046029254386353131 : Int64)))) + (-7046029254386353131 : Int64)))), .second, .val (.long (own_btw (own_min q2 q3) (own_max q2 q3) ((own_mix (q1 + ((2 : Int64) * (-7046029254386353131 : Int64)))) + (-7046029254386353131 : Int64)))), .second, .val (.long (0 : Int64)), .second, .unset, .unset, .unset, .unset, .unset, .unset] [(.ref b17)])) st17 ?_
    refine own_dup X17 hx 126 (hb hby at_125) rfl ?_
    refine own_lloadN X17 hx 127 (hb hby at_126) rfl ?_
    refine own_lload X17 hx 129 (hb hby at_127) rfl ?_
    refine own_lload X17 hx 131 (hb hby at_129) rfl ?_
    refine own_lload X17 hx 133 (hb hby at_131) rfl ?_
    obtain ⟨_, _, ⟨T20, Lx20, kc20, nc20⟩, -, X20, ⟨Lc20, hQ20, lq20, yq20, zq20⟩, st20⟩ := X17.specialBack hx (y := (⟨"com/example/loomsand/loomsand/ParentRows", "<init>", "(JJJJ)V"⟩ : MethodName)) rfl hown (mvT hZ (hw _ (List.mem_of_getElem? (i := 79) rfl))) (mvT hZ (hw _ (List.mem_of_getElem? (i := 80) rfl))) (mvT hZ (hw _ (List.mem_of_getElem? (i := 81) rfl))) (by decide) (backOf (W := 1) (own_rm14 l Z a0 hw [] b17 q1 (0 : Int64) (own_min q2 q3) (own_max q2 q3) h17 n0 Z19 A17 F17_draws F17_key F17_min F17_max F17_block F17_starts gt_b17 (own_mm _ _ : ¬ ((own_max q2 q3) < (own_min q2 q3))) (by decide : 0 ≤ (0 : Int64).toInt ∧ (0 : Int64).toInt ≤ 511)) hZ (hw _ (List.mem_of_getElem? (i := 81) rfl)) (hw _ (List.mem_of_getElem? (i := 78) rfl)) (by decide) (by decide)) (g := (mkF m 133 #[.val (.long q1), .second, .val (.long q2), .second, .val (.long q3), .second, .val (.int v4), .val (.long q5), .second, .val (.int v6), .val (.long (own_min q2 q3)), .second, .val (.long (own_max q2 q3)), .second, .val (.long (0 : Int64)), .second, .val (.ref b7), .val (.long (own_btw (own_min q2 q3) (own_max q2 q3) ((own_mix (q1 + ((0 : Int64) * (-7046029254386353131 : Int64)))) + (-7046029254386353131 : Int64)))), .second, .val (.long (own_btw (own_min q2 q3) (own_max q2 q3) ((own_mix (q1 + ((1 : Int64) * (-7046029254386353131 : Int64)))) + (-7046029254386353131 : Int64)))), .second, .val (.long (own_btw (own_min q2 q3) (own_max q2 q3) ((own_mix (q1 + ((2 : Int64) * (-7046029254386353131 : Int64)))) + (-7046029254386353131 : Int64)))), .second, .val (.long (0 : Int64)), .second, .unset, .unset, .unset, .unset, .unset, .unset] [(.long (own_max q2 q3)), (.long (own_min q2 q3)), (.long (0 : Int64)), (.long q1), (.ref b17), (.ref b17)])) rfl (by rw [hml]; rfl) (Steps.refl _) (a := b17) (argsL := [(.long q1), (.long (0 : Int64)), (.long (own_min q2 q3)), (.long (own_max q2 q3))]) (rest := [(.ref b17)]) (lenOf own_pd8 rfl) rfl (by show 2 * 0 + _ ≤ _; exact Nat.le_of_eq rfl) (hb hby at_133) (fun _ _ => ⟨rfl, e17, (by decide : 4 + 4 ≤ _), (by decide : 19 + 14 ≤ _)⟩)
    dsimp only [Pt.U, Pt.locs, Pt.cells, Pt.slots] at X20 lq20 yq20 zq20 st20 hQ20
    subst lq20 yq20 zq20
    obtain ⟨bb_20, kb_20, nn_20, gg_20, rfl, Nq20, Kp20, G20_0, G20_1, G20_2, G20_3, P20_0, P20_1⟩ := hQ20
    have N20 := Fr.app N15 Nq20
    have f21 := (G15_0.ext E17)
    have ne22 : b7 ≠ bb_20 := Nat.ne_of_lt (Nat.lt_of_lt_of_le f21.lt G20_1)
    have ne23 : b17 ≠ bb_20 := Nat.ne_of_lt (Nat.lt_of_lt_of_le A17.lt G20_1)
    have gt_bb_20 : n0 ≤ bb_20 := Nat.le_trans Z19 G20_1
    have Z24 := Nat.le_trans Z19 Kp20.1
    refine own_st (G' := T20.setTop (mkF m 136 #[.val (.long q1), .second, .val (.long q2), .second, .val (.long q3), .second, .val (.int v4), .val (.long q5), .second, .val (.int v6), .val (.long (own_min q2 q3)), .second, .val (.long (own_max q2 q3)), .second, .val (.long (0 : Int64)), .second, .val (.ref b7), .val (.long (own_btw (own_min q2 q3) (own_max q2 q3) ((own_mix (q1 + ((0 : Int64) * (-7046029254386353131 : Int64)))) + (-7046029254386353131 : Int64)))), .second, .val (.long (own_btw (own_min q2 q3) (own_max q2 q3) ((own_mix (q1 + ((1 : Int64) * (-7046029254386353131 : Int64)))) + (-7046029254386353131 : Int64)))), .second, .val (.long (own_btw (own_min q2 q3) (own_max q2 q3) ((own_mix (q1 + ((2 : Int64) * (-7046029254386353131 : Int64)))) + (-7046029254386353131 : Int64)))), .second, .val (.long (0 : Int64)), .second, .unset, .unset, .unset, .unset, .unset, .unset] [(.ref b17)])) (fun t k => st20.trans k) ?_
    refine own_astore X20 hx 138 #[.val (.long q1), .second, .val (.long q2), .second, .val (.long q3), .second, .val (.int v4), .val (.long q5), .second, .val (.int v6), .val (.long (own_min q2 q3)), .second, .val (.long (own_max q2 q3)), .second, .val (.long (0 : Int64)), .second, .val (.ref b7), .val (.long (own_btw (own_min q2 q3) (own_max q2 q3) ((own_mix (q1 + ((0 : Int64) * (-7046029254386353131 : Int64)))) + (-7046029254386353131 : Int64)))), .second, .val (.long (own_btw (own_min q2 q3) (own_max q2 q3) ((own_mix (q1 + ((1 : Int64) * (-7046029254386353131 : Int64)))) + (-7046029254386353131 : Int64)))), .second, .val (.long (own_btw (own_min q2 q3) (own_max q2 q3) ((own_mix (q1 + ((2 : Int64) * (-7046029254386353131 : Int64)))) + (-7046029254386353131 : Int64)))), .second, .val (.long (0 : Int64)), .second, .val (.ref b17), .unset, .unset, .unset, .unset, .unset] (hb hby at_136) rfl rfl ?_
    refine own_aload X20 hx 140 (hb hby at_138) rfl rfl ?_
    obtain ⟨cq25, kq25, q25a, q25b, q25c⟩ := isOf hZ rfl G20_0
    obtain ⟨_, _, ⟨T25, Lx25, kc25, nc25⟩, -, X25, ⟨Lc25, hQ25, lq25, yq25, zq25⟩, st25⟩ := X20.virtualBack hx (y := (⟨"com/example/loomsand/loomsand/ParentRows", "total", "()J"⟩ : MethodName)) (z := (⟨"com/example/loomsand/loomsand/ParentRows", "total", "()J"⟩ : MethodName)) hown (mvT hZ (hw _ (List.mem_of_getElem? (i := 107) rfl))) (mvT hZ (hw _ (List.mem_of_getElem? (i := 108) rfl))) (notFace_of_selects (args := #[]) (mvT hZ (hw _ (List.mem_of_getElem? (i := 110) rfl)))) (mvT hZ (hw _ (List.mem_of_getElem? (i := 110) rfl))) (mvT hZ (hw _ (List.mem_of_getElem? (i := 109) rfl))) (by decide) (backOf (W := 0) (own_rm16 l Z a0 hw [] b17 bb_20 kb_20 nn_20 (own_lstJ 5 gg_20) (own_sum q1 (own_min q2 q3) (own_max q2 q3) (0 : Int64).toInt.toNat) T20.heap n0 Z24 G20_2 G20_3 (by assumption : 0 < nn_20.toInt) (by assumption : (own_lstJ 5 gg_20).getD (nn_20 - (1 : Int32)).toNatClampNeg (.long (0 : Int64)) = (.long (own_sum q1 (own_min q2 q3) (own_max q2 q3) (0 : Int64).toInt.toNat)))) hZ (hw _ (List.mem_of_getElem? (i := 111) rfl)) (hw _ (List.mem_of_getElem? (i := 78) rfl)) (by decide) (by decide)) q25a q25c (g := (mkF m 140 #[.val (.long q1), .second, .val (.long q2), .second, .val (.long q3), .second, .val (.int v4), .val (.long q5), .second, .val (.int v6), .val (.long (own_min q2 q3)), .second, .val (.long (own_max q2 q3)), .second, .val (.long (0 : Int64)), .second, .val (.ref b7), .val (.long (own_btw (own_min q2 q3) (own_max q2 q3) ((own_mix (q1 + ((0 : Int64) * (-7046029254386353131 : Int64)))) + (-7046029254386353131 : Int64)))), .second, .val (.long (own_btw (own_min q2 q3) (own_max q2 q3) ((own_mix (q1 + ((1 : Int64) * (-7046029254386353131 : Int64)))) + (-7046029254386353131 : Int64)))), .second, .val (.long (own_btw (own_min q2 q3) (own_max q2 q3) ((own_mix (q1 + ((2 : Int64) * (-7046029254386353131 : Int64)))) + (-7046029254386353131 : Int64)))), .second, .val (.long (0 : Int64)), .second, .val (.ref b17), .unset, .unset, .unset, .unset, .unset] [(.ref b17)])) rfl (by rw [hml]; rfl) (Steps.refl _) (argsL := []) (rest := []) (lenOf own_pd3 rfl) rfl (by show 2 * 0 + _ ≤ _; exact Nat.le_of_eq rfl) (hb hby at_140) (fun _ _ => ⟨rfl, rfl, (by decide : 8 + 0 ≤ _), (by decide : 33 + 0 ≤ _)⟩)
    dsimp only [Pt.U, Pt.locs, Pt.cells, Pt.slots] at X25 lq25 yq25 zq25 st25 hQ25
    subst lq25 yq25 zq25
    obtain ⟨rfl, Nq25, eh25⟩ := hQ25
    have N25 := Fr.app N20 Nq25
    refine own_st (G' := T25.setTop (mkF m 143 #[.val (.long q1), .second, .val (.long q2), .second, .val (.long q3), .second, .val (.int v4), .val (.long q5), .second, .val (.int v6), .val (.long (own_min q2 q3)), .second, .val (.long (own_max q2 q3)), .second, .val (.long (0 : Int64)), .second, .val (.ref b7), .val (.long (own_btw (own_min q2 q3) (own_max q2 q3) ((own_mix (q1 + ((0 : Int64) * (-7046029254386353131 : Int64)))) + (-7046029254386353131 : Int64)))), .second, .val (.long (own_btw (own_min q2 q3) (own_max q2 q3) ((own_mix (q1 + ((1 : Int64) * (-7046029254386353131 : Int64)))) + (-7046029254386353131 : Int64)))), .second, .val (.long (own_btw (own_min q2 q3) (own_max q2 q3) ((own_mix (q1 + ((2 : Int64) * (-7046029254386353131 : Int64)))) + (-7046029254386353131 : Int64)))), .second, .val (.long (0 : Int64)), .second, .val (.ref b17), .unset, .unset, .unset, .unset, .unset] [(.long (own_sum q1 (own_min q2 q3) (own_max q2 q3) (0 : Int64).toInt.toNat))])) (fun t k => st25.trans k) ?_
    refine own_lload X25 hx 145 (hb hby at_143) rfl ?_
    refine own_lcmp X25 hx 146 (hb hby at_145) ?_
    refine own_ifNo X25 hx 149 (hb hby at_146) (teq ((lw_eq _ _).mpr (by first | rfl | (simp only [own_sum]; rfl) : (own_sum q1 (own_min q2 q3) (own_max q2 q3) (0 : Int64).toInt.toNat) = (0 : Int64)))).2 ?_
    refine own_iconst X25 hx 150 (1 : Int32) (hb hby at_149) rfl ?_
    refine own_goto X25 hx 154 (hb hby at_150) ?_
    refine own_istore X25 hx 156 #[.val (.long q1), .second, .val (.long q2), .second, .val (.long q3), .second, .val (.int v4), .val (.long q5), .second, .val (.int v6), .val (.long (own_min q2 q3)), .second, .val (.long (own_max q2 q3)), .second, .val (.long (0 : Int64)), .second, .val (.ref b7), .val (.long (own_btw (own_min q2 q3) (own_max q2 q3) ((own_mix (q1 + ((0 : Int64) * (-7046029254386353131 : Int64)))) + (-7046029254386353131 : Int64)))), .second, .val (.long (own_btw (own_min q2 q3) (own_max q2 q3) ((own_mix (q1 + ((1 : Int64) * (-7046029254386353131 : Int64)))) + (-7046029254386353131 : Int64)))), .second, .val (.long (own_btw (own_min q2 q3) (own_max q2 q3) ((own_mix (q1 + ((2 : Int64) * (-7046029254386353131 : Int64)))) + (-7046029254386353131 : Int64)))), .second, .val (.long (0 : Int64)), .second, .val (.ref b17), .val (.int (1 : Int32)), .unset, .unset, .unset, .unset] (hb hby at_154) rfl ?_
    refine own_iload X25 hx 158 (hb hby at_156) rfl ?_
    refine own_sipush X25 hx 161 (511 : Int32) (hb hby at_158) rfl ?_
    refine own_iand X25 hx 162 (hb hby at_161) ?_
    refine own_i2l X25 hx 163 (hb hby at_162) ?_
    refine own_lstore X25 hx 165 #[.val (.long q1), .second, .val (.long q2), .second, .val (.long q3), .second, .val (.int v4), .val (.long q5), .second, .val (.int v6), .val (.long (own_min q2 q3)), .second, .val (.long (own_max q2 q3)), .second, .val (.long (0 : Int64)), .second, .val (.ref b7), .val (.long (own_btw (own_min q2 q3) (own_max q2 q3) ((own_mix (q1 + ((0 : Int64) * (-7046029254386353131 : Int64)))) + (-7046029254386353131 : Int64)))), .second, .val (.long (own_btw (own_min q2 q3) (own_max q2 q3) ((own_mix (q1 + ((1 : Int64) * (-7046029254386353131 : Int64)))) + (-7046029254386353131 : Int64)))), .second, .val (.long (own_btw (own_min q2 q3) (own_max q2 q3) ((own_mix (q1 + ((2 : Int64) * (-7046029254386353131 : Int64)))) + (-7046029254386353131 : Int64)))), .second, .val (.long (0 : Int64)), .second, .val (.ref b17), .val (.int (1 : Int32)), .val (.long ((v6 &&& (511 : Int32)).toInt64)), .second, .unset, .unset] (hb hby at_163) rfl ?_
    obtain ⟨T26, h26, X26, e26, E26, A26, D26, -, st26⟩ := newO X25 hx hZ hown (hw _ (List.mem_of_getElem? (i := 76) rfl)) (hw _ (List.mem_of_getElem? (i := 77) rfl)) (hw _ (List.mem_of_getElem? (i := 78) rfl)) eh25 (g := (mkF m 165 #[.val (.long q1), .second, .val (.long q2), .second, .val (.long q3), .second, .val (.int v4), .val (.long q5), .second, .val (.int v6), .val (.long (own_min q2 q3)), .second, .val (.long (own_max q2 q3)), .second, .val (.long (0 : Int64)), .second, .val (.ref b7), .val (.long (own_btw (own_min q2 q3) (own_max q2 q3) ((own_mix (q1 + ((0 : Int64) * (-7046029254386353131 : Int64)))) + (-7046029254386353131 : Int64)))), .second, .val (.long (own_btw (own_min q2 q3) (own_max q2 q3) ((own_mix (q1 + ((1 : Int64) * (-7046029254386353131 : Int64)))) + (-7046029254386353131 : Int64)))), .second, .val (.long (own_btw (own_min q2 q3) (own_max q2 q3) ((own_mix (q1 + ((2 : Int64) * (-7046029254386353131 : Int64)))) + (-7046029254386353131 : Int64)))), .second, .val (.long (0 : Int64)), .second, .val (.ref b17), .val (.int (1 : Int32)), .val (.long ((v6 &&& (511 : Int32)).toInt64)), .second, .unset, .unset] [])) rfl (hb hby at_165) (by decide) (by decide)
    obtain ⟨b26, g26⟩ : ∃ z, z = T20.heap.size := ⟨_, rfl⟩
    rw [← g26] at A26 D26 st26
    have f27 := (f21.keep Kp20)
    have ne28 : b7 ≠ b26 := Nat.ne_of_lt (Nat.lt_of_lt_of_le f27.lt (Nat.le_of_eq g26.symm))
    have ne29 : b17 ≠ b26 := Nat.ne_of_lt (Nat.lt_of_lt_of_le G20_0.lt (Nat.le_of_eq g26.symm))
    have ne30 : bb_20 ≠ b26 := Nat.ne_of_lt (Nat.lt_of_lt_of_le G20_3.lt (Nat.le_of_eq g26.symm))
    have gt_b26 : n0 ≤ b26 := Nat.le_trans Z24 (Nat.le_of_eq g26.symm)
    have Z31 := Nat.le_trans Z24 E26.1
    have F26_draws : Fld Z h26 b26 "com/example/loomsand/loomsand/ParentRows" "draws" "Lcom/example/loomsand/loomsand/Draws;" .null := D26 (Or.inr (hw _ (List.mem_of_getElem? (i := 86) rfl))) (ty := (.object "com/example/loomsand/loomsand/Draws")) (by decide)
    have F26_key : Fld Z h26 b26 "com/example/loomsand/loomsand/ParentRows" "key" "J" (.long (0 : Int64)) := D26 (Or.inr (hw _ (List.mem_of_getElem? (i := 88) rfl))) (ty := .long) (by decide)
    have F26_min : Fld Z h26 b26 "com/example/loomsand/loomsand/ParentRows" "min" "J" (.long (0 : Int64)) := D26 (Or.inr (hw _ (List.mem_of_getElem? (i := 90) rfl))) (ty := .long) (by decide)
    have F26_max : Fld Z h26 b26 "com/example/loomsand/loomsand/ParentRows" "max" "J" (.long (0 : Int64)) := D26 (Or.inr (hw _ (List.mem_of_getElem? (i := 92) rfl))) (ty := .long) (by decide)
    have F26_block : Fld Z h26 b26 "com/example/loomsand/loomsand/ParentRows" "block" "J" (.long (0 : Int64)) := D26 (Or.inr (hw _ (List.mem_of_getElem? (i := 97) rfl))) (ty := .long) (by decide)
    have F26_starts : Fld Z h26 b26 "com/example/loomsand/loomsand/ParentRows" "starts" "[J" .null := D26 (Or.inr (hw _ (List.mem_of_getElem? (i := 100) rfl))) (ty := (.array .long)) (by decide)
    refine own_st (G' := T26.setTop (mkF m 168 #[.val (.long q1), .second, .val (.long q2), .second, .val (.long q3), .second, .val (.int v4), .val (.long q5), .second, .val (.int v6), .val (.long (own_min q2 q3)), .second, .val (.long (own_max q2 q3)), .second, .val (.long (0 : Int64)), .second, .val (.ref b7), .val (.long (own_btw (own_min q2 q3) (own_max q2 q3) ((own_mix (q1 + ((0 : Int64) * (-7046029254386353131 : Int64)))) + (-7046029254386353131 : Int64)))), .second, .val (.long (own_btw (own_min q2 q3) (own_max q2 q3) ((own_mix (q1 + ((1 : Int64) * (-7046029254386353131 : Int64)))) + (-7046029254386353131 : Int64)))), .second, .val (.long (own_btw (own_min q2 q3) (own_max q2 q3) ((own_mix (q1 + ((2 : Int64) * (-7046029254386353131 : Int64)))) + (-7046029254386353131 : Int64)))), .second, .val (.long (0 : Int64)), .second, .val (.ref b17), .val (.int (1 : Int32)), .val (.long ((v6 &&& (511 : Int32)).toInt64)), .second, .unset, .unset] [(.ref b26)])) st26 ?_
    refine own_dup X26 hx 169 (hb hby at_168) rfl ?_
    refine own_lloadN X26 hx 170 (hb hby at_169) rfl ?_
    refine own_lload X26 hx 172 (hb hby at_170) rfl ?_
    refine own_lload X26 hx 174 (hb hby at_172) rfl ?_
    refine own_lload X26 hx 176 (hb hby at_174) rfl ?_
    obtain ⟨_, _, ⟨T32, Lx32, kc32, nc32⟩, -, X32, ⟨Lc32, hQ32, lq32, yq32, zq32⟩, st32⟩ := X26.specialBack hx (y := (⟨"com/example/loomsand/loomsand/ParentRows", "<init>", "(JJJJ)V"⟩ : MethodName)) rfl hown (mvT hZ (hw _ (List.mem_of_getElem? (i := 79) rfl))) (mvT hZ (hw _ (List.mem_of_getElem? (i := 80) rfl))) (mvT hZ (hw _ (List.mem_of_getElem? (i := 81) rfl))) (by decide) (backOf (W := 1) (own_rm14 l Z a0 hw [] b26 q1 ((v6 &&& (511 : Int32)).toInt64) q5 q5 h26 n0 Z31 A26 F26_draws F26_key F26_min F26_max F26_block F26_starts gt_b26 (own_nlt _ : ¬ (q5 < q5)) (own_511 _ : 0 ≤ ((v6 &&& (511 : Int32)).toInt64).toInt ∧ ((v6 &&& (511 : Int32)).toInt64).toInt ≤ 511)) hZ (hw _ (List.mem_of_getElem? (i := 81) rfl)) (hw _ (List.mem_of_getElem? (i := 78) rfl)) (by decide) (by decide)) (g := (mkF m 176 #[.val (.long q1), .second, .val (.long q2), .second, .val (.long q3), .second, .val (.int v4), .val (.long q5), .second, .val (.int v6), .val (.long (own_min q2 q3)), .second, .val (.long (own_max q2 q3)), .second, .val (.long (0 : Int64)), .second, .val (.ref b7), .val (.long (own_btw (own_min q2 q3) (own_max q2 q3) ((own_mix (q1 + ((0 : Int64) * (-7046029254386353131 : Int64)))) + (-7046029254386353131 : Int64)))), .second, .val (.long (own_btw (own_min q2 q3) (own_max q2 q3) ((own_mix (q1 + ((1 : Int64) * (-7046029254386353131 : Int64)))) + (-7046029254386353131 : Int64)))), .second, .val (.long (own_btw (own_min q2 q3) (own_max q2 q3) ((own_mix (q1 + ((2 : Int64) * (-7046029254386353131 : Int64)))) + (-7046029254386353131 : Int64)))), .second, .val (.long (0 : Int64)), .second, .val (.ref b17), .val (.int (1 : Int32)), .val (.long ((v6 &&& (511 : Int32)).toInt64)), .second, .unset, .unset] [(.long q5), (.long q5), (.long ((v6 &&& (511 : Int32)).toInt64)), (.long q1), (.ref b26), (.ref b26)])) rfl (by rw [hml]; rfl) (Steps.refl _) (a := b26) (argsL := [(.long q1), (.long ((v6 &&& (511 : Int32)).toInt64)), (.long q5), (.long q5)]) (rest := [(.ref b26)]) (lenOf own_pd8 rfl) rfl (by show 2 * 0 + _ ≤ _; exact Nat.le_of_eq rfl) (hb hby at_176) (fun _ _ => ⟨rfl, e26, (by decide : 9 + 4 ≤ _), (by decide : 43 + 14 ≤ _)⟩)
    dsimp only [Pt.U, Pt.locs, Pt.cells, Pt.slots] at X32 lq32 yq32 zq32 st32 hQ32
    subst lq32 yq32 zq32
    obtain ⟨bb_32, kb_32, nn_32, gg_32, rfl, Nq32, Kp32, G32_0, G32_1, G32_2, G32_3, P32_0, P32_1⟩ := hQ32
    have N32 := Fr.app N25 Nq32
    have f33 := (f27.ext E26)
    have ne34 : b7 ≠ bb_32 := Nat.ne_of_lt (Nat.lt_of_lt_of_le f33.lt G32_1)
    have f35 := (G20_0.ext E26)
    have ne36 : b17 ≠ bb_32 := Nat.ne_of_lt (Nat.lt_of_lt_of_le f35.lt G32_1)
    have f37 := (G20_3.ext E26)
    have ne38 : bb_20 ≠ bb_32 := Nat.ne_of_lt (Nat.lt_of_lt_of_le f37.lt G32_1)
    have ne39 : b26 ≠ bb_32 := Nat.ne_of_lt (Nat.lt_of_lt_of_le A26.lt G32_1)
    have gt_bb_32 : n0 ≤ bb_32 := Nat.le_trans Z31 G32_1
    have Z40 := Nat.le_trans Z31 Kp32.1
    refine own_st (G' := T32.setTop (mkF m 179 #[.val (.long q1), .second, .val (.long q2), .second, .val (.long q3), .second, .val (.int v4), .val (.long q5), .second, .val (.int v6), .val (.long (own_min q2 q3)), .second, .val (.long (own_max q2 q3)), .second, .val (.long (0 : Int64)), .second, .val (.ref b7), .val (.long (own_btw (own_min q2 q3) (own_max q2 q3) ((own_mix (q1 + ((0 : Int64) * (-7046029254386353131 : Int64)))) + (-7046029254386353131 : Int64)))), .second, .val (.long (own_btw (own_min q2 q3) (own_max q2 q3) ((own_mix (q1 + ((1 : Int64) * (-7046029254386353131 : Int64)))) + (-7046029254386353131 : Int64)))), .second, .val (.long (own_btw (own_min q2 q3) (own_max q2 q3) ((own_mix (q1 + ((2 : Int64) * (-7046029254386353131 : Int64)))) + (-7046029254386353131 : Int64)))), .second, .val (.long (0 : Int64)), .second, .val (.ref b17), .val (.int (1 : Int32)), .val (.long ((v6 &&& (511 : Int32)).toInt64)), .second, .unset, .unset] [(.ref b26)])) (fun t k => st32.trans k) ?_
    refine own_astore X32 hx 181 #[.val (.long q1), .second, .val (.long q2), .second, .val (.long q3), .second, .val (.int v4), .val (.long q5), .second, .val (.int v6), .val (.long (own_min q2 q3)), .second, .val (.long (own_max q2 q3)), .second, .val (.long (0 : Int64)), .second, .val (.ref b7), .val (.long (own_btw (own_min q2 q3) (own_max q2 q3) ((own_mix (q1 + ((0 : Int64) * (-7046029254386353131 : Int64)))) + (-7046029254386353131 : Int64)))), .second, .val (.long (own_btw (own_min q2 q3) (own_max q2 q3) ((own_mix (q1 + ((1 : Int64) * (-7046029254386353131 : Int64)))) + (-7046029254386353131 : Int64)))), .second, .val (.long (own_btw (own_min q2 q3) (own_max q2 q3) ((own_mix (q1 + ((2 : Int64) * (-7046029254386353131 : Int64)))) + (-7046029254386353131 : Int64)))), .second, .val (.long (0 : Int64)), .second, .val (.ref b17), .val (.int (1 : Int32)), .val (.long ((v6 &&& (511 : Int32)).toInt64)), .second, .val (.ref b26), .unset] (hb hby at_179) rfl rfl ?_
    refine own_aload X32 hx 183 (hb hby at_181) rfl rfl ?_
    obtain ⟨cq41, kq41, q41a, q41b, q41c⟩ := isOf hZ rfl G32_0
    obtain ⟨_, _, ⟨T41, Lx41, kc41, nc41⟩, -, X41, ⟨Lc41, hQ41, lq41, yq41, zq41⟩, st41⟩ := X32.virtualBack hx (y := (⟨"com/example/loomsand/loomsand/ParentRows", "total", "()J"⟩ : MethodName)) (z := (⟨"com/example/loomsand/loomsand/ParentRows", "total", "()J"⟩ : MethodName)) hown (mvT hZ (hw _ (List.mem_of_getElem? (i := 107) rfl))) (mvT hZ (hw _ (List.mem_of_getElem? (i := 108) rfl))) (notFace_of_selects (args := #[]) (mvT hZ (hw _ (List.mem_of_getElem? (i := 110) rfl)))) (mvT hZ (hw _ (List.mem_of_getElem? (i := 110) rfl))) (mvT hZ (hw _ (List.mem_of_getElem? (i := 109) rfl))) (by decide) (backOf (W := 0) (own_rm16 l Z a0 hw [] b26 bb_32 kb_32 nn_32 (own_lstJ 5 gg_32) (own_sum q1 q5 q5 ((v6 &&& (511 : Int32)).toInt64).toInt.toNat) T32.heap n0 Z40 G32_2 G32_3 (by assumption : 0 < nn_32.toInt) (by assumption : (own_lstJ 5 gg_32).getD (nn_32 - (1 : Int32)).toNatClampNeg (.long (0 : Int64)) = (.long (own_sum q1 q5 q5 ((v6 &&& (511 : Int32)).toInt64).toInt.toNat)))) hZ (hw _ (List.mem_of_getElem? (i := 111) rfl)) (hw _ (List.mem_of_getElem? (i := 78) rfl)) (by decide) (by decide)) q41a q41c (g := (mkF m 183 #[.val (.long q1), .second, .val (.long q2), .second, .val (.long q3), .second, .val (.int v4), .val (.long q5), .second, .val (.int v6), .val (.long (own_min q2 q3)), .second, .val (.long (own_max q2 q3)), .second, .val (.long (0 : Int64)), .second, .val (.ref b7), .val (.long (own_btw (own_min q2 q3) (own_max q2 q3) ((own_mix (q1 + ((0 : Int64) * (-7046029254386353131 : Int64)))) + (-7046029254386353131 : Int64)))), .second, .val (.long (own_btw (own_min q2 q3) (own_max q2 q3) ((own_mix (q1 + ((1 : Int64) * (-7046029254386353131 : Int64)))) + (-7046029254386353131 : Int64)))), .second, .val (.long (own_btw (own_min q2 q3) (own_max q2 q3) ((own_mix (q1 + ((2 : Int64) * (-7046029254386353131 : Int64)))) + (-7046029254386353131 : Int64)))), .second, .val (.long (0 : Int64)), .second, .val (.ref b17), .val (.int (1 : Int32)), .val (.long ((v6 &&& (511 : Int32)).toInt64)), .second, .val (.ref b26), .unset] [(.ref b26)])) rfl (by rw [hml]; rfl) (Steps.refl _) (argsL := []) (rest := []) (lenOf own_pd3 rfl) rfl (by show 2 * 0 + _ ≤ _; exact Nat.le_of_eq rfl) (hb hby at_183) (fun _ _ => ⟨rfl, rfl, (by decide : 13 + 0 ≤ _), (by decide : 57 + 0 ≤ _)⟩)
    dsimp only [Pt.U, Pt.locs, Pt.cells, Pt.slots] at X41 lq41 yq41 zq41 st41 hQ41
    subst lq41 yq41 zq41
    obtain ⟨rfl, Nq41, eh41⟩ := hQ41
    have N41 := Fr.app N32 Nq41
    refine own_st (G' := T41.setTop (mkF m 186 #[.val (.long q1), .second, .val (.long q2), .second, .val (.long q3), .second, .val (.int v4), .val (.long q5), .second, .val (.int v6), .val (.long (own_min q2 q3)), .second, .val (.long (own_max q2 q3)), .second, .val (.long (0 : Int64)), .second, .val (.ref b7), .val (.long (own_btw (own_min q2 q3) (own_max q2 q3) ((own_mix (q1 + ((0 : Int64) * (-7046029254386353131 : Int64)))) + (-7046029254386353131 : Int64)))), .second, .val (.long (own_btw (own_min q2 q3) (own_max q2 q3) ((own_mix (q1 + ((1 : Int64) * (-7046029254386353131 : Int64)))) + (-7046029254386353131 : Int64)))), .second, .val (.long (own_btw (own_min q2 q3) (own_max q2 q3) ((own_mix (q1 + ((2 : Int64) * (-7046029254386353131 : Int64)))) + (-7046029254386353131 : Int64)))), .second, .val (.long (0 : Int64)), .second, .val (.ref b17), .val (.int (1 : Int32)), .val (.long ((v6 &&& (511 : Int32)).toInt64)), .second, .val (.ref b26), .unset] [(.long (own_sum q1 q5 q5 ((v6 &&& (511 : Int32)).toInt64).toInt.toNat))])) (fun t k => st41.trans k) ?_
    refine own_lload X41 hx 188 (hb hby at_186) rfl ?_
    refine own_lload X41 hx 190 (hb hby at_188) rfl ?_
    refine own_lmul X41 hx 191 (hb hby at_190) ?_
    refine own_lcmp X41 hx 192 (hb hby at_191) ?_
    refine own_ifNo X41 hx 195 (hb hby at_192) (teq ((lw_eq _ _).mpr (own_flat _ _ _ : (own_sum q1 q5 q5 ((v6 &&& (511 : Int32)).toInt64).toInt.toNat) = (((v6 &&& (511 : Int32)).toInt64) * q5)))).2 ?_
    refine own_iconst X41 hx 196 (1 : Int32) (hb hby at_195) rfl ?_
    refine own_goto X41 hx 200 (hb hby at_196) ?_
    refine own_istore X41 hx 202 #[.val (.long q1), .second, .val (.long q2), .second, .val (.long q3), .second, .val (.int v4), .val (.long q5), .second, .val (.int v6), .val (.long (own_min q2 q3)), .second, .val (.long (own_max q2 q3)), .second, .val (.long (0 : Int64)), .second, .val (.ref b7), .val (.long (own_btw (own_min q2 q3) (own_max q2 q3) ((own_mix (q1 + ((0 : Int64) * (-7046029254386353131 : Int64)))) + (-7046029254386353131 : Int64)))), .second, .val (.long (own_btw (own_min q2 q3) (own_max q2 q3) ((own_mix (q1 + ((1 : Int64) * (-7046029254386353131 : Int64)))) + (-7046029254386353131 : Int64)))), .second, .val (.long (own_btw (own_min q2 q3) (own_max q2 q3) ((own_mix (q1 + ((2 : Int64) * (-7046029254386353131 : Int64)))) + (-7046029254386353131 : Int64)))), .second, .val (.long (0 : Int64)), .second, .val (.ref b17), .val (.int (1 : Int32)), .val (.long ((v6 &&& (511 : Int32)).toInt64)), .second, .val (.ref b26), .val (.int (1 : Int32))] (hb hby at_200) rfl ?_
    refine own_iload X41 hx 204 (hb hby at_202) rfl ?_
    refine own_ifNo X41 hx 207 (hb hby at_204) (feq (by decide : ¬ ((1 : Int32) = (0 : Int32)))).1 ?_
    refine own_iload X41 hx 209 (hb hby at_207) rfl ?_
    refine own_ifNo X41 hx 212 (hb hby at_209) (feq (by decide : ¬ ((1 : Int32) = (0 : Int32)))).1 ?_
    refine own_iconst X41 hx 213 (1 : Int32) (hb hby at_212) rfl ?_
    refine own_goto X41 hx 217 (hb hby at_213) ?_
    exact own_retN (t := .boolean) (z := (1 : Int32)) (Q := own_Q0 Z q1 q2 q3 v4 q5 v6 h0 n0) X41 hx hrt (by simp) (hb hby at_217) hlk eh41 ⟨rfl, N41⟩ (by decide) (by decide)
  · rw [hk4]
    refine own_i2l X2 hx 21 (hb hby at_20) ?_
    show own_Gs p e below _ (T2.setTop (mkF m 21 #[.val (.long q1), .second, .val (.long q2), .second, .val (.long q3), .second, .val (.int v4), .val (.long q5), .second, .val (.int v6), .val (.long (own_min q2 q3)), .second, .val (.long (own_max q2 q3)), .second, .unset, .unset, .unset, .unset, .unset, .unset, .unset, .unset, .unset, .unset, .unset, .unset, .unset, .unset, .unset, .unset, .unset] [(.long (1 : Int64))]))
    refine own_lstore X2 hx 23 #[.val (.long q1), .second, .val (.long q2), .second, .val (.long q3), .second, .val (.int v4), .val (.long q5), .second, .val (.int v6), .val (.long (own_min q2 q3)), .second, .val (.long (own_max q2 q3)), .second, .val (.long (1 : Int64)), .second, .unset, .unset, .unset, .unset, .unset, .unset, .unset, .unset, .unset, .unset, .unset, .unset, .unset, .unset, .unset] (hb hby at_21) rfl ?_
    obtain ⟨T42, h42, X42, e42, E42, A42, D42, -, st42⟩ := newO X2 hx hZ hown (hw _ (List.mem_of_getElem? (i := 7) rfl)) (hw _ (List.mem_of_getElem? (i := 8) rfl)) (hw _ (List.mem_of_getElem? (i := 9) rfl)) eh2 (g := (mkF m 23 #[.val (.long q1), .second, .val (.long q2), .second, .val (.long q3), .second, .val (.int v4), .val (.long q5), .second, .val (.int v6), .val (.long (own_min q2 q3)), .second, .val (.long (own_max q2 q3)), .second, .val (.long (1 : Int64)), .second, .unset, .unset, .unset, .unset, .unset, .unset, .unset, .unset, .unset, .unset, .unset, .unset, .unset, .unset, .unset] [])) rfl (hb hby at_23) (by decide) (by decide)
    obtain ⟨b42, g42⟩ : ∃ z, z = h0.size := ⟨_, rfl⟩
    rw [← g42] at A42 D42 st42
    have gt_b42 : n0 ≤ b42 := Nat.le_trans Z0 (Nat.le_of_eq g42.symm)
    have Z43 := Nat.le_trans Z0 E42.1
    have F42_shuffle : Fld Z h42 b42 "com/example/loomsand/loomsand/Draws" "shuffle" "Lcom/example/loomsand/loomsand/Feistel;" .null := D42 (Or.inr (hw _ (List.mem_of_getElem? (i := 30) rfl))) (ty := (.object "com/example/loomsand/loomsand/Feistel")) (by decide)
    have F42_key : Fld Z h42 b42 "com/example/loomsand/loomsand/Draws" "key" "J" (.long (0 : Int64)) := D42 (Or.inl (hw _ (List.mem_of_getElem? (i := 41) rfl))) (ty := .long) (by decide)
    have F42_row : Fld Z h42 b42 "com/example/loomsand/loomsand/Draws" "row" "J" (.long (0 : Int64)) := D42 (Or.inl (hw _ (List.mem_of_getElem? (i := 43) rfl))) (ty := .long) (by decide)
    have F42_state : Fld Z h42 b42 "com/example/loomsand/loomsand/Draws" "state" "J" (.long (0 : Int64)) := D42 (Or.inl (hw _ (List.mem_of_getElem? (i := 51) rfl))) (ty := .long) (by decide)
    refine own_st (G' := T42.setTop (mkF m 26 #[.val (.long q1), .second, .val (.long q2), .second, .val (.long q3), .second, .val (.int v4), .val (.long q5), .second, .val (.int v6), .val (.long (own_min q2 q3)), .second, .val (.long (own_max q2 q3)), .second, .val (.long (1 : Int64)), .second, .unset, .unset, .unset, .unset, .unset, .unset, .unset, .unset, .unset, .unset, .unset, .unset, .unset, .unset, .unset] [(.ref b42)])) st42 ?_
    refine own_dup X42 hx 27 (hb hby at_26) rfl ?_
    obtain ⟨_, _, ⟨T44, Lx44, kc44, nc44⟩, -, X44, ⟨Lc44, hQ44, lq44, yq44, zq44⟩, st44⟩ := X42.specialBack hx (y := (⟨"com/example/loomsand/loomsand/Draws", "<init>", "()V"⟩ : MethodName)) rfl hown (mvT hZ (hw _ (List.mem_of_getElem? (i := 10) rfl))) (mvT hZ (hw _ (List.mem_of_getElem? (i := 11) rfl))) (mvT hZ (hw _ (List.mem_of_getElem? (i := 12) rfl))) (by decide) (backOf (W := 1) (own_rm3 l Z a0 hw [] b42 h42 n0 Z43 A42 F42_shuffle F42_key F42_row F42_state gt_b42) hZ (hw _ (List.mem_of_getElem? (i := 12) rfl)) (hw _ (List.mem_of_getElem? (i := 9) rfl)) (by decide) (by decide)) (g := (mkF m 27 #[.val (.long q1), .second, .val (.long q2), .second, .val (.long q3), .second, .val (.int v4), .val (.long q5), .second, .val (.int v6), .val (.long (own_min q2 q3)), .second, .val (.long (own_max q2 q3)), .second, .val (.long (1 : Int64)), .second, .unset, .unset, .unset, .unset, .unset, .unset, .unset, .unset, .unset, .unset, .unset, .unset, .unset, .unset, .unset] [(.ref b42), (.ref b42)])) rfl (by rw [hml]; rfl) (Steps.refl _) (a := b42) (argsL := []) (rest := [(.ref b42)]) (lenOf own_pd6 rfl) rfl (by show 2 * 0 + _ ≤ _; exact Nat.le_of_eq rfl) (hb hby at_27) (fun _ _ => ⟨rfl, e42, (by decide : 1 + 2 ≤ _), (by decide : 5 + 4 ≤ _)⟩)
    dsimp only [Pt.U, Pt.locs, Pt.cells, Pt.slots] at X44 lq44 yq44 zq44 st44 hQ44
    subst lq44 yq44 zq44
    obtain ⟨rfl, Nq44, Kp44, G44_0, G44_1, G44_2, G44_3⟩ := hQ44
    have N44 := Fr.app N2 Nq44
    have Z45 := Nat.le_trans Z43 Kp44.1
    refine own_st (G' := T44.setTop (mkF m 30 #[.val (.long q1), .second, .val (.long q2), .second, .val (.long q3), .second, .val (.int v4), .val (.long q5), .second, .val (.int v6), .val (.long (own_min q2 q3)), .second, .val (.long (own_max q2 q3)), .second, .val (.long (1 : Int64)), .second, .unset, .unset, .unset, .unset, .unset, .unset, .unset, .unset, .unset, .unset, .unset, .unset, .unset, .unset, .unset] [(.ref b42)])) (fun t k => st44.trans k) ?_
    refine own_astore X44 hx 32 #[.val (.long q1), .second, .val (.long q2), .second, .val (.long q3), .second, .val (.int v4), .val (.long q5), .second, .val (.int v6), .val (.long (own_min q2 q3)), .second, .val (.long (own_max q2 q3)), .second, .val (.long (1 : Int64)), .second, .val (.ref b42), .unset, .unset, .unset, .unset, .unset, .unset, .unset, .unset, .unset, .unset, .unset, .unset, .unset, .unset] (hb hby at_30) rfl rfl ?_
    refine own_aload X44 hx 34 (hb hby at_32) rfl rfl ?_
    refine own_lloadN X44 hx 35 (hb hby at_34) rfl ?_
    refine own_lconst X44 hx 36 (0 : Int64) (hb hby at_35) rfl ?_
    refine own_lload X44 hx 38 (hb hby at_36) rfl ?_
    refine own_lload X44 hx 40 (hb hby at_38) rfl ?_
    obtain ⟨_, _, ⟨T46, Lx46, kc46, nc46⟩, -, X46, ⟨Lc46, hQ46, lq46, yq46, zq46⟩, st46⟩ := Jvm.LawKit.callS X44 hx (y := (⟨"com/example/loomsand/loomsand/ParentRowsTotalPinLaw", "count", "(Lcom/example/loomsand/loomsand/Draws;JJJJ)J"⟩ : MethodName)) hown (mvT hZ (hw _ (List.mem_of_getElem? (i := 31) rfl))) (mvT hZ (hw _ (List.mem_of_getElem? (i := 32) rfl))) (mvT hZ (hw _ (List.mem_of_getElem? (i := 33) rfl))) (mvT hZ (hw _ (List.mem_of_getElem? (i := 34) rfl))) (by decide) (backOf (W := 0) (own_rm6 l Z a0 hw [] b42 q1 (0 : Int64) (own_min q2 q3) (own_max q2 q3) (0 : Int64) (0 : Int64) (0 : Int64) T44.heap n0 Z45 G44_0 G44_1 G44_2 G44_3 gt_b42 (own_mm _ _ : ¬ ((own_max q2 q3) < (own_min q2 q3)))) hZ (hw _ (List.mem_of_getElem? (i := 34) rfl)) (hw _ (List.mem_of_getElem? (i := 33) rfl)) (by decide) (by decide)) (g := (mkF m 40 #[.val (.long q1), .second, .val (.long q2), .second, .val (.long q3), .second, .val (.int v4), .val (.long q5), .second, .val (.int v6), .val (.long (own_min q2 q3)), .second, .val (.long (own_max q2 q3)), .second, .val (.long (1 : Int64)), .second, .val (.ref b42), .unset, .unset, .unset, .unset, .unset, .unset, .unset, .unset, .unset, .unset, .unset, .unset, .unset, .unset] [(.long (own_max q2 q3)), (.long (own_min q2 q3)), (.long (0 : Int64)), (.long q1), (.ref b42)])) rfl (by rw [hml]; rfl) (argsL := [(.ref b42), (.long q1), (.long (0 : Int64)), (.long (own_min q2 q3)), (.long (own_max q2 q3))]) (rest := []) (lenOf own_pd7 rfl) rfl (by show 2 * 0 + _ ≤ _; exact Nat.le_of_eq rfl) (hb hby at_40) (fun _ _ => ⟨rfl, rfl, (by decide : 3 + 0 ≤ _), (by decide : 9 + 0 ≤ _)⟩)
    dsimp only [Pt.U, Pt.locs, Pt.cells, Pt.slots] at X46 lq46 yq46 zq46 st46 hQ46
    subst lq46 yq46 zq46
    obtain ⟨zz_46, rfl, Nq46, Kp46, G46_0, G46_1, G46_2, G46_3⟩ := hQ46
    have N46 := Fr.app N44 Nq46
    have Z47 := Nat.le_trans Z45 Kp46.1
    refine own_st (G' := T46.setTop (mkF m 43 #[.val (.long q1), .second, .val (.long q2), .second, .val (.long q3), .second, .val (.int v4), .val (.long q5), .second, .val (.int v6), .val (.long (own_min q2 q3)), .second, .val (.long (own_max q2 q3)), .second, .val (.long (1 : Int64)), .second, .val (.ref b42), .unset, .unset, .unset, .unset, .unset, .unset, .unset, .unset, .unset, .unset, .unset, .unset, .unset, .unset] [(.long (own_btw (own_min q2 q3) (own_max q2 q3) ((own_mix (q1 + ((0 : Int64) * (-7046029254386353131 : Int64)))) + (-7046029254386353131 : Int64))))])) st46 ?_
    refine own_lstore X46 hx 45 #[.val (.long q1), .second, .val (.long q2), .second, .val (.long q3), .second, .val (.int v4), .val (.long q5), .second, .val (.int v6), .val (.long (own_min q2 q3)), .second, .val (.long (own_max q2 q3)), .second, .val (.long (1 : Int64)), .second, .val (.ref b42), .val (.long (own_btw (own_min q2 q3) (own_max q2 q3) ((own_mix (q1 + ((0 : Int64) * (-7046029254386353131 : Int64)))) + (-7046029254386353131 : Int64)))), .second, .unset, .unset, .unset, .unset, .unset, .unset, .unset, .unset, .unset, .unset, .unset, .unset] (hb hby at_43) rfl ?_
    refine own_aload X46 hx 47 (hb hby at_45) rfl rfl ?_
    refine own_lloadN X46 hx 48 (hb hby at_47) rfl ?_
    refine own_lconst X46 hx 49 (1 : Int64) (hb hby at_48) rfl ?_
    refine own_lload X46 hx 51 (hb hby at_49) rfl ?_
    refine own_lload X46 hx 53 (hb hby at_51) rfl ?_
    obtain ⟨_, _, ⟨T48, Lx48, kc48, nc48⟩, -, X48, ⟨Lc48, hQ48, lq48, yq48, zq48⟩, st48⟩ := Jvm.LawKit.callS X46 hx (y := (⟨"com/example/loomsand/loomsand/ParentRowsTotalPinLaw", "count", "(Lcom/example/loomsand/loomsand/Draws;JJJJ)J"⟩ : MethodName)) hown (mvT hZ (hw _ (List.mem_of_getElem? (i := 31) rfl))) (mvT hZ (hw _ (List.mem_of_getElem? (i := 32) rfl))) (mvT hZ (hw _ (List.mem_of_getElem? (i := 33) rfl))) (mvT hZ (hw _ (List.mem_of_getElem? (i := 34) rfl))) (by decide) (backOf (W := 0) (own_rm6 l Z a0 hw [] b42 q1 (1 : Int64) (own_min q2 q3) (own_max q2 q3) q1 (0 : Int64) zz_46 T46.heap n0 Z47 G46_0 G46_1 G46_2 G46_3 gt_b42 (own_mm _ _ : ¬ ((own_max q2 q3) < (own_min q2 q3)))) hZ (hw _ (List.mem_of_getElem? (i := 34) rfl)) (hw _ (List.mem_of_getElem? (i := 33) rfl)) (by decide) (by decide)) (g := (mkF m 53 #[.val (.long q1), .second, .val (.long q2), .second, .val (.long q3), .second, .val (.int v4), .val (.long q5), .second, .val (.int v6), .val (.long (own_min q2 q3)), .second, .val (.long (own_max q2 q3)), .second, .val (.long (1 : Int64)), .second, .val (.ref b42), .val (.long (own_btw (own_min q2 q3) (own_max q2 q3) ((own_mix (q1 + ((0 : Int64) * (-7046029254386353131 : Int64)))) + (-7046029254386353131 : Int64)))), .second, .unset, .unset, .unset, .unset, .unset, .unset, .unset, .unset, .unset, .unset, .unset, .unset] [(.long (own_max q2 q3)), (.long (own_min q2 q3)), (.long (1 : Int64)), (.long q1), (.ref b42)])) rfl (by rw [hml]; rfl) (argsL := [(.ref b42), (.long q1), (.long (1 : Int64)), (.long (own_min q2 q3)), (.long (own_max q2 q3))]) (rest := []) (lenOf own_pd7 rfl) rfl (by show 2 * 0 + _ ≤ _; exact Nat.le_of_eq rfl) (hb hby at_53) (fun _ _ => ⟨rfl, rfl, (by decide : 3 + 0 ≤ _), (by decide : 9 + 0 ≤ _)⟩)
    dsimp only [Pt.U, Pt.locs, Pt.cells, Pt.slots] at X48 lq48 yq48 zq48 st48 hQ48
    subst lq48 yq48 zq48
    obtain ⟨zz_48, rfl, Nq48, Kp48, G48_0, G48_1, G48_2, G48_3⟩ := hQ48
    have N48 := Fr.app N46 Nq48
    have Z49 := Nat.le_trans Z47 Kp48.1
    refine own_st (G' := T48.setTop (mkF m 56 #[.val (.long q1), .second, .val (.long q2), .second, .val (.long q3), .second, .val (.int v4), .val (.long q5), .second, .val (.int v6), .val (.long (own_min q2 q3)), .second, .val (.long (own_max q2 q3)), .second, .val (.long (1 : Int64)), .second, .val (.ref b42), .val (.long (own_btw (own_min q2 q3) (own_max q2 q3) ((own_mix (q1 + ((0 : Int64) * (-7046029254386353131 : Int64)))) + (-7046029254386353131 : Int64)))), .second, .unset, .unset, .unset, .unset, .unset, .unset, .unset, .unset, .unset, .unset, .unset, .unset] [(.long (own_btw (own_min q2 q3) (own_max q2 q3) ((own_mix (q1 + ((1 : Int64) * (-7046029254386353131 : Int64)))) + (-7046029254386353131 : Int64))))])) st48 ?_
    refine own_lstore X48 hx 58 #[.val (.long q1), .second, .val (.long q2), .second, .val (.long q3), .second, .val (.int v4), .val (.long q5), .second, .val (.int v6), .val (.long (own_min q2 q3)), .second, .val (.long (own_max q2 q3)), .second, .val (.long (1 : Int64)), .second, .val (.ref b42), .val (.long (own_btw (own_min q2 q3) (own_max q2 q3) ((own_mix (q1 + ((0 : Int64) * (-7046029254386353131 : Int64)))) + (-7046029254386353131 : Int64)))), .second, .val (.long (own_btw (own_min q2 q3) (own_max q2 q3) ((own_mix (q1 + ((1 : Int64) * (-7046029254386353131 : Int64)))) + (-7046029254386353131 : Int64)))), .second, .unset, .unset, .unset, .unset, .unset, .unset, .unset, .unset, .unset, .unset] (hb hby at_56) rfl ?_
    refine own_aload X48 hx 60 (hb hby at_58) rfl rfl ?_
    refine own_lloadN X48 hx 61 (hb hby at_60) rfl ?_
    refine own_ldcL X48 hx 64 hown (mvT hZ (hw _ (List.mem_of_getElem? (i := 74) rfl))) (hb hby at_61) ?_
    refine own_lload X48 hx 66 (hb hby at_64) rfl ?_
    refine own_lload X48 hx 68 (hb hby at_66) rfl ?_
    obtain ⟨_, _, ⟨T50, Lx50, kc50, nc50⟩, -, X50, ⟨Lc50, hQ50, lq50, yq50, zq50⟩, st50⟩ := Jvm.LawKit.callS X48 hx (y := (⟨"com/example/loomsand/loomsand/ParentRowsTotalPinLaw", "count", "(Lcom/example/loomsand/loomsand/Draws;JJJJ)J"⟩ : MethodName)) hown (mvT hZ (hw _ (List.mem_of_getElem? (i := 31) rfl))) (mvT hZ (hw _ (List.mem_of_getElem? (i := 32) rfl))) (mvT hZ (hw _ (List.mem_of_getElem? (i := 33) rfl))) (mvT hZ (hw _ (List.mem_of_getElem? (i := 34) rfl))) (by decide) (backOf (W := 0) (own_rm6 l Z a0 hw [] b42 q1 (2 : Int64) (own_min q2 q3) (own_max q2 q3) q1 (1 : Int64) zz_48 T48.heap n0 Z49 G48_0 G48_1 G48_2 G48_3 gt_b42 (own_mm _ _ : ¬ ((own_max q2 q3) < (own_min q2 q3)))) hZ (hw _ (List.mem_of_getElem? (i := 34) rfl)) (hw _ (List.mem_of_getElem? (i := 33) rfl)) (by decide) (by decide)) (g := (mkF m 68 #[.val (.long q1), .second, .val (.long q2), .second, .val (.long q3), .second, .val (.int v4), .val (.long q5), .second, .val (.int v6), .val (.long (own_min q2 q3)), .second, .val (.long (own_max q2 q3)), .second, .val (.long (1 : Int64)), .second, .val (.ref b42), .val (.long (own_btw (own_min q2 q3) (own_max q2 q3) ((own_mix (q1 + ((0 : Int64) * (-7046029254386353131 : Int64)))) + (-7046029254386353131 : Int64)))), .second, .val (.long (own_btw (own_min q2 q3) (own_max q2 q3) ((own_mix (q1 + ((1 : Int64) * (-7046029254386353131 : Int64)))) + (-7046029254386353131 : Int64)))), .second, .unset, .unset, .unset, .unset, .unset, .unset, .unset, .unset, .unset, .unset] [(.long (own_max q2 q3)), (.long (own_min q2 q3)), (.long (2 : Int64)), (.long q1), (.ref b42)])) rfl (by rw [hml]; rfl) (argsL := [(.ref b42), (.long q1), (.long (2 : Int64)), (.long (own_min q2 q3)), (.long (own_max q2 q3))]) (rest := []) (lenOf own_pd7 rfl) rfl (by show 2 * 0 + _ ≤ _; exact Nat.le_of_eq rfl) (hb hby at_68) (fun _ _ => ⟨rfl, rfl, (by decide : 3 + 0 ≤ _), (by decide : 9 + 0 ≤ _)⟩)
    dsimp only [Pt.U, Pt.locs, Pt.cells, Pt.slots] at X50 lq50 yq50 zq50 st50 hQ50
    subst lq50 yq50 zq50
    obtain ⟨zz_50, rfl, Nq50, Kp50, G50_0, G50_1, G50_2, G50_3⟩ := hQ50
    have N50 := Fr.app N48 Nq50
    have Z51 := Nat.le_trans Z49 Kp50.1
    refine own_st (G' := T50.setTop (mkF m 71 #[.val (.long q1), .second, .val (.long q2), .second, .val (.long q3), .second, .val (.int v4), .val (.long q5), .second, .val (.int v6), .val (.long (own_min q2 q3)), .second, .val (.long (own_max q2 q3)), .second, .val (.long (1 : Int64)), .second, .val (.ref b42), .val (.long (own_btw (own_min q2 q3) (own_max q2 q3) ((own_mix (q1 + ((0 : Int64) * (-7046029254386353131 : Int64)))) + (-7046029254386353131 : Int64)))), .second, .val (.long (own_btw (own_min q2 q3) (own_max q2 q3) ((own_mix (q1 + ((1 : Int64) * (-7046029254386353131 : Int64)))) + (-7046029254386353131 : Int64)))), .second, .unset, .unset, .unset, .unset, .unset, .unset, .unset, .unset, .unset, .unset] [(.long (own_btw (own_min q2 q3) (own_max q2 q3) ((own_mix (q1 + ((2 : Int64) * (-7046029254386353131 : Int64)))) + (-7046029254386353131 : Int64))))])) st50 ?_
    refine own_lstore X50 hx 73 #[.val (.long q1), .second, .val (.long q2), .second, .val (.long q3), .second, .val (.int v4), .val (.long q5), .second, .val (.int v6), .val (.long (own_min q2 q3)), .second, .val (.long (own_max q2 q3)), .second, .val (.long (1 : Int64)), .second, .val (.ref b42), .val (.long (own_btw (own_min q2 q3) (own_max q2 q3) ((own_mix (q1 + ((0 : Int64) * (-7046029254386353131 : Int64)))) + (-7046029254386353131 : Int64)))), .second, .val (.long (own_btw (own_min q2 q3) (own_max q2 q3) ((own_mix (q1 + ((1 : Int64) * (-7046029254386353131 : Int64)))) + (-7046029254386353131 : Int64)))), .second, .val (.long (own_btw (own_min q2 q3) (own_max q2 q3) ((own_mix (q1 + ((2 : Int64) * (-7046029254386353131 : Int64)))) + (-7046029254386353131 : Int64)))), .second, .unset, .unset, .unset, .unset, .unset, .unset, .unset, .unset] (hb hby at_71) rfl ?_
    refine own_lconst X50 hx 74 (0 : Int64) (hb hby at_73) rfl ?_
    refine own_lstore X50 hx 76 #[.val (.long q1), .second, .val (.long q2), .second, .val (.long q3), .second, .val (.int v4), .val (.long q5), .second, .val (.int v6), .val (.long (own_min q2 q3)), .second, .val (.long (own_max q2 q3)), .second, .val (.long (1 : Int64)), .second, .val (.ref b42), .val (.long (own_btw (own_min q2 q3) (own_max q2 q3) ((own_mix (q1 + ((0 : Int64) * (-7046029254386353131 : Int64)))) + (-7046029254386353131 : Int64)))), .second, .val (.long (own_btw (own_min q2 q3) (own_max q2 q3) ((own_mix (q1 + ((1 : Int64) * (-7046029254386353131 : Int64)))) + (-7046029254386353131 : Int64)))), .second, .val (.long (own_btw (own_min q2 q3) (own_max q2 q3) ((own_mix (q1 + ((2 : Int64) * (-7046029254386353131 : Int64)))) + (-7046029254386353131 : Int64)))), .second, .val (.long (0 : Int64)), .second, .unset, .unset, .unset, .unset, .unset, .unset] (hb hby at_74) rfl ?_
    refine own_lload X50 hx 78 (hb hby at_76) rfl ?_
    refine own_lconst X50 hx 79 (1 : Int64) (hb hby at_78) rfl ?_
    refine own_lcmp X50 hx 80 (hb hby at_79) ?_
    refine own_ifNo X50 hx 83 (hb hby at_80) (flt (mt (lw_lt _ _).mp (by decide : ¬ ((1 : Int64) < (1 : Int64))))).1 ?_
    refine own_lload X50 hx 85 (hb hby at_83) rfl ?_
    refine own_lload X50 hx 87 (hb hby at_85) rfl ?_
    refine own_ladd X50 hx 88 (hb hby at_87) ?_
    refine own_lstore X50 hx 90 #[.val (.long q1), .second, .val (.long q2), .second, .val (.long q3), .second, .val (.int v4), .val (.long q5), .second, .val (.int v6), .val (.long (own_min q2 q3)), .second, .val (.long (own_max q2 q3)), .second, .val (.long (1 : Int64)), .second, .val (.ref b42), .val (.long (own_btw (own_min q2 q3) (own_max q2 q3) ((own_mix (q1 + ((0 : Int64) * (-7046029254386353131 : Int64)))) + (-7046029254386353131 : Int64)))), .second, .val (.long (own_btw (own_min q2 q3) (own_max q2 q3) ((own_mix (q1 + ((1 : Int64) * (-7046029254386353131 : Int64)))) + (-7046029254386353131 : Int64)))), .second, .val (.long (own_btw (own_min q2 q3) (own_max q2 q3) ((own_mix (q1 + ((2 : Int64) * (-7046029254386353131 : Int64)))) + (-7046029254386353131 : Int64)))), .second, .val (.long ((0 : Int64) + (own_btw (own_min q2 q3) (own_max q2 q3) ((own_mix (q1 + ((0 : Int64) * (-7046029254386353131 : Int64)))) + (-7046029254386353131 : Int64))))), .second, .unset, .unset, .unset, .unset, .unset, .unset] (hb hby at_88) rfl ?_
    refine own_lload X50 hx 92 (hb hby at_90) rfl ?_
    refine own_ldcL X50 hx 95 hown (mvT hZ (hw _ (List.mem_of_getElem? (i := 74) rfl))) (hb hby at_92) ?_
    refine own_lcmp X50 hx 96 (hb hby at_95) ?_
    refine own_ifYes X50 hx 106 (hb hby at_96) (tlt ((lw_lt _ _).mpr (by decide : (1 : Int64) < (2 : Int64)))).1 ?_
    refine own_lload X50 hx 108 (hb hby at_106) rfl ?_
    refine own_ldcL X50 hx 111 hown (mvT hZ (hw _ (List.mem_of_getElem? (i := 75) rfl))) (hb hby at_108) ?_
    refine own_lcmp X50 hx 112 (hb hby at_111) ?_
    refine own_ifYes X50 hx 122 (hb hby at_112) (tlt ((lw_lt _ _).mpr (by decide : (1 : Int64) < (3 : Int64)))).1 ?_
    obtain ⟨T52, h52, X52, e52, E52, A52, D52, -, st52⟩ := newO X50 hx hZ hown (hw _ (List.mem_of_getElem? (i := 76) rfl)) (hw _ (List.mem_of_getElem? (i := 77) rfl)) (hw _ (List.mem_of_getElem? (i := 78) rfl)) rfl (g := (mkF m 122 #[.val (.long q1), .second, .val (.long q2), .second, .val (.long q3), .second, .val (.int v4), .val (.long q5), .second, .val (.int v6), .val (.long (own_min q2 q3)), .second, .val (.long (own_max q2 q3)), .second, .val (.long (1 : Int64)), .second, .val (.ref b42), .val (.long (own_btw (own_min q2 q3) (own_max q2 q3) ((own_mix (q1 + ((0 : Int64) * (-7046029254386353131 : Int64)))) + (-7046029254386353131 : Int64)))), .second, .val (.long (own_btw (own_min q2 q3) (own_max q2 q3) ((own_mix (q1 + ((1 : Int64) * (-7046029254386353131 : Int64)))) + (-7046029254386353131 : Int64)))), .second, .val (.long (own_btw (own_min q2 q3) (own_max q2 q3) ((own_mix (q1 + ((2 : Int64) * (-7046029254386353131 : Int64)))) + (-7046029254386353131 : Int64)))), .second, .val (.long ((0 : Int64) + (own_btw (own_min q2 q3) (own_max q2 q3) ((own_mix (q1 + ((0 : Int64) * (-7046029254386353131 : Int64)))) + (-7046029254386353131 : Int64))))), .second, .unset, .unset, .unset, .unset, .unset, .unset] [])) rfl (hb hby at_122) (by decide) (by decide)
    obtain ⟨b52, g52⟩ : ∃ z, z = T50.heap.size := ⟨_, rfl⟩
    rw [← g52] at A52 D52 st52
    have ne53 : b42 ≠ b52 := Nat.ne_of_lt (Nat.lt_of_lt_of_le G50_0.lt (Nat.le_of_eq g52.symm))
    have gt_b52 : n0 ≤ b52 := Nat.le_trans Z51 (Nat.le_of_eq g52.symm)
    have Z54 := Nat.le_trans Z51 E52.1
    have F52_draws : Fld Z h52 b52 "com/example/loomsand/loomsand/ParentRows" "draws" "Lcom/example/loomsand/loomsand/Draws;" .null := D52 (Or.inr (hw _ (List.mem_of_getElem? (i := 86) rfl))) (ty := (.object "com/example/loomsand/loomsand/Draws")) (by decide)
    have F52_key : Fld Z h52 b52 "com/example/loomsand/loomsand/ParentRows" "key" "J" (.long (0 : Int64)) := D52 (Or.inr (hw _ (List.mem_of_getElem? (i := 88) rfl))) (ty := .long) (by decide)
    have F52_min : Fld Z h52 b52 "com/example/loomsand/loomsand/ParentRows" "min" "J" (.long (0 : Int64)) := D52 (Or.inr (hw _ (List.mem_of_getElem? (i := 90) rfl))) (ty := .long) (by decide)
    have F52_max : Fld Z h52 b52 "com/example/loomsand/loomsand/ParentRows" "max" "J" (.long (0 : Int64)) := D52 (Or.inr (hw _ (List.mem_of_getElem? (i := 92) rfl))) (ty := .long) (by decide)
    have F52_block : Fld Z h52 b52 "com/example/loomsand/loomsand/ParentRows" "block" "J" (.long (0 : Int64)) := D52 (Or.inr (hw _ (List.mem_of_getElem? (i := 97) rfl))) (ty := .long) (by decide)
    have F52_starts : Fld Z h52 b52 "com/example/loomsand/loomsand/ParentRows" "starts" "[J" .null := D52 (Or.inr (hw _ (List.mem_of_getElem? (i := 100) rfl))) (ty := (.array .long)) (by decide)
    refine own_st (G' := T52.setTop (mkF m 125 #[.val (.long q1), .second, .val (.long q2), .second, .val (.long q3), .second, .val (.int v4), .val (.long q5), .second, .val (.int v6), .val (.long (own_min q2 q3)), .second, .val (.long (own_max q2 q3)), .second, .val (.long (1 : Int64)), .second, .val (.ref b42), .val (.long (own_btw (own_min q2 q3) (own_max q2 q3) ((own_mix (q1 + ((0 : Int64) * (-7046029254386353131 : Int64)))) + (-7046029254386353131 : Int64)))), .second, .val (.long (own_btw (own_min q2 q3) (own_max q2 q3) ((own_mix (q1 + ((1 : Int64) * (-7046029254386353131 : Int64)))) + (-7046029254386353131 : Int64)))), .second, .val (.long (own_btw (own_min q2 q3) (own_max q2 q3) ((own_mix (q1 + ((2 : Int64) * (-7046029254386353131 : Int64)))) + (-7046029254386353131 : Int64)))), .second, .val (.long ((0 : Int64) + (own_btw (own_min q2 q3) (own_max q2 q3) ((own_mix (q1 + ((0 : Int64) * (-7046029254386353131 : Int64)))) + (-7046029254386353131 : Int64))))), .second, .unset, .unset, .unset, .unset, .unset, .unset] [(.ref b52)])) st52 ?_
    refine own_dup X52 hx 126 (hb hby at_125) rfl ?_
    refine own_lloadN X52 hx 127 (hb hby at_126) rfl ?_
    refine own_lload X52 hx 129 (hb hby at_127) rfl ?_
    refine own_lload X52 hx 131 (hb hby at_129) rfl ?_
    refine own_lload X52 hx 133 (hb hby at_131) rfl ?_
    obtain ⟨_, _, ⟨T55, Lx55, kc55, nc55⟩, -, X55, ⟨Lc55, hQ55, lq55, yq55, zq55⟩, st55⟩ := X52.specialBack hx (y := (⟨"com/example/loomsand/loomsand/ParentRows", "<init>", "(JJJJ)V"⟩ : MethodName)) rfl hown (mvT hZ (hw _ (List.mem_of_getElem? (i := 79) rfl))) (mvT hZ (hw _ (List.mem_of_getElem? (i := 80) rfl))) (mvT hZ (hw _ (List.mem_of_getElem? (i := 81) rfl))) (by decide) (backOf (W := 1) (own_rm14 l Z a0 hw [] b52 q1 (1 : Int64) (own_min q2 q3) (own_max q2 q3) h52 n0 Z54 A52 F52_draws F52_key F52_min F52_max F52_block F52_starts gt_b52 (own_mm _ _ : ¬ ((own_max q2 q3) < (own_min q2 q3))) (by decide : 0 ≤ (1 : Int64).toInt ∧ (1 : Int64).toInt ≤ 511)) hZ (hw _ (List.mem_of_getElem? (i := 81) rfl)) (hw _ (List.mem_of_getElem? (i := 78) rfl)) (by decide) (by decide)) (g := (mkF m 133 #[.val (.long q1), .second, .val (.long q2), .second, .val (.long q3), .second, .val (.int v4), .val (.long q5), .second, .val (.int v6), .val (.long (own_min q2 q3)), .second, .val (.long (own_max q2 q3)), .second, .val (.long (1 : Int64)), .second, .val (.ref b42), .val (.long (own_btw (own_min q2 q3) (own_max q2 q3) ((own_mix (q1 + ((0 : Int64) * (-7046029254386353131 : Int64)))) + (-7046029254386353131 : Int64)))), .second, .val (.long (own_btw (own_min q2 q3) (own_max q2 q3) ((own_mix (q1 + ((1 : Int64) * (-7046029254386353131 : Int64)))) + (-7046029254386353131 : Int64)))), .second, .val (.long (own_btw (own_min q2 q3) (own_max q2 q3) ((own_mix (q1 + ((2 : Int64) * (-7046029254386353131 : Int64)))) + (-7046029254386353131 : Int64)))), .second, .val (.long ((0 : Int64) + (own_btw (own_min q2 q3) (own_max q2 q3) ((own_mix (q1 + ((0 : Int64) * (-7046029254386353131 : Int64)))) + (-7046029254386353131 : Int64))))), .second, .unset, .unset, .unset, .unset, .unset, .unset] [(.long (own_max q2 q3)), (.long (own_min q2 q3)), (.long (1 : Int64)), (.long q1), (.ref b52), (.ref b52)])) rfl (by rw [hml]; rfl) (Steps.refl _) (a := b52) (argsL := [(.long q1), (.long (1 : Int64)), (.long (own_min q2 q3)), (.long (own_max q2 q3))]) (rest := [(.ref b52)]) (lenOf own_pd8 rfl) rfl (by show 2 * 0 + _ ≤ _; exact Nat.le_of_eq rfl) (hb hby at_133) (fun _ _ => ⟨rfl, e52, (by decide : 4 + 4 ≤ _), (by decide : 19 + 14 ≤ _)⟩)
    dsimp only [Pt.U, Pt.locs, Pt.cells, Pt.slots] at X55 lq55 yq55 zq55 st55 hQ55
    subst lq55 yq55 zq55
    obtain ⟨bb_55, kb_55, nn_55, gg_55, rfl, Nq55, Kp55, G55_0, G55_1, G55_2, G55_3, P55_0, P55_1⟩ := hQ55
    have N55 := Fr.app N50 Nq55
    have f56 := (G50_0.ext E52)
    have ne57 : b42 ≠ bb_55 := Nat.ne_of_lt (Nat.lt_of_lt_of_le f56.lt G55_1)
    have ne58 : b52 ≠ bb_55 := Nat.ne_of_lt (Nat.lt_of_lt_of_le A52.lt G55_1)
    have gt_bb_55 : n0 ≤ bb_55 := Nat.le_trans Z54 G55_1
    have Z59 := Nat.le_trans Z54 Kp55.1
    refine own_st (G' := T55.setTop (mkF m 136 #[.val (.long q1), .second, .val (.long q2), .second, .val (.long q3), .second, .val (.int v4), .val (.long q5), .second, .val (.int v6), .val (.long (own_min q2 q3)), .second, .val (.long (own_max q2 q3)), .second, .val (.long (1 : Int64)), .second, .val (.ref b42), .val (.long (own_btw (own_min q2 q3) (own_max q2 q3) ((own_mix (q1 + ((0 : Int64) * (-7046029254386353131 : Int64)))) + (-7046029254386353131 : Int64)))), .second, .val (.long (own_btw (own_min q2 q3) (own_max q2 q3) ((own_mix (q1 + ((1 : Int64) * (-7046029254386353131 : Int64)))) + (-7046029254386353131 : Int64)))), .second, .val (.long (own_btw (own_min q2 q3) (own_max q2 q3) ((own_mix (q1 + ((2 : Int64) * (-7046029254386353131 : Int64)))) + (-7046029254386353131 : Int64)))), .second, .val (.long ((0 : Int64) + (own_btw (own_min q2 q3) (own_max q2 q3) ((own_mix (q1 + ((0 : Int64) * (-7046029254386353131 : Int64)))) + (-7046029254386353131 : Int64))))), .second, .unset, .unset, .unset, .unset, .unset, .unset] [(.ref b52)])) (fun t k => st55.trans k) ?_
    refine own_astore X55 hx 138 #[.val (.long q1), .second, .val (.long q2), .second, .val (.long q3), .second, .val (.int v4), .val (.long q5), .second, .val (.int v6), .val (.long (own_min q2 q3)), .second, .val (.long (own_max q2 q3)), .second, .val (.long (1 : Int64)), .second, .val (.ref b42), .val (.long (own_btw (own_min q2 q3) (own_max q2 q3) ((own_mix (q1 + ((0 : Int64) * (-7046029254386353131 : Int64)))) + (-7046029254386353131 : Int64)))), .second, .val (.long (own_btw (own_min q2 q3) (own_max q2 q3) ((own_mix (q1 + ((1 : Int64) * (-7046029254386353131 : Int64)))) + (-7046029254386353131 : Int64)))), .second, .val (.long (own_btw (own_min q2 q3) (own_max q2 q3) ((own_mix (q1 + ((2 : Int64) * (-7046029254386353131 : Int64)))) + (-7046029254386353131 : Int64)))), .second, .val (.long ((0 : Int64) + (own_btw (own_min q2 q3) (own_max q2 q3) ((own_mix (q1 + ((0 : Int64) * (-7046029254386353131 : Int64)))) + (-7046029254386353131 : Int64))))), .second, .val (.ref b52), .unset, .unset, .unset, .unset, .unset] (hb hby at_136) rfl rfl ?_
    refine own_aload X55 hx 140 (hb hby at_138) rfl rfl ?_
    obtain ⟨cq60, kq60, q60a, q60b, q60c⟩ := isOf hZ rfl G55_0
    obtain ⟨_, _, ⟨T60, Lx60, kc60, nc60⟩, -, X60, ⟨Lc60, hQ60, lq60, yq60, zq60⟩, st60⟩ := X55.virtualBack hx (y := (⟨"com/example/loomsand/loomsand/ParentRows", "total", "()J"⟩ : MethodName)) (z := (⟨"com/example/loomsand/loomsand/ParentRows", "total", "()J"⟩ : MethodName)) hown (mvT hZ (hw _ (List.mem_of_getElem? (i := 107) rfl))) (mvT hZ (hw _ (List.mem_of_getElem? (i := 108) rfl))) (notFace_of_selects (args := #[]) (mvT hZ (hw _ (List.mem_of_getElem? (i := 110) rfl)))) (mvT hZ (hw _ (List.mem_of_getElem? (i := 110) rfl))) (mvT hZ (hw _ (List.mem_of_getElem? (i := 109) rfl))) (by decide) (backOf (W := 0) (own_rm16 l Z a0 hw [] b52 bb_55 kb_55 nn_55 (own_lstJ 5 gg_55) (own_sum q1 (own_min q2 q3) (own_max q2 q3) (1 : Int64).toInt.toNat) T55.heap n0 Z59 G55_2 G55_3 (by assumption : 0 < nn_55.toInt) (by assumption : (own_lstJ 5 gg_55).getD (nn_55 - (1 : Int32)).toNatClampNeg (.long (0 : Int64)) = (.long (own_sum q1 (own_min q2 q3) (own_max q2 q3) (1 : Int64).toInt.toNat)))) hZ (hw _ (List.mem_of_getElem? (i := 111) rfl)) (hw _ (List.mem_of_getElem? (i := 78) rfl)) (by decide) (by decide)) q60a q60c (g := (mkF m 140 #[.val (.long q1), .second, .val (.long q2), .second, .val (.long q3), .second, .val (.int v4), .val (.long q5), .second, .val (.int v6), .val (.long (own_min q2 q3)), .second, .val (.long (own_max q2 q3)), .second, .val (.long (1 : Int64)), .second, .val (.ref b42), .val (.long (own_btw (own_min q2 q3) (own_max q2 q3) ((own_mix (q1 + ((0 : Int64) * (-7046029254386353131 : Int64)))) + (-7046029254386353131 : Int64)))), .second, .val (.long (own_btw (own_min q2 q3) (own_max q2 q3) ((own_mix (q1 + ((1 : Int64) * (-7046029254386353131 : Int64)))) + (-7046029254386353131 : Int64)))), .second, .val (.long (own_btw (own_min q2 q3) (own_max q2 q3) ((own_mix (q1 + ((2 : Int64) * (-7046029254386353131 : Int64)))) + (-7046029254386353131 : Int64)))), .second, .val (.long ((0 : Int64) + (own_btw (own_min q2 q3) (own_max q2 q3) ((own_mix (q1 + ((0 : Int64) * (-7046029254386353131 : Int64)))) + (-7046029254386353131 : Int64))))), .second, .val (.ref b52), .unset, .unset, .unset, .unset, .unset] [(.ref b52)])) rfl (by rw [hml]; rfl) (Steps.refl _) (argsL := []) (rest := []) (lenOf own_pd3 rfl) rfl (by show 2 * 0 + _ ≤ _; exact Nat.le_of_eq rfl) (hb hby at_140) (fun _ _ => ⟨rfl, rfl, (by decide : 8 + 0 ≤ _), (by decide : 33 + 0 ≤ _)⟩)
    dsimp only [Pt.U, Pt.locs, Pt.cells, Pt.slots] at X60 lq60 yq60 zq60 st60 hQ60
    subst lq60 yq60 zq60
    obtain ⟨rfl, Nq60, eh60⟩ := hQ60
    have N60 := Fr.app N55 Nq60
    refine own_st (G' := T60.setTop (mkF m 143 #[.val (.long q1), .second, .val (.long q2), .second, .val (.long q3), .second, .val (.int v4), .val (.long q5), .second, .val (.int v6), .val (.long (own_min q2 q3)), .second, .val (.long (own_max q2 q3)), .second, .val (.long (1 : Int64)), .second, .val (.ref b42), .val (.long (own_btw (own_min q2 q3) (own_max q2 q3) ((own_mix (q1 + ((0 : Int64) * (-7046029254386353131 : Int64)))) + (-7046029254386353131 : Int64)))), .second, .val (.long (own_btw (own_min q2 q3) (own_max q2 q3) ((own_mix (q1 + ((1 : Int64) * (-7046029254386353131 : Int64)))) + (-7046029254386353131 : Int64)))), .second, .val (.long (own_btw (own_min q2 q3) (own_max q2 q3) ((own_mix (q1 + ((2 : Int64) * (-7046029254386353131 : Int64)))) + (-7046029254386353131 : Int64)))), .second, .val (.long ((0 : Int64) + (own_btw (own_min q2 q3) (own_max q2 q3) ((own_mix (q1 + ((0 : Int64) * (-7046029254386353131 : Int64)))) + (-7046029254386353131 : Int64))))), .second, .val (.ref b52), .unset, .unset, .unset, .unset, .unset] [(.long (own_sum q1 (own_min q2 q3) (own_max q2 q3) (1 : Int64).toInt.toNat))])) (fun t k => st60.trans k) ?_
    refine own_lload X60 hx 145 (hb hby at_143) rfl ?_
    refine own_lcmp X60 hx 146 (hb hby at_145) ?_
    refine own_ifNo X60 hx 149 (hb hby at_146) (teq ((lw_eq _ _).mpr (by first | rfl | (simp only [own_sum]; rfl) : (own_sum q1 (own_min q2 q3) (own_max q2 q3) (1 : Int64).toInt.toNat) = ((0 : Int64) + (own_btw (own_min q2 q3) (own_max q2 q3) ((own_mix (q1 + ((0 : Int64) * (-7046029254386353131 : Int64)))) + (-7046029254386353131 : Int64))))))).2 ?_
    refine own_iconst X60 hx 150 (1 : Int32) (hb hby at_149) rfl ?_
    refine own_goto X60 hx 154 (hb hby at_150) ?_
    refine own_istore X60 hx 156 #[.val (.long q1), .second, .val (.long q2), .second, .val (.long q3), .second, .val (.int v4), .val (.long q5), .second, .val (.int v6), .val (.long (own_min q2 q3)), .second, .val (.long (own_max q2 q3)), .second, .val (.long (1 : Int64)), .second, .val (.ref b42), .val (.long (own_btw (own_min q2 q3) (own_max q2 q3) ((own_mix (q1 + ((0 : Int64) * (-7046029254386353131 : Int64)))) + (-7046029254386353131 : Int64)))), .second, .val (.long (own_btw (own_min q2 q3) (own_max q2 q3) ((own_mix (q1 + ((1 : Int64) * (-7046029254386353131 : Int64)))) + (-7046029254386353131 : Int64)))), .second, .val (.long (own_btw (own_min q2 q3) (own_max q2 q3) ((own_mix (q1 + ((2 : Int64) * (-7046029254386353131 : Int64)))) + (-7046029254386353131 : Int64)))), .second, .val (.long ((0 : Int64) + (own_btw (own_min q2 q3) (own_max q2 q3) ((own_mix (q1 + ((0 : Int64) * (-7046029254386353131 : Int64)))) + (-7046029254386353131 : Int64))))), .second, .val (.ref b52), .val (.int (1 : Int32)), .unset, .unset, .unset, .unset] (hb hby at_154) rfl ?_
    refine own_iload X60 hx 158 (hb hby at_156) rfl ?_
    refine own_sipush X60 hx 161 (511 : Int32) (hb hby at_158) rfl ?_
    refine own_iand X60 hx 162 (hb hby at_161) ?_
    refine own_i2l X60 hx 163 (hb hby at_162) ?_
    refine own_lstore X60 hx 165 #[.val (.long q1), .second, .val (.long q2), .second, .val (.long q3), .second, .val (.int v4), .val (.long q5), .second, .val (.int v6), .val (.long (own_min q2 q3)), .second, .val (.long (own_max q2 q3)), .second, .val (.long (1 : Int64)), .second, .val (.ref b42), .val (.long (own_btw (own_min q2 q3) (own_max q2 q3) ((own_mix (q1 + ((0 : Int64) * (-7046029254386353131 : Int64)))) + (-7046029254386353131 : Int64)))), .second, .val (.long (own_btw (own_min q2 q3) (own_max q2 q3) ((own_mix (q1 + ((1 : Int64) * (-7046029254386353131 : Int64)))) + (-7046029254386353131 : Int64)))), .second, .val (.long (own_btw (own_min q2 q3) (own_max q2 q3) ((own_mix (q1 + ((2 : Int64) * (-7046029254386353131 : Int64)))) + (-7046029254386353131 : Int64)))), .second, .val (.long ((0 : Int64) + (own_btw (own_min q2 q3) (own_max q2 q3) ((own_mix (q1 + ((0 : Int64) * (-7046029254386353131 : Int64)))) + (-7046029254386353131 : Int64))))), .second, .val (.ref b52), .val (.int (1 : Int32)), .val (.long ((v6 &&& (511 : Int32)).toInt64)), .second, .unset, .unset] (hb hby at_163) rfl ?_
    obtain ⟨T61, h61, X61, e61, E61, A61, D61, -, st61⟩ := newO X60 hx hZ hown (hw _ (List.mem_of_getElem? (i := 76) rfl)) (hw _ (List.mem_of_getElem? (i := 77) rfl)) (hw _ (List.mem_of_getElem? (i := 78) rfl)) eh60 (g := (mkF m 165 #[.val (.long q1), .second, .val (.long q2), .second, .val (.long q3), .second, .val (.int v4), .val (.long q5), .second, .val (.int v6), .val (.long (own_min q2 q3)), .second, .val (.long (own_max q2 q3)), .second, .val (.long (1 : Int64)), .second, .val (.ref b42), .val (.long (own_btw (own_min q2 q3) (own_max q2 q3) ((own_mix (q1 + ((0 : Int64) * (-7046029254386353131 : Int64)))) + (-7046029254386353131 : Int64)))), .second, .val (.long (own_btw (own_min q2 q3) (own_max q2 q3) ((own_mix (q1 + ((1 : Int64) * (-7046029254386353131 : Int64)))) + (-7046029254386353131 : Int64)))), .second, .val (.long (own_btw (own_min q2 q3) (own_max q2 q3) ((own_mix (q1 + ((2 : Int64) * (-7046029254386353131 : Int64)))) + (-7046029254386353131 : Int64)))), .second, .val (.long ((0 : Int64) + (own_btw (own_min q2 q3) (own_max q2 q3) ((own_mix (q1 + ((0 : Int64) * (-7046029254386353131 : Int64)))) + (-7046029254386353131 : Int64))))), .second, .val (.ref b52), .val (.int (1 : Int32)), .val (.long ((v6 &&& (511 : Int32)).toInt64)), .second, .unset, .unset] [])) rfl (hb hby at_165) (by decide) (by decide)
    obtain ⟨b61, g61⟩ : ∃ z, z = T55.heap.size := ⟨_, rfl⟩
    rw [← g61] at A61 D61 st61
    have f62 := (f56.keep Kp55)
    have ne63 : b42 ≠ b61 := Nat.ne_of_lt (Nat.lt_of_lt_of_le f62.lt (Nat.le_of_eq g61.symm))
    have ne64 : b52 ≠ b61 := Nat.ne_of_lt (Nat.lt_of_lt_of_le G55_0.lt (Nat.le_of_eq g61.symm))
    have ne65 : bb_55 ≠ b61 := Nat.ne_of_lt (Nat.lt_of_lt_of_le G55_3.lt (Nat.le_of_eq g61.symm))
    have gt_b61 : n0 ≤ b61 := Nat.le_trans Z59 (Nat.le_of_eq g61.symm)
    have Z66 := Nat.le_trans Z59 E61.1
    have F61_draws : Fld Z h61 b61 "com/example/loomsand/loomsand/ParentRows" "draws" "Lcom/example/loomsand/loomsand/Draws;" .null := D61 (Or.inr (hw _ (List.mem_of_getElem? (i := 86) rfl))) (ty := (.object "com/example/loomsand/loomsand/Draws")) (by decide)
    have F61_key : Fld Z h61 b61 "com/example/loomsand/loomsand/ParentRows" "key" "J" (.long (0 : Int64)) := D61 (Or.inr (hw _ (List.mem_of_getElem? (i := 88) rfl))) (ty := .long) (by decide)
    have F61_min : Fld Z h61 b61 "com/example/loomsand/loomsand/ParentRows" "min" "J" (.long (0 : Int64)) := D61 (Or.inr (hw _ (List.mem_of_getElem? (i := 90) rfl))) (ty := .long) (by decide)
    have F61_max : Fld Z h61 b61 "com/example/loomsand/loomsand/ParentRows" "max" "J" (.long (0 : Int64)) := D61 (Or.inr (hw _ (List.mem_of_getElem? (i := 92) rfl))) (ty := .long) (by decide)
    have F61_block : Fld Z h61 b61 "com/example/loomsand/loomsand/ParentRows" "block" "J" (.long (0 : Int64)) := D61 (Or.inr (hw _ (List.mem_of_getElem? (i := 97) rfl))) (ty := .long) (by decide)
    have F61_starts : Fld Z h61 b61 "com/example/loomsand/loomsand/ParentRows" "starts" "[J" .null := D61 (Or.inr (hw _ (List.mem_of_getElem? (i := 100) rfl))) (ty := (.array .long)) (by decide)
    refine own_st (G' := T61.setTop (mkF m 168 #[.val (.long q1), .second, .val (.long q2), .second, .val (.long q3), .second, .val (.int v4), .val (.long q5), .second, .val (.int v6), .val (.long (own_min q2 q3)), .second, .val (.long (own_max q2 q3)), .second, .val (.long (1 : Int64)), .second, .val (.ref b42), .val (.long (own_btw (own_min q2 q3) (own_max q2 q3) ((own_mix (q1 + ((0 : Int64) * (-7046029254386353131 : Int64)))) + (-7046029254386353131 : Int64)))), .second, .val (.long (own_btw (own_min q2 q3) (own_max q2 q3) ((own_mix (q1 + ((1 : Int64) * (-7046029254386353131 : Int64)))) + (-7046029254386353131 : Int64)))), .second, .val (.long (own_btw (own_min q2 q3) (own_max q2 q3) ((own_mix (q1 + ((2 : Int64) * (-7046029254386353131 : Int64)))) + (-7046029254386353131 : Int64)))), .second, .val (.long ((0 : Int64) + (own_btw (own_min q2 q3) (own_max q2 q3) ((own_mix (q1 + ((0 : Int64) * (-7046029254386353131 : Int64)))) + (-7046029254386353131 : Int64))))), .second, .val (.ref b52), .val (.int (1 : Int32)), .val (.long ((v6 &&& (511 : Int32)).toInt64)), .second, .unset, .unset] [(.ref b61)])) st61 ?_
    refine own_dup X61 hx 169 (hb hby at_168) rfl ?_
    refine own_lloadN X61 hx 170 (hb hby at_169) rfl ?_
    refine own_lload X61 hx 172 (hb hby at_170) rfl ?_
    refine own_lload X61 hx 174 (hb hby at_172) rfl ?_
    refine own_lload X61 hx 176 (hb hby at_174) rfl ?_
    obtain ⟨_, _, ⟨T67, Lx67, kc67, nc67⟩, -, X67, ⟨Lc67, hQ67, lq67, yq67, zq67⟩, st67⟩ := X61.specialBack hx (y := (⟨"com/example/loomsand/loomsand/ParentRows", "<init>", "(JJJJ)V"⟩ : MethodName)) rfl hown (mvT hZ (hw _ (List.mem_of_getElem? (i := 79) rfl))) (mvT hZ (hw _ (List.mem_of_getElem? (i := 80) rfl))) (mvT hZ (hw _ (List.mem_of_getElem? (i := 81) rfl))) (by decide) (backOf (W := 1) (own_rm14 l Z a0 hw [] b61 q1 ((v6 &&& (511 : Int32)).toInt64) q5 q5 h61 n0 Z66 A61 F61_draws F61_key F61_min F61_max F61_block F61_starts gt_b61 (own_nlt _ : ¬ (q5 < q5)) (own_511 _ : 0 ≤ ((v6 &&& (511 : Int32)).toInt64).toInt ∧ ((v6 &&& (511 : Int32)).toInt64).toInt ≤ 511)) hZ (hw _ (List.mem_of_getElem? (i := 81) rfl)) (hw _ (List.mem_of_getElem? (i := 78) rfl)) (by decide) (by decide)) (g := (mkF m 176 #[.val (.long q1), .second, .val (.long q2), .second, .val (.long q3), .second, .val (.int v4), .val (.long q5), .second, .val (.int v6), .val (.long (own_min q2 q3)), .second, .val (.long (own_max q2 q3)), .second, .val (.long (1 : Int64)), .second, .val (.ref b42), .val (.long (own_btw (own_min q2 q3) (own_max q2 q3) ((own_mix (q1 + ((0 : Int64) * (-7046029254386353131 : Int64)))) + (-7046029254386353131 : Int64)))), .second, .val (.long (own_btw (own_min q2 q3) (own_max q2 q3) ((own_mix (q1 + ((1 : Int64) * (-7046029254386353131 : Int64)))) + (-7046029254386353131 : Int64)))), .second, .val (.long (own_btw (own_min q2 q3) (own_max q2 q3) ((own_mix (q1 + ((2 : Int64) * (-7046029254386353131 : Int64)))) + (-7046029254386353131 : Int64)))), .second, .val (.long ((0 : Int64) + (own_btw (own_min q2 q3) (own_max q2 q3) ((own_mix (q1 + ((0 : Int64) * (-7046029254386353131 : Int64)))) + (-7046029254386353131 : Int64))))), .second, .val (.ref b52), .val (.int (1 : Int32)), .val (.long ((v6 &&& (511 : Int32)).toInt64)), .second, .unset, .unset] [(.long q5), (.long q5), (.long ((v6 &&& (511 : Int32)).toInt64)), (.long q1), (.ref b61), (.ref b61)])) rfl (by rw [hml]; rfl) (Steps.refl _) (a := b61) (argsL := [(.long q1), (.long ((v6 &&& (511 : Int32)).toInt64)), (.long q5), (.long q5)]) (rest := [(.ref b61)]) (lenOf own_pd8 rfl) rfl (by show 2 * 0 + _ ≤ _; exact Nat.le_of_eq rfl) (hb hby at_176) (fun _ _ => ⟨rfl, e61, (by decide : 9 + 4 ≤ _), (by decide : 43 + 14 ≤ _)⟩)
    dsimp only [Pt.U, Pt.locs, Pt.cells, Pt.slots] at X67 lq67 yq67 zq67 st67 hQ67
    subst lq67 yq67 zq67
    obtain ⟨bb_67, kb_67, nn_67, gg_67, rfl, Nq67, Kp67, G67_0, G67_1, G67_2, G67_3, P67_0, P67_1⟩ := hQ67
    have N67 := Fr.app N60 Nq67
    have f68 := (f62.ext E61)
    have ne69 : b42 ≠ bb_67 := Nat.ne_of_lt (Nat.lt_of_lt_of_le f68.lt G67_1)
    have f70 := (G55_0.ext E61)
    have ne71 : b52 ≠ bb_67 := Nat.ne_of_lt (Nat.lt_of_lt_of_le f70.lt G67_1)
    have f72 := (G55_3.ext E61)
    have ne73 : bb_55 ≠ bb_67 := Nat.ne_of_lt (Nat.lt_of_lt_of_le f72.lt G67_1)
    have ne74 : b61 ≠ bb_67 := Nat.ne_of_lt (Nat.lt_of_lt_of_le A61.lt G67_1)
    have gt_bb_67 : n0 ≤ bb_67 := Nat.le_trans Z66 G67_1
    have Z75 := Nat.le_trans Z66 Kp67.1
    refine own_st (G' := T67.setTop (mkF m 179 #[.val (.long q1), .second, .val (.long q2), .second, .val (.long q3), .second, .val (.int v4), .val (.long q5), .second, .val (.int v6), .val (.long (own_min q2 q3)), .second, .val (.long (own_max q2 q3)), .second, .val (.long (1 : Int64)), .second, .val (.ref b42), .val (.long (own_btw (own_min q2 q3) (own_max q2 q3) ((own_mix (q1 + ((0 : Int64) * (-7046029254386353131 : Int64)))) + (-7046029254386353131 : Int64)))), .second, .val (.long (own_btw (own_min q2 q3) (own_max q2 q3) ((own_mix (q1 + ((1 : Int64) * (-7046029254386353131 : Int64)))) + (-7046029254386353131 : Int64)))), .second, .val (.long (own_btw (own_min q2 q3) (own_max q2 q3) ((own_mix (q1 + ((2 : Int64) * (-7046029254386353131 : Int64)))) + (-7046029254386353131 : Int64)))), .second, .val (.long ((0 : Int64) + (own_btw (own_min q2 q3) (own_max q2 q3) ((own_mix (q1 + ((0 : Int64) * (-7046029254386353131 : Int64)))) + (-7046029254386353131 : Int64))))), .second, .val (.ref b52), .val (.int (1 : Int32)), .val (.long ((v6 &&& (511 : Int32)).toInt64)), .second, .unset, .unset] [(.ref b61)])) (fun t k => st67.trans k) ?_
    refine own_astore X67 hx 181 #[.val (.long q1), .second, .val (.long q2), .second, .val (.long q3), .second, .val (.int v4), .val (.long q5), .second, .val (.int v6), .val (.long (own_min q2 q3)), .second, .val (.long (own_max q2 q3)), .second, .val (.long (1 : Int64)), .second, .val (.ref b42), .val (.long (own_btw (own_min q2 q3) (own_max q2 q3) ((own_mix (q1 + ((0 : Int64) * (-7046029254386353131 : Int64)))) + (-7046029254386353131 : Int64)))), .second, .val (.long (own_btw (own_min q2 q3) (own_max q2 q3) ((own_mix (q1 + ((1 : Int64) * (-7046029254386353131 : Int64)))) + (-7046029254386353131 : Int64)))), .second, .val (.long (own_btw (own_min q2 q3) (own_max q2 q3) ((own_mix (q1 + ((2 : Int64) * (-7046029254386353131 : Int64)))) + (-7046029254386353131 : Int64)))), .second, .val (.long ((0 : Int64) + (own_btw (own_min q2 q3) (own_max q2 q3) ((own_mix (q1 + ((0 : Int64) * (-7046029254386353131 : Int64)))) + (-7046029254386353131 : Int64))))), .second, .val (.ref b52), .val (.int (1 : Int32)), .val (.long ((v6 &&& (511 : Int32)).toInt64)), .second, .val (.ref b61), .unset] (hb hby at_179) rfl rfl ?_
    refine own_aload X67 hx 183 (hb hby at_181) rfl rfl ?_
    obtain ⟨cq76, kq76, q76a, q76b, q76c⟩ := isOf hZ rfl G67_0
    obtain ⟨_, _, ⟨T76, Lx76, kc76, nc76⟩, -, X76, ⟨Lc76, hQ76, lq76, yq76, zq76⟩, st76⟩ := X67.virtualBack hx (y := (⟨"com/example/loomsand/loomsand/ParentRows", "total", "()J"⟩ : MethodName)) (z := (⟨"com/example/loomsand/loomsand/ParentRows", "total", "()J"⟩ : MethodName)) hown (mvT hZ (hw _ (List.mem_of_getElem? (i := 107) rfl))) (mvT hZ (hw _ (List.mem_of_getElem? (i := 108) rfl))) (notFace_of_selects (args := #[]) (mvT hZ (hw _ (List.mem_of_getElem? (i := 110) rfl)))) (mvT hZ (hw _ (List.mem_of_getElem? (i := 110) rfl))) (mvT hZ (hw _ (List.mem_of_getElem? (i := 109) rfl))) (by decide) (backOf (W := 0) (own_rm16 l Z a0 hw [] b61 bb_67 kb_67 nn_67 (own_lstJ 5 gg_67) (own_sum q1 q5 q5 ((v6 &&& (511 : Int32)).toInt64).toInt.toNat) T67.heap n0 Z75 G67_2 G67_3 (by assumption : 0 < nn_67.toInt) (by assumption : (own_lstJ 5 gg_67).getD (nn_67 - (1 : Int32)).toNatClampNeg (.long (0 : Int64)) = (.long (own_sum q1 q5 q5 ((v6 &&& (511 : Int32)).toInt64).toInt.toNat)))) hZ (hw _ (List.mem_of_getElem? (i := 111) rfl)) (hw _ (List.mem_of_getElem? (i := 78) rfl)) (by decide) (by decide)) q76a q76c (g := (mkF m 183 #[.val (.long q1), .second, .val (.long q2), .second, .val (.long q3), .second, .val (.int v4), .val (.long q5), .second, .val (.int v6), .val (.long (own_min q2 q3)), .second, .val (.long (own_max q2 q3)), .second, .val (.long (1 : Int64)), .second, .val (.ref b42), .val (.long (own_btw (own_min q2 q3) (own_max q2 q3) ((own_mix (q1 + ((0 : Int64) * (-7046029254386353131 : Int64)))) + (-7046029254386353131 : Int64)))), .second, .val (.long (own_btw (own_min q2 q3) (own_max q2 q3) ((own_mix (q1 + ((1 : Int64) * (-7046029254386353131 : Int64)))) + (-7046029254386353131 : Int64)))), .second, .val (.long (own_btw (own_min q2 q3) (own_max q2 q3) ((own_mix (q1 + ((2 : Int64) * (-7046029254386353131 : Int64)))) + (-7046029254386353131 : Int64)))), .second, .val (.long ((0 : Int64) + (own_btw (own_min q2 q3) (own_max q2 q3) ((own_mix (q1 + ((0 : Int64) * (-7046029254386353131 : Int64)))) + (-7046029254386353131 : Int64))))), .second, .val (.ref b52), .val (.int (1 : Int32)), .val (.long ((v6 &&& (511 : Int32)).toInt64)), .second, .val (.ref b61), .unset] [(.ref b61)])) rfl (by rw [hml]; rfl) (Steps.refl _) (argsL := []) (rest := []) (lenOf own_pd3 rfl) rfl (by show 2 * 0 + _ ≤ _; exact Nat.le_of_eq rfl) (hb hby at_183) (fun _ _ => ⟨rfl, rfl, (by decide : 13 + 0 ≤ _), (by decide : 57 + 0 ≤ _)⟩)
    dsimp only [Pt.U, Pt.locs, Pt.cells, Pt.slots] at X76 lq76 yq76 zq76 st76 hQ76
    subst lq76 yq76 zq76
    obtain ⟨rfl, Nq76, eh76⟩ := hQ76
    have N76 := Fr.app N67 Nq76
    refine own_st (G' := T76.setTop (mkF m 186 #[.val (.long q1), .second, .val (.long q2), .second, .val (.long q3), .second, .val (.int v4), .val (.long q5), .second, .val (.int v6), .val (.long (own_min q2 q3)), .second, .val (.long (own_max q2 q3)), .second, .val (.long (1 : Int64)), .second, .val (.ref b42), .val (.long (own_btw (own_min q2 q3) (own_max q2 q3) ((own_mix (q1 + ((0 : Int64) * (-7046029254386353131 : Int64)))) + (-7046029254386353131 : Int64)))), .second, .val (.long (own_btw (own_min q2 q3) (own_max q2 q3) ((own_mix (q1 + ((1 : Int64) * (-7046029254386353131 : Int64)))) + (-7046029254386353131 : Int64)))), .second, .val (.long (own_btw (own_min q2 q3) (own_max q2 q3) ((own_mix (q1 + ((2 : Int64) * (-7046029254386353131 : Int64)))) + (-7046029254386353131 : Int64)))), .second, .val (.long ((0 : Int64) + (own_btw (own_min q2 q3) (own_max q2 q3) ((own_mix (q1 + ((0 : Int64) * (-7046029254386353131 : Int64)))) + (-7046029254386353131 : Int64))))), .second, .val (.ref b52), .val (.int (1 : Int32)), .val (.long ((v6 &&& (511 : Int32)).toInt64)), .second, .val (.ref b61), .unset] [(.long (own_sum q1 q5 q5 ((v6 &&& (511 : Int32)).toInt64).toInt.toNat))])) (fun t k => st76.trans k) ?_
    refine own_lload X76 hx 188 (hb hby at_186) rfl ?_
    refine own_lload X76 hx 190 (hb hby at_188) rfl ?_
    refine own_lmul X76 hx 191 (hb hby at_190) ?_
    refine own_lcmp X76 hx 192 (hb hby at_191) ?_
    refine own_ifNo X76 hx 195 (hb hby at_192) (teq ((lw_eq _ _).mpr (own_flat _ _ _ : (own_sum q1 q5 q5 ((v6 &&& (511 : Int32)).toInt64).toInt.toNat) = (((v6 &&& (511 : Int32)).toInt64) * q5)))).2 ?_
    refine own_iconst X76 hx 196 (1 : Int32) (hb hby at_195) rfl ?_
    refine own_goto X76 hx 200 (hb hby at_196) ?_
    refine own_istore X76 hx 202 #[.val (.long q1), .second, .val (.long q2), .second, .val (.long q3), .second, .val (.int v4), .val (.long q5), .second, .val (.int v6), .val (.long (own_min q2 q3)), .second, .val (.long (own_max q2 q3)), .second, .val (.long (1 : Int64)), .second, .val (.ref b42), .val (.long (own_btw (own_min q2 q3) (own_max q2 q3) ((own_mix (q1 + ((0 : Int64) * (-7046029254386353131 : Int64)))) + (-7046029254386353131 : Int64)))), .second, .val (.long (own_btw (own_min q2 q3) (own_max q2 q3) ((own_mix (q1 + ((1 : Int64) * (-7046029254386353131 : Int64)))) + (-7046029254386353131 : Int64)))), .second, .val (.long (own_btw (own_min q2 q3) (own_max q2 q3) ((own_mix (q1 + ((2 : Int64) * (-7046029254386353131 : Int64)))) + (-7046029254386353131 : Int64)))), .second, .val (.long ((0 : Int64) + (own_btw (own_min q2 q3) (own_max q2 q3) ((own_mix (q1 + ((0 : Int64) * (-7046029254386353131 : Int64)))) + (-7046029254386353131 : Int64))))), .second, .val (.ref b52), .val (.int (1 : Int32)), .val (.long ((v6 &&& (511 : Int32)).toInt64)), .second, .val (.ref b61), .val (.int (1 : Int32))] (hb hby at_200) rfl ?_
    refine own_iload X76 hx 204 (hb hby at_202) rfl ?_
    refine own_ifNo X76 hx 207 (hb hby at_204) (feq (by decide : ¬ ((1 : Int32) = (0 : Int32)))).1 ?_
    refine own_iload X76 hx 209 (hb hby at_207) rfl ?_
    refine own_ifNo X76 hx 212 (hb hby at_209) (feq (by decide : ¬ ((1 : Int32) = (0 : Int32)))).1 ?_
    refine own_iconst X76 hx 213 (1 : Int32) (hb hby at_212) rfl ?_
    refine own_goto X76 hx 217 (hb hby at_213) ?_
    exact own_retN (t := .boolean) (z := (1 : Int32)) (Q := own_Q0 Z q1 q2 q3 v4 q5 v6 h0 n0) X76 hx hrt (by simp) (hb hby at_217) hlk eh76 ⟨rfl, N76⟩ (by decide) (by decide)
  · rw [hk5]
    refine own_i2l X2 hx 21 (hb hby at_20) ?_
    show own_Gs p e below _ (T2.setTop (mkF m 21 #[.val (.long q1), .second, .val (.long q2), .second, .val (.long q3), .second, .val (.int v4), .val (.long q5), .second, .val (.int v6), .val (.long (own_min q2 q3)), .second, .val (.long (own_max q2 q3)), .second, .unset, .unset, .unset, .unset, .unset, .unset, .unset, .unset, .unset, .unset, .unset, .unset, .unset, .unset, .unset, .unset, .unset] [(.long (2 : Int64))]))
    refine own_lstore X2 hx 23 #[.val (.long q1), .second, .val (.long q2), .second, .val (.long q3), .second, .val (.int v4), .val (.long q5), .second, .val (.int v6), .val (.long (own_min q2 q3)), .second, .val (.long (own_max q2 q3)), .second, .val (.long (2 : Int64)), .second, .unset, .unset, .unset, .unset, .unset, .unset, .unset, .unset, .unset, .unset, .unset, .unset, .unset, .unset, .unset] (hb hby at_21) rfl ?_
    obtain ⟨T77, h77, X77, e77, E77, A77, D77, -, st77⟩ := newO X2 hx hZ hown (hw _ (List.mem_of_getElem? (i := 7) rfl)) (hw _ (List.mem_of_getElem? (i := 8) rfl)) (hw _ (List.mem_of_getElem? (i := 9) rfl)) eh2 (g := (mkF m 23 #[.val (.long q1), .second, .val (.long q2), .second, .val (.long q3), .second, .val (.int v4), .val (.long q5), .second, .val (.int v6), .val (.long (own_min q2 q3)), .second, .val (.long (own_max q2 q3)), .second, .val (.long (2 : Int64)), .second, .unset, .unset, .unset, .unset, .unset, .unset, .unset, .unset, .unset, .unset, .unset, .unset, .unset, .unset, .unset] [])) rfl (hb hby at_23) (by decide) (by decide)
    obtain ⟨b77, g77⟩ : ∃ z, z = h0.size := ⟨_, rfl⟩
    rw [← g77] at A77 D77 st77
    have gt_b77 : n0 ≤ b77 := Nat.le_trans Z0 (Nat.le_of_eq g77.symm)
    have Z78 := Nat.le_trans Z0 E77.1
    have F77_shuffle : Fld Z h77 b77 "com/example/loomsand/loomsand/Draws" "shuffle" "Lcom/example/loomsand/loomsand/Feistel;" .null := D77 (Or.inr (hw _ (List.mem_of_getElem? (i := 30) rfl))) (ty := (.object "com/example/loomsand/loomsand/Feistel")) (by decide)
    have F77_key : Fld Z h77 b77 "com/example/loomsand/loomsand/Draws" "key" "J" (.long (0 : Int64)) := D77 (Or.inl (hw _ (List.mem_of_getElem? (i := 41) rfl))) (ty := .long) (by decide)
    have F77_row : Fld Z h77 b77 "com/example/loomsand/loomsand/Draws" "row" "J" (.long (0 : Int64)) := D77 (Or.inl (hw _ (List.mem_of_getElem? (i := 43) rfl))) (ty := .long) (by decide)
    have F77_state : Fld Z h77 b77 "com/example/loomsand/loomsand/Draws" "state" "J" (.long (0 : Int64)) := D77 (Or.inl (hw _ (List.mem_of_getElem? (i := 51) rfl))) (ty := .long) (by decide)
    refine own_st (G' := T77.setTop (mkF m 26 #[.val (.long q1), .second, .val (.long q2), .second, .val (.long q3), .second, .val (.int v4), .val (.long q5), .second, .val (.int v6), .val (.long (own_min q2 q3)), .second, .val (.long (own_max q2 q3)), .second, .val (.long (2 : Int64)), .second, .unset, .unset, .unset, .unset, .unset, .unset, .unset, .unset, .unset, .unset, .unset, .unset, .unset, .unset, .unset] [(.ref b77)])) st77 ?_
    refine own_dup X77 hx 27 (hb hby at_26) rfl ?_
    obtain ⟨_, _, ⟨T79, Lx79, kc79, nc79⟩, -, X79, ⟨Lc79, hQ79, lq79, yq79, zq79⟩, st79⟩ := X77.specialBack hx (y := (⟨"com/example/loomsand/loomsand/Draws", "<init>", "()V"⟩ : MethodName)) rfl hown (mvT hZ (hw _ (List.mem_of_getElem? (i := 10) rfl))) (mvT hZ (hw _ (List.mem_of_getElem? (i := 11) rfl))) (mvT hZ (hw _ (List.mem_of_getElem? (i := 12) rfl))) (by decide) (backOf (W := 1) (own_rm3 l Z a0 hw [] b77 h77 n0 Z78 A77 F77_shuffle F77_key F77_row F77_state gt_b77) hZ (hw _ (List.mem_of_getElem? (i := 12) rfl)) (hw _ (List.mem_of_getElem? (i := 9) rfl)) (by decide) (by decide)) (g := (mkF m 27 #[.val (.long q1), .second, .val (.long q2), .second, .val (.long q3), .second, .val (.int v4), .val (.long q5), .second, .val (.int v6), .val (.long (own_min q2 q3)), .second, .val (.long (own_max q2 q3)), .second, .val (.long (2 : Int64)), .second, .unset, .unset, .unset, .unset, .unset, .unset, .unset, .unset, .unset, .unset, .unset, .unset, .unset, .unset, .unset] [(.ref b77), (.ref b77)])) rfl (by rw [hml]; rfl) (Steps.refl _) (a := b77) (argsL := []) (rest := [(.ref b77)]) (lenOf own_pd6 rfl) rfl (by show 2 * 0 + _ ≤ _; exact Nat.le_of_eq rfl) (hb hby at_27) (fun _ _ => ⟨rfl, e77, (by decide : 1 + 2 ≤ _), (by decide : 5 + 4 ≤ _)⟩)
    dsimp only [Pt.U, Pt.locs, Pt.cells, Pt.slots] at X79 lq79 yq79 zq79 st79 hQ79
    subst lq79 yq79 zq79
    obtain ⟨rfl, Nq79, Kp79, G79_0, G79_1, G79_2, G79_3⟩ := hQ79
    have N79 := Fr.app N2 Nq79
    have Z80 := Nat.le_trans Z78 Kp79.1
    refine own_st (G' := T79.setTop (mkF m 30 #[.val (.long q1), .second, .val (.long q2), .second, .val (.long q3), .second, .val (.int v4), .val (.long q5), .second, .val (.int v6), .val (.long (own_min q2 q3)), .second, .val (.long (own_max q2 q3)), .second, .val (.long (2 : Int64)), .second, .unset, .unset, .unset, .unset, .unset, .unset, .unset, .unset, .unset, .unset, .unset, .unset, .unset, .unset, .unset] [(.ref b77)])) (fun t k => st79.trans k) ?_
    refine own_astore X79 hx 32 #[.val (.long q1), .second, .val (.long q2), .second, .val (.long q3), .second, .val (.int v4), .val (.long q5), .second, .val (.int v6), .val (.long (own_min q2 q3)), .second, .val (.long (own_max q2 q3)), .second, .val (.long (2 : Int64)), .second, .val (.ref b77), .unset, .unset, .unset, .unset, .unset, .unset, .unset, .unset, .unset, .unset, .unset, .unset, .unset, .unset] (hb hby at_30) rfl rfl ?_
    refine own_aload X79 hx 34 (hb hby at_32) rfl rfl ?_
    refine own_lloadN X79 hx 35 (hb hby at_34) rfl ?_
    refine own_lconst X79 hx 36 (0 : Int64) (hb hby at_35) rfl ?_
    refine own_lload X79 hx 38 (hb hby at_36) rfl ?_
    refine own_lload X79 hx 40 (hb hby at_38) rfl ?_
    obtain ⟨_, _, ⟨T81, Lx81, kc81, nc81⟩, -, X81, ⟨Lc81, hQ81, lq81, yq81, zq81⟩, st81⟩ := Jvm.LawKit.callS X79 hx (y := (⟨"com/example/loomsand/loomsand/ParentRowsTotalPinLaw", "count", "(Lcom/example/loomsand/loomsand/Draws;JJJJ)J"⟩ : MethodName)) hown (mvT hZ (hw _ (List.mem_of_getElem? (i := 31) rfl))) (mvT hZ (hw _ (List.mem_of_getElem? (i := 32) rfl))) (mvT hZ (hw _ (List.mem_of_getElem? (i := 33) rfl))) (mvT hZ (hw _ (List.mem_of_getElem? (i := 34) rfl))) (by decide) (backOf (W := 0) (own_rm6 l Z a0 hw [] b77 q1 (0 : Int64) (own_min q2 q3) (own_max q2 q3) (0 : Int64) (0 : Int64) (0 : Int64) T79.heap n0 Z80 G79_0 G79_1 G79_2 G79_3 gt_b77 (own_mm _ _ : ¬ ((own_max q2 q3) < (own_min q2 q3)))) hZ (hw _ (List.mem_of_getElem? (i := 34) rfl)) (hw _ (List.mem_of_getElem? (i := 33) rfl)) (by decide) (by decide)) (g := (mkF m 40 #[.val (.long q1), .second, .val (.long q2), .second, .val (.long q3), .second, .val (.int v4), .val (.long q5), .second, .val (.int v6), .val (.long (own_min q2 q3)), .second, .val (.long (own_max q2 q3)), .second, .val (.long (2 : Int64)), .second, .val (.ref b77), .unset, .unset, .unset, .unset, .unset, .unset, .unset, .unset, .unset, .unset, .unset, .unset, .unset, .unset] [(.long (own_max q2 q3)), (.long (own_min q2 q3)), (.long (0 : Int64)), (.long q1), (.ref b77)])) rfl (by rw [hml]; rfl) (argsL := [(.ref b77), (.long q1), (.long (0 : Int64)), (.long (own_min q2 q3)), (.long (own_max q2 q3))]) (rest := []) (lenOf own_pd7 rfl) rfl (by show 2 * 0 + _ ≤ _; exact Nat.le_of_eq rfl) (hb hby at_40) (fun _ _ => ⟨rfl, rfl, (by decide : 3 + 0 ≤ _), (by decide : 9 + 0 ≤ _)⟩)
    dsimp only [Pt.U, Pt.locs, Pt.cells, Pt.slots] at X81 lq81 yq81 zq81 st81 hQ81
    subst lq81 yq81 zq81
    obtain ⟨zz_81, rfl, Nq81, Kp81, G81_0, G81_1, G81_2, G81_3⟩ := hQ81
    have N81 := Fr.app N79 Nq81
    have Z82 := Nat.le_trans Z80 Kp81.1
    refine own_st (G' := T81.setTop (mkF m 43 #[.val (.long q1), .second, .val (.long q2), .second, .val (.long q3), .second, .val (.int v4), .val (.long q5), .second, .val (.int v6), .val (.long (own_min q2 q3)), .second, .val (.long (own_max q2 q3)), .second, .val (.long (2 : Int64)), .second, .val (.ref b77), .unset, .unset, .unset, .unset, .unset, .unset, .unset, .unset, .unset, .unset, .unset, .unset, .unset, .unset] [(.long (own_btw (own_min q2 q3) (own_max q2 q3) ((own_mix (q1 + ((0 : Int64) * (-7046029254386353131 : Int64)))) + (-7046029254386353131 : Int64))))])) st81 ?_
    refine own_lstore X81 hx 45 #[.val (.long q1), .second, .val (.long q2), .second, .val (.long q3), .second, .val (.int v4), .val (.long q5), .second, .val (.int v6), .val (.long (own_min q2 q3)), .second, .val (.long (own_max q2 q3)), .second, .val (.long (2 : Int64)), .second, .val (.ref b77), .val (.long (own_btw (own_min q2 q3) (own_max q2 q3) ((own_mix (q1 + ((0 : Int64) * (-7046029254386353131 : Int64)))) + (-7046029254386353131 : Int64)))), .second, .unset, .unset, .unset, .unset, .unset, .unset, .unset, .unset, .unset, .unset, .unset, .unset] (hb hby at_43) rfl ?_
    refine own_aload X81 hx 47 (hb hby at_45) rfl rfl ?_
    refine own_lloadN X81 hx 48 (hb hby at_47) rfl ?_
    refine own_lconst X81 hx 49 (1 : Int64) (hb hby at_48) rfl ?_
    refine own_lload X81 hx 51 (hb hby at_49) rfl ?_
    refine own_lload X81 hx 53 (hb hby at_51) rfl ?_
    obtain ⟨_, _, ⟨T83, Lx83, kc83, nc83⟩, -, X83, ⟨Lc83, hQ83, lq83, yq83, zq83⟩, st83⟩ := Jvm.LawKit.callS X81 hx (y := (⟨"com/example/loomsand/loomsand/ParentRowsTotalPinLaw", "count", "(Lcom/example/loomsand/loomsand/Draws;JJJJ)J"⟩ : MethodName)) hown (mvT hZ (hw _ (List.mem_of_getElem? (i := 31) rfl))) (mvT hZ (hw _ (List.mem_of_getElem? (i := 32) rfl))) (mvT hZ (hw _ (List.mem_of_getElem? (i := 33) rfl))) (mvT hZ (hw _ (List.mem_of_getElem? (i := 34) rfl))) (by decide) (backOf (W := 0) (own_rm6 l Z a0 hw [] b77 q1 (1 : Int64) (own_min q2 q3) (own_max q2 q3) q1 (0 : Int64) zz_81 T81.heap n0 Z82 G81_0 G81_1 G81_2 G81_3 gt_b77 (own_mm _ _ : ¬ ((own_max q2 q3) < (own_min q2 q3)))) hZ (hw _ (List.mem_of_getElem? (i := 34) rfl)) (hw _ (List.mem_of_getElem? (i := 33) rfl)) (by decide) (by decide)) (g := (mkF m 53 #[.val (.long q1), .second, .val (.long q2), .second, .val (.long q3), .second, .val (.int v4), .val (.long q5), .second, .val (.int v6), .val (.long (own_min q2 q3)), .second, .val (.long (own_max q2 q3)), .second, .val (.long (2 : Int64)), .second, .val (.ref b77), .val (.long (own_btw (own_min q2 q3) (own_max q2 q3) ((own_mix (q1 + ((0 : Int64) * (-7046029254386353131 : Int64)))) + (-7046029254386353131 : Int64)))), .second, .unset, .unset, .unset, .unset, .unset, .unset, .unset, .unset, .unset, .unset, .unset, .unset] [(.long (own_max q2 q3)), (.long (own_min q2 q3)), (.long (1 : Int64)), (.long q1), (.ref b77)])) rfl (by rw [hml]; rfl) (argsL := [(.ref b77), (.long q1), (.long (1 : Int64)), (.long (own_min q2 q3)), (.long (own_max q2 q3))]) (rest := []) (lenOf own_pd7 rfl) rfl (by show 2 * 0 + _ ≤ _; exact Nat.le_of_eq rfl) (hb hby at_53) (fun _ _ => ⟨rfl, rfl, (by decide : 3 + 0 ≤ _), (by decide : 9 + 0 ≤ _)⟩)
    dsimp only [Pt.U, Pt.locs, Pt.cells, Pt.slots] at X83 lq83 yq83 zq83 st83 hQ83
    subst lq83 yq83 zq83
    obtain ⟨zz_83, rfl, Nq83, Kp83, G83_0, G83_1, G83_2, G83_3⟩ := hQ83
    have N83 := Fr.app N81 Nq83
    have Z84 := Nat.le_trans Z82 Kp83.1
    refine own_st (G' := T83.setTop (mkF m 56 #[.val (.long q1), .second, .val (.long q2), .second, .val (.long q3), .second, .val (.int v4), .val (.long q5), .second, .val (.int v6), .val (.long (own_min q2 q3)), .second, .val (.long (own_max q2 q3)), .second, .val (.long (2 : Int64)), .second, .val (.ref b77), .val (.long (own_btw (own_min q2 q3) (own_max q2 q3) ((own_mix (q1 + ((0 : Int64) * (-7046029254386353131 : Int64)))) + (-7046029254386353131 : Int64)))), .second, .unset, .unset, .unset, .unset, .unset, .unset, .unset, .unset, .unset, .unset, .unset, .unset] [(.long (own_btw (own_min q2 q3) (own_max q2 q3) ((own_mix (q1 + ((1 : Int64) * (-7046029254386353131 : Int64)))) + (-7046029254386353131 : Int64))))])) st83 ?_
    refine own_lstore X83 hx 58 #[.val (.long q1), .second, .val (.long q2), .second, .val (.long q3), .second, .val (.int v4), .val (.long q5), .second, .val (.int v6), .val (.long (own_min q2 q3)), .second, .val (.long (own_max q2 q3)), .second, .val (.long (2 : Int64)), .second, .val (.ref b77), .val (.long (own_btw (own_min q2 q3) (own_max q2 q3) ((own_mix (q1 + ((0 : Int64) * (-7046029254386353131 : Int64)))) + (-7046029254386353131 : Int64)))), .second, .val (.long (own_btw (own_min q2 q3) (own_max q2 q3) ((own_mix (q1 + ((1 : Int64) * (-7046029254386353131 : Int64)))) + (-7046029254386353131 : Int64)))), .second, .unset, .unset, .unset, .unset, .unset, .unset, .unset, .unset, .unset, .unset] (hb hby at_56) rfl ?_
    refine own_aload X83 hx 60 (hb hby at_58) rfl rfl ?_
    refine own_lloadN X83 hx 61 (hb hby at_60) rfl ?_
    refine own_ldcL X83 hx 64 hown (mvT hZ (hw _ (List.mem_of_getElem? (i := 74) rfl))) (hb hby at_61) ?_
    refine own_lload X83 hx 66 (hb hby at_64) rfl ?_
    refine own_lload X83 hx 68 (hb hby at_66) rfl ?_
    obtain ⟨_, _, ⟨T85, Lx85, kc85, nc85⟩, -, X85, ⟨Lc85, hQ85, lq85, yq85, zq85⟩, st85⟩ := Jvm.LawKit.callS X83 hx (y := (⟨"com/example/loomsand/loomsand/ParentRowsTotalPinLaw", "count", "(Lcom/example/loomsand/loomsand/Draws;JJJJ)J"⟩ : MethodName)) hown (mvT hZ (hw _ (List.mem_of_getElem? (i := 31) rfl))) (mvT hZ (hw _ (List.mem_of_getElem? (i := 32) rfl))) (mvT hZ (hw _ (List.mem_of_getElem? (i := 33) rfl))) (mvT hZ (hw _ (List.mem_of_getElem? (i := 34) rfl))) (by decide) (backOf (W := 0) (own_rm6 l Z a0 hw [] b77 q1 (2 : Int64) (own_min q2 q3) (own_max q2 q3) q1 (1 : Int64) zz_83 T83.heap n0 Z84 G83_0 G83_1 G83_2 G83_3 gt_b77 (own_mm _ _ : ¬ ((own_max q2 q3) < (own_min q2 q3)))) hZ (hw _ (List.mem_of_getElem? (i := 34) rfl)) (hw _ (List.mem_of_getElem? (i := 33) rfl)) (by decide) (by decide)) (g := (mkF m 68 #[.val (.long q1), .second, .val (.long q2), .second, .val (.long q3), .second, .val (.int v4), .val (.long q5), .second, .val (.int v6), .val (.long (own_min q2 q3)), .second, .val (.long (own_max q2 q3)), .second, .val (.long (2 : Int64)), .second, .val (.ref b77), .val (.long (own_btw (own_min q2 q3) (own_max q2 q3) ((own_mix (q1 + ((0 : Int64) * (-7046029254386353131 : Int64)))) + (-7046029254386353131 : Int64)))), .second, .val (.long (own_btw (own_min q2 q3) (own_max q2 q3) ((own_mix (q1 + ((1 : Int64) * (-7046029254386353131 : Int64)))) + (-7046029254386353131 : Int64)))), .second, .unset, .unset, .unset, .unset, .unset, .unset, .unset, .unset, .unset, .unset] [(.long (own_max q2 q3)), (.long (own_min q2 q3)), (.long (2 : Int64)), (.long q1), (.ref b77)])) rfl (by rw [hml]; rfl) (argsL := [(.ref b77), (.long q1), (.long (2 : Int64)), (.long (own_min q2 q3)), (.long (own_max q2 q3))]) (rest := []) (lenOf own_pd7 rfl) rfl (by show 2 * 0 + _ ≤ _; exact Nat.le_of_eq rfl) (hb hby at_68) (fun _ _ => ⟨rfl, rfl, (by decide : 3 + 0 ≤ _), (by decide : 9 + 0 ≤ _)⟩)
    dsimp only [Pt.U, Pt.locs, Pt.cells, Pt.slots] at X85 lq85 yq85 zq85 st85 hQ85
    subst lq85 yq85 zq85
    obtain ⟨zz_85, rfl, Nq85, Kp85, G85_0, G85_1, G85_2, G85_3⟩ := hQ85
    have N85 := Fr.app N83 Nq85
    have Z86 := Nat.le_trans Z84 Kp85.1
    refine own_st (G' := T85.setTop (mkF m 71 #[.val (.long q1), .second, .val (.long q2), .second, .val (.long q3), .second, .val (.int v4), .val (.long q5), .second, .val (.int v6), .val (.long (own_min q2 q3)), .second, .val (.long (own_max q2 q3)), .second, .val (.long (2 : Int64)), .second, .val (.ref b77), .val (.long (own_btw (own_min q2 q3) (own_max q2 q3) ((own_mix (q1 + ((0 : Int64) * (-7046029254386353131 : Int64)))) + (-7046029254386353131 : Int64)))), .second, .val (.long (own_btw (own_min q2 q3) (own_max q2 q3) ((own_mix (q1 + ((1 : Int64) * (-7046029254386353131 : Int64)))) + (-7046029254386353131 : Int64)))), .second, .unset, .unset, .unset, .unset, .unset, .unset, .unset, .unset, .unset, .unset] [(.long (own_btw (own_min q2 q3) (own_max q2 q3) ((own_mix (q1 + ((2 : Int64) * (-7046029254386353131 : Int64)))) + (-7046029254386353131 : Int64))))])) st85 ?_
    refine own_lstore X85 hx 73 #[.val (.long q1), .second, .val (.long q2), .second, .val (.long q3), .second, .val (.int v4), .val (.long q5), .second, .val (.int v6), .val (.long (own_min q2 q3)), .second, .val (.long (own_max q2 q3)), .second, .val (.long (2 : Int64)), .second, .val (.ref b77), .val (.long (own_btw (own_min q2 q3) (own_max q2 q3) ((own_mix (q1 + ((0 : Int64) * (-7046029254386353131 : Int64)))) + (-7046029254386353131 : Int64)))), .second, .val (.long (own_btw (own_min q2 q3) (own_max q2 q3) ((own_mix (q1 + ((1 : Int64) * (-7046029254386353131 : Int64)))) + (-7046029254386353131 : Int64)))), .second, .val (.long (own_btw (own_min q2 q3) (own_max q2 q3) ((own_mix (q1 + ((2 : Int64) * (-7046029254386353131 : Int64)))) + (-7046029254386353131 : Int64)))), .second, .unset, .unset, .unset, .unset, .unset, .unset, .unset, .unset] (hb hby at_71) rfl ?_
    refine own_lconst X85 hx 74 (0 : Int64) (hb hby at_73) rfl ?_
    refine own_lstore X85 hx 76 #[.val (.long q1), .second, .val (.long q2), .second, .val (.long q3), .second, .val (.int v4), .val (.long q5), .second, .val (.int v6), .val (.long (own_min q2 q3)), .second, .val (.long (own_max q2 q3)), .second, .val (.long (2 : Int64)), .second, .val (.ref b77), .val (.long (own_btw (own_min q2 q3) (own_max q2 q3) ((own_mix (q1 + ((0 : Int64) * (-7046029254386353131 : Int64)))) + (-7046029254386353131 : Int64)))), .second, .val (.long (own_btw (own_min q2 q3) (own_max q2 q3) ((own_mix (q1 + ((1 : Int64) * (-7046029254386353131 : Int64)))) + (-7046029254386353131 : Int64)))), .second, .val (.long (own_btw (own_min q2 q3) (own_max q2 q3) ((own_mix (q1 + ((2 : Int64) * (-7046029254386353131 : Int64)))) + (-7046029254386353131 : Int64)))), .second, .val (.long (0 : Int64)), .second, .unset, .unset, .unset, .unset, .unset, .unset] (hb hby at_74) rfl ?_
    refine own_lload X85 hx 78 (hb hby at_76) rfl ?_
    refine own_lconst X85 hx 79 (1 : Int64) (hb hby at_78) rfl ?_
    refine own_lcmp X85 hx 80 (hb hby at_79) ?_
    refine own_ifNo X85 hx 83 (hb hby at_80) (flt (mt (lw_lt _ _).mp (by decide : ¬ ((2 : Int64) < (1 : Int64))))).1 ?_
    refine own_lload X85 hx 85 (hb hby at_83) rfl ?_
    refine own_lload X85 hx 87 (hb hby at_85) rfl ?_
    refine own_ladd X85 hx 88 (hb hby at_87) ?_
    refine own_lstore X85 hx 90 #[.val (.long q1), .second, .val (.long q2), .second, .val (.long q3), .second, .val (.int v4), .val (.long q5), .second, .val (.int v6), .val (.long (own_min q2 q3)), .second, .val (.long (own_max q2 q3)), .second, .val (.long (2 : Int64)), .second, .val (.ref b77), .val (.long (own_btw (own_min q2 q3) (own_max q2 q3) ((own_mix (q1 + ((0 : Int64) * (-7046029254386353131 : Int64)))) + (-7046029254386353131 : Int64)))), .second, .val (.long (own_btw (own_min q2 q3) (own_max q2 q3) ((own_mix (q1 + ((1 : Int64) * (-7046029254386353131 : Int64)))) + (-7046029254386353131 : Int64)))), .second, .val (.long (own_btw (own_min q2 q3) (own_max q2 q3) ((own_mix (q1 + ((2 : Int64) * (-7046029254386353131 : Int64)))) + (-7046029254386353131 : Int64)))), .second, .val (.long ((0 : Int64) + (own_btw (own_min q2 q3) (own_max q2 q3) ((own_mix (q1 + ((0 : Int64) * (-7046029254386353131 : Int64)))) + (-7046029254386353131 : Int64))))), .second, .unset, .unset, .unset, .unset, .unset, .unset] (hb hby at_88) rfl ?_
    refine own_lload X85 hx 92 (hb hby at_90) rfl ?_
    refine own_ldcL X85 hx 95 hown (mvT hZ (hw _ (List.mem_of_getElem? (i := 74) rfl))) (hb hby at_92) ?_
    refine own_lcmp X85 hx 96 (hb hby at_95) ?_
    refine own_ifNo X85 hx 99 (hb hby at_96) (flt (mt (lw_lt _ _).mp (by decide : ¬ ((2 : Int64) < (2 : Int64))))).1 ?_
    refine own_lload X85 hx 101 (hb hby at_99) rfl ?_
    refine own_lload X85 hx 103 (hb hby at_101) rfl ?_
    refine own_ladd X85 hx 104 (hb hby at_103) ?_
    refine own_lstore X85 hx 106 #[.val (.long q1), .second, .val (.long q2), .second, .val (.long q3), .second, .val (.int v4), .val (.long q5), .second, .val (.int v6), .val (.long (own_min q2 q3)), .second, .val (.long (own_max q2 q3)), .second, .val (.long (2 : Int64)), .second, .val (.ref b77), .val (.long (own_btw (own_min q2 q3) (own_max q2 q3) ((own_mix (q1 + ((0 : Int64) * (-7046029254386353131 : Int64)))) + (-7046029254386353131 : Int64)))), .second, .val (.long (own_btw (own_min q2 q3) (own_max q2 q3) ((own_mix (q1 + ((1 : Int64) * (-7046029254386353131 : Int64)))) + (-7046029254386353131 : Int64)))), .second, .val (.long (own_btw (own_min q2 q3) (own_max q2 q3) ((own_mix (q1 + ((2 : Int64) * (-7046029254386353131 : Int64)))) + (-7046029254386353131 : Int64)))), .second, .val (.long (((0 : Int64) + (own_btw (own_min q2 q3) (own_max q2 q3) ((own_mix (q1 + ((0 : Int64) * (-7046029254386353131 : Int64)))) + (-7046029254386353131 : Int64)))) + (own_btw (own_min q2 q3) (own_max q2 q3) ((own_mix (q1 + ((1 : Int64) * (-7046029254386353131 : Int64)))) + (-7046029254386353131 : Int64))))), .second, .unset, .unset, .unset, .unset, .unset, .unset] (hb hby at_104) rfl ?_
    refine own_lload X85 hx 108 (hb hby at_106) rfl ?_
    refine own_ldcL X85 hx 111 hown (mvT hZ (hw _ (List.mem_of_getElem? (i := 75) rfl))) (hb hby at_108) ?_
    refine own_lcmp X85 hx 112 (hb hby at_111) ?_
    refine own_ifYes X85 hx 122 (hb hby at_112) (tlt ((lw_lt _ _).mpr (by decide : (2 : Int64) < (3 : Int64)))).1 ?_
    obtain ⟨T87, h87, X87, e87, E87, A87, D87, -, st87⟩ := newO X85 hx hZ hown (hw _ (List.mem_of_getElem? (i := 76) rfl)) (hw _ (List.mem_of_getElem? (i := 77) rfl)) (hw _ (List.mem_of_getElem? (i := 78) rfl)) rfl (g := (mkF m 122 #[.val (.long q1), .second, .val (.long q2), .second, .val (.long q3), .second, .val (.int v4), .val (.long q5), .second, .val (.int v6), .val (.long (own_min q2 q3)), .second, .val (.long (own_max q2 q3)), .second, .val (.long (2 : Int64)), .second, .val (.ref b77), .val (.long (own_btw (own_min q2 q3) (own_max q2 q3) ((own_mix (q1 + ((0 : Int64) * (-7046029254386353131 : Int64)))) + (-7046029254386353131 : Int64)))), .second, .val (.long (own_btw (own_min q2 q3) (own_max q2 q3) ((own_mix (q1 + ((1 : Int64) * (-7046029254386353131 : Int64)))) + (-7046029254386353131 : Int64)))), .second, .val (.long (own_btw (own_min q2 q3) (own_max q2 q3) ((own_mix (q1 + ((2 : Int64) * (-7046029254386353131 : Int64)))) + (-7046029254386353131 : Int64)))), .second, .val (.long (((0 : Int64) + (own_btw (own_min q2 q3) (own_max q2 q3) ((own_mix (q1 + ((0 : Int64) * (-7046029254386353131 : Int64)))) + (-7046029254386353131 : Int64)))) + (own_btw (own_min q2 q3) (own_max q2 q3) ((own_mix (q1 + ((1 : Int64) * (-7046029254386353131 : Int64)))) + (-7046029254386353131 : Int64))))), .second, .unset, .unset, .unset, .unset, .unset, .unset] [])) rfl (hb hby at_122) (by decide) (by decide)
    obtain ⟨b87, g87⟩ : ∃ z, z = T85.heap.size := ⟨_, rfl⟩
    rw [← g87] at A87 D87 st87
    have ne88 : b77 ≠ b87 := Nat.ne_of_lt (Nat.lt_of_lt_of_le G85_0.lt (Nat.le_of_eq g87.symm))
    have gt_b87 : n0 ≤ b87 := Nat.le_trans Z86 (Nat.le_of_eq g87.symm)
    have Z89 := Nat.le_trans Z86 E87.1
    have F87_draws : Fld Z h87 b87 "com/example/loomsand/loomsand/ParentRows" "draws" "Lcom/example/loomsand/loomsand/Draws;" .null := D87 (Or.inr (hw _ (List.mem_of_getElem? (i := 86) rfl))) (ty := (.object "com/example/loomsand/loomsand/Draws")) (by decide)
    have F87_key : Fld Z h87 b87 "com/example/loomsand/loomsand/ParentRows" "key" "J" (.long (0 : Int64)) := D87 (Or.inr (hw _ (List.mem_of_getElem? (i := 88) rfl))) (ty := .long) (by decide)
    have F87_min : Fld Z h87 b87 "com/example/loomsand/loomsand/ParentRows" "min" "J" (.long (0 : Int64)) := D87 (Or.inr (hw _ (List.mem_of_getElem? (i := 90) rfl))) (ty := .long) (by decide)
    have F87_max : Fld Z h87 b87 "com/example/loomsand/loomsand/ParentRows" "max" "J" (.long (0 : Int64)) := D87 (Or.inr (hw _ (List.mem_of_getElem? (i := 92) rfl))) (ty := .long) (by decide)
    have F87_block : Fld Z h87 b87 "com/example/loomsand/loomsand/ParentRows" "block" "J" (.long (0 : Int64)) := D87 (Or.inr (hw _ (List.mem_of_getElem? (i := 97) rfl))) (ty := .long) (by decide)
    have F87_starts : Fld Z h87 b87 "com/example/loomsand/loomsand/ParentRows" "starts" "[J" .null := D87 (Or.inr (hw _ (List.mem_of_getElem? (i := 100) rfl))) (ty := (.array .long)) (by decide)
    refine own_st (G' := T87.setTop (mkF m 125 #[.val (.long q1), .second, .val (.long q2), .second, .val (.long q3), .second, .val (.int v4), .val (.long q5), .second, .val (.int v6), .val (.long (own_min q2 q3)), .second, .val (.long (own_max q2 q3)), .second, .val (.long (2 : Int64)), .second, .val (.ref b77), .val (.long (own_btw (own_min q2 q3) (own_max q2 q3) ((own_mix (q1 + ((0 : Int64) * (-7046029254386353131 : Int64)))) + (-7046029254386353131 : Int64)))), .second, .val (.long (own_btw (own_min q2 q3) (own_max q2 q3) ((own_mix (q1 + ((1 : Int64) * (-7046029254386353131 : Int64)))) + (-7046029254386353131 : Int64)))), .second, .val (.long (own_btw (own_min q2 q3) (own_max q2 q3) ((own_mix (q1 + ((2 : Int64) * (-7046029254386353131 : Int64)))) + (-7046029254386353131 : Int64)))), .second, .val (.long (((0 : Int64) + (own_btw (own_min q2 q3) (own_max q2 q3) ((own_mix (q1 + ((0 : Int64) * (-7046029254386353131 : Int64)))) + (-7046029254386353131 : Int64)))) + (own_btw (own_min q2 q3) (own_max q2 q3) ((own_mix (q1 + ((1 : Int64) * (-7046029254386353131 : Int64)))) + (-7046029254386353131 : Int64))))), .second, .unset, .unset, .unset, .unset, .unset, .unset] [(.ref b87)])) st87 ?_
    refine own_dup X87 hx 126 (hb hby at_125) rfl ?_
    refine own_lloadN X87 hx 127 (hb hby at_126) rfl ?_
    refine own_lload X87 hx 129 (hb hby at_127) rfl ?_
    refine own_lload X87 hx 131 (hb hby at_129) rfl ?_
    refine own_lload X87 hx 133 (hb hby at_131) rfl ?_
    obtain ⟨_, _, ⟨T90, Lx90, kc90, nc90⟩, -, X90, ⟨Lc90, hQ90, lq90, yq90, zq90⟩, st90⟩ := X87.specialBack hx (y := (⟨"com/example/loomsand/loomsand/ParentRows", "<init>", "(JJJJ)V"⟩ : MethodName)) rfl hown (mvT hZ (hw _ (List.mem_of_getElem? (i := 79) rfl))) (mvT hZ (hw _ (List.mem_of_getElem? (i := 80) rfl))) (mvT hZ (hw _ (List.mem_of_getElem? (i := 81) rfl))) (by decide) (backOf (W := 1) (own_rm14 l Z a0 hw [] b87 q1 (2 : Int64) (own_min q2 q3) (own_max q2 q3) h87 n0 Z89 A87 F87_draws F87_key F87_min F87_max F87_block F87_starts gt_b87 (own_mm _ _ : ¬ ((own_max q2 q3) < (own_min q2 q3))) (by decide : 0 ≤ (2 : Int64).toInt ∧ (2 : Int64).toInt ≤ 511)) hZ (hw _ (List.mem_of_getElem? (i := 81) rfl)) (hw _ (List.mem_of_getElem? (i := 78) rfl)) (by decide) (by decide)) (g := (mkF m 133 #[.val (.long q1), .second, .val (.long q2), .second, .val (.long q3), .second, .val (.int v4), .val (.long q5), .second, .val (.int v6), .val (.long (own_min q2 q3)), .second, .val (.long (own_max q2 q3)), .second, .val (.long (2 : Int64)), .second, .val (.ref b77), .val (.long (own_btw (own_min q2 q3) (own_max q2 q3) ((own_mix (q1 + ((0 : Int64) * (-7046029254386353131 : Int64)))) + (-7046029254386353131 : Int64)))), .second, .val (.long (own_btw (own_min q2 q3) (own_max q2 q3) ((own_mix (q1 + ((1 : Int64) * (-7046029254386353131 : Int64)))) + (-7046029254386353131 : Int64)))), .second, .val (.long (own_btw (own_min q2 q3) (own_max q2 q3) ((own_mix (q1 + ((2 : Int64) * (-7046029254386353131 : Int64)))) + (-7046029254386353131 : Int64)))), .second, .val (.long (((0 : Int64) + (own_btw (own_min q2 q3) (own_max q2 q3) ((own_mix (q1 + ((0 : Int64) * (-7046029254386353131 : Int64)))) + (-7046029254386353131 : Int64)))) + (own_btw (own_min q2 q3) (own_max q2 q3) ((own_mix (q1 + ((1 : Int64) * (-7046029254386353131 : Int64)))) + (-7046029254386353131 : Int64))))), .second, .unset, .unset, .unset, .unset, .unset, .unset] [(.long (own_max q2 q3)), (.long (own_min q2 q3)), (.long (2 : Int64)), (.long q1), (.ref b87), (.ref b87)])) rfl (by rw [hml]; rfl) (Steps.refl _) (a := b87) (argsL := [(.long q1), (.long (2 : Int64)), (.long (own_min q2 q3)), (.long (own_max q2 q3))]) (rest := [(.ref b87)]) (lenOf own_pd8 rfl) rfl (by show 2 * 0 + _ ≤ _; exact Nat.le_of_eq rfl) (hb hby at_133) (fun _ _ => ⟨rfl, e87, (by decide : 4 + 4 ≤ _), (by decide : 19 + 14 ≤ _)⟩)
    dsimp only [Pt.U, Pt.locs, Pt.cells, Pt.slots] at X90 lq90 yq90 zq90 st90 hQ90
    subst lq90 yq90 zq90
    obtain ⟨bb_90, kb_90, nn_90, gg_90, rfl, Nq90, Kp90, G90_0, G90_1, G90_2, G90_3, P90_0, P90_1⟩ := hQ90
    have N90 := Fr.app N85 Nq90
    have f91 := (G85_0.ext E87)
    have ne92 : b77 ≠ bb_90 := Nat.ne_of_lt (Nat.lt_of_lt_of_le f91.lt G90_1)
    have ne93 : b87 ≠ bb_90 := Nat.ne_of_lt (Nat.lt_of_lt_of_le A87.lt G90_1)
    have gt_bb_90 : n0 ≤ bb_90 := Nat.le_trans Z89 G90_1
    have Z94 := Nat.le_trans Z89 Kp90.1
    refine own_st (G' := T90.setTop (mkF m 136 #[.val (.long q1), .second, .val (.long q2), .second, .val (.long q3), .second, .val (.int v4), .val (.long q5), .second, .val (.int v6), .val (.long (own_min q2 q3)), .second, .val (.long (own_max q2 q3)), .second, .val (.long (2 : Int64)), .second, .val (.ref b77), .val (.long (own_btw (own_min q2 q3) (own_max q2 q3) ((own_mix (q1 + ((0 : Int64) * (-7046029254386353131 : Int64)))) + (-7046029254386353131 : Int64)))), .second, .val (.long (own_btw (own_min q2 q3) (own_max q2 q3) ((own_mix (q1 + ((1 : Int64) * (-7046029254386353131 : Int64)))) + (-7046029254386353131 : Int64)))), .second, .val (.long (own_btw (own_min q2 q3) (own_max q2 q3) ((own_mix (q1 + ((2 : Int64) * (-7046029254386353131 : Int64)))) + (-7046029254386353131 : Int64)))), .second, .val (.long (((0 : Int64) + (own_btw (own_min q2 q3) (own_max q2 q3) ((own_mix (q1 + ((0 : Int64) * (-7046029254386353131 : Int64)))) + (-7046029254386353131 : Int64)))) + (own_btw (own_min q2 q3) (own_max q2 q3) ((own_mix (q1 + ((1 : Int64) * (-7046029254386353131 : Int64)))) + (-7046029254386353131 : Int64))))), .second, .unset, .unset, .unset, .unset, .unset, .unset] [(.ref b87)])) (fun t k => st90.trans k) ?_
    refine own_astore X90 hx 138 #[.val (.long q1), .second, .val (.long q2), .second, .val (.long q3), .second, .val (.int v4), .val (.long q5), .second, .val (.int v6), .val (.long (own_min q2 q3)), .second, .val (.long (own_max q2 q3)), .second, .val (.long (2 : Int64)), .second, .val (.ref b77), .val (.long (own_btw (own_min q2 q3) (own_max q2 q3) ((own_mix (q1 + ((0 : Int64) * (-7046029254386353131 : Int64)))) + (-7046029254386353131 : Int64)))), .second, .val (.long (own_btw (own_min q2 q3) (own_max q2 q3) ((own_mix (q1 + ((1 : Int64) * (-7046029254386353131 : Int64)))) + (-7046029254386353131 : Int64)))), .second, .val (.long (own_btw (own_min q2 q3) (own_max q2 q3) ((own_mix (q1 + ((2 : Int64) * (-7046029254386353131 : Int64)))) + (-7046029254386353131 : Int64)))), .second, .val (.long (((0 : Int64) + (own_btw (own_min q2 q3) (own_max q2 q3) ((own_mix (q1 + ((0 : Int64) * (-7046029254386353131 : Int64)))) + (-7046029254386353131 : Int64)))) + (own_btw (own_min q2 q3) (own_max q2 q3) ((own_mix (q1 + ((1 : Int64) * (-7046029254386353131 : Int64)))) + (-7046029254386353131 : Int64))))), .second, .val (.ref b87), .unset, .unset, .unset, .unset, .unset] (hb hby at_136) rfl rfl ?_
    refine own_aload X90 hx 140 (hb hby at_138) rfl rfl ?_
    obtain ⟨cq95, kq95, q95a, q95b, q95c⟩ := isOf hZ rfl G90_0
    obtain ⟨_, _, ⟨T95, Lx95, kc95, nc95⟩, -, X95, ⟨Lc95, hQ95, lq95, yq95, zq95⟩, st95⟩ := X90.virtualBack hx (y := (⟨"com/example/loomsand/loomsand/ParentRows", "total", "()J"⟩ : MethodName)) (z := (⟨"com/example/loomsand/loomsand/ParentRows", "total", "()J"⟩ : MethodName)) hown (mvT hZ (hw _ (List.mem_of_getElem? (i := 107) rfl))) (mvT hZ (hw _ (List.mem_of_getElem? (i := 108) rfl))) (notFace_of_selects (args := #[]) (mvT hZ (hw _ (List.mem_of_getElem? (i := 110) rfl)))) (mvT hZ (hw _ (List.mem_of_getElem? (i := 110) rfl))) (mvT hZ (hw _ (List.mem_of_getElem? (i := 109) rfl))) (by decide) (backOf (W := 0) (own_rm16 l Z a0 hw [] b87 bb_90 kb_90 nn_90 (own_lstJ 5 gg_90) (own_sum q1 (own_min q2 q3) (own_max q2 q3) (2 : Int64).toInt.toNat) T90.heap n0 Z94 G90_2 G90_3 (by assumption : 0 < nn_90.toInt) (by assumption : (own_lstJ 5 gg_90).getD (nn_90 - (1 : Int32)).toNatClampNeg (.long (0 : Int64)) = (.long (own_sum q1 (own_min q2 q3) (own_max q2 q3) (2 : Int64).toInt.toNat)))) hZ (hw _ (List.mem_of_getElem? (i := 111) rfl)) (hw _ (List.mem_of_getElem? (i := 78) rfl)) (by decide) (by decide)) q95a q95c (g := (mkF m 140 #[.val (.long q1), .second, .val (.long q2), .second, .val (.long q3), .second, .val (.int v4), .val (.long q5), .second, .val (.int v6), .val (.long (own_min q2 q3)), .second, .val (.long (own_max q2 q3)), .second, .val (.long (2 : Int64)), .second, .val (.ref b77), .val (.long (own_btw (own_min q2 q3) (own_max q2 q3) ((own_mix (q1 + ((0 : Int64) * (-7046029254386353131 : Int64)))) + (-7046029254386353131 : Int64)))), .second, .val (.long (own_btw (own_min q2 q3) (own_max q2 q3) ((own_mix (q1 + ((1 : Int64) * (-7046029254386353131 : Int64)))) + (-7046029254386353131 : Int64)))), .second, .val (.long (own_btw (own_min q2 q3) (own_max q2 q3) ((own_mix (q1 + ((2 : Int64) * (-7046029254386353131 : Int64)))) + (-7046029254386353131 : Int64)))), .second, .val (.long (((0 : Int64) + (own_btw (own_min q2 q3) (own_max q2 q3) ((own_mix (q1 + ((0 : Int64) * (-7046029254386353131 : Int64)))) + (-7046029254386353131 : Int64)))) + (own_btw (own_min q2 q3) (own_max q2 q3) ((own_mix (q1 + ((1 : Int64) * (-7046029254386353131 : Int64)))) + (-7046029254386353131 : Int64))))), .second, .val (.ref b87), .unset, .unset, .unset, .unset, .unset] [(.ref b87)])) rfl (by rw [hml]; rfl) (Steps.refl _) (argsL := []) (rest := []) (lenOf own_pd3 rfl) rfl (by show 2 * 0 + _ ≤ _; exact Nat.le_of_eq rfl) (hb hby at_140) (fun _ _ => ⟨rfl, rfl, (by decide : 8 + 0 ≤ _), (by decide : 33 + 0 ≤ _)⟩)
    dsimp only [Pt.U, Pt.locs, Pt.cells, Pt.slots] at X95 lq95 yq95 zq95 st95 hQ95
    subst lq95 yq95 zq95
    obtain ⟨rfl, Nq95, eh95⟩ := hQ95
    have N95 := Fr.app N90 Nq95
    refine own_st (G' := T95.setTop (mkF m 143 #[.val (.long q1), .second, .val (.long q2), .second, .val (.long q3), .second, .val (.int v4), .val (.long q5), .second, .val (.int v6), .val (.long (own_min q2 q3)), .second, .val (.long (own_max q2 q3)), .second, .val (.long (2 : Int64)), .second, .val (.ref b77), .val (.long (own_btw (own_min q2 q3) (own_max q2 q3) ((own_mix (q1 + ((0 : Int64) * (-7046029254386353131 : Int64)))) + (-7046029254386353131 : Int64)))), .second, .val (.long (own_btw (own_min q2 q3) (own_max q2 q3) ((own_mix (q1 + ((1 : Int64) * (-7046029254386353131 : Int64)))) + (-7046029254386353131 : Int64)))), .second, .val (.long (own_btw (own_min q2 q3) (own_max q2 q3) ((own_mix (q1 + ((2 : Int64) * (-7046029254386353131 : Int64)))) + (-7046029254386353131 : Int64)))), .second, .val (.long (((0 : Int64) + (own_btw (own_min q2 q3) (own_max q2 q3) ((own_mix (q1 + ((0 : Int64) * (-7046029254386353131 : Int64)))) + (-7046029254386353131 : Int64)))) + (own_btw (own_min q2 q3) (own_max q2 q3) ((own_mix (q1 + ((1 : Int64) * (-7046029254386353131 : Int64)))) + (-7046029254386353131 : Int64))))), .second, .val (.ref b87), .unset, .unset, .unset, .unset, .unset] [(.long (own_sum q1 (own_min q2 q3) (own_max q2 q3) (2 : Int64).toInt.toNat))])) (fun t k => st95.trans k) ?_
    refine own_lload X95 hx 145 (hb hby at_143) rfl ?_
    refine own_lcmp X95 hx 146 (hb hby at_145) ?_
    refine own_ifNo X95 hx 149 (hb hby at_146) (teq ((lw_eq _ _).mpr (by first | rfl | (simp only [own_sum]; rfl) : (own_sum q1 (own_min q2 q3) (own_max q2 q3) (2 : Int64).toInt.toNat) = (((0 : Int64) + (own_btw (own_min q2 q3) (own_max q2 q3) ((own_mix (q1 + ((0 : Int64) * (-7046029254386353131 : Int64)))) + (-7046029254386353131 : Int64)))) + (own_btw (own_min q2 q3) (own_max q2 q3) ((own_mix (q1 + ((1 : Int64) * (-7046029254386353131 : Int64)))) + (-7046029254386353131 : Int64))))))).2 ?_
    refine own_iconst X95 hx 150 (1 : Int32) (hb hby at_149) rfl ?_
    refine own_goto X95 hx 154 (hb hby at_150) ?_
    refine own_istore X95 hx 156 #[.val (.long q1), .second, .val (.long q2), .second, .val (.long q3), .second, .val (.int v4), .val (.long q5), .second, .val (.int v6), .val (.long (own_min q2 q3)), .second, .val (.long (own_max q2 q3)), .second, .val (.long (2 : Int64)), .second, .val (.ref b77), .val (.long (own_btw (own_min q2 q3) (own_max q2 q3) ((own_mix (q1 + ((0 : Int64) * (-7046029254386353131 : Int64)))) + (-7046029254386353131 : Int64)))), .second, .val (.long (own_btw (own_min q2 q3) (own_max q2 q3) ((own_mix (q1 + ((1 : Int64) * (-7046029254386353131 : Int64)))) + (-7046029254386353131 : Int64)))), .second, .val (.long (own_btw (own_min q2 q3) (own_max q2 q3) ((own_mix (q1 + ((2 : Int64) * (-7046029254386353131 : Int64)))) + (-7046029254386353131 : Int64)))), .second, .val (.long (((0 : Int64) + (own_btw (own_min q2 q3) (own_max q2 q3) ((own_mix (q1 + ((0 : Int64) * (-7046029254386353131 : Int64)))) + (-7046029254386353131 : Int64)))) + (own_btw (own_min q2 q3) (own_max q2 q3) ((own_mix (q1 + ((1 : Int64) * (-7046029254386353131 : Int64)))) + (-7046029254386353131 : Int64))))), .second, .val (.ref b87), .val (.int (1 : Int32)), .unset, .unset, .unset, .unset] (hb hby at_154) rfl ?_
    refine own_iload X95 hx 158 (hb hby at_156) rfl ?_
    refine own_sipush X95 hx 161 (511 : Int32) (hb hby at_158) rfl ?_
    refine own_iand X95 hx 162 (hb hby at_161) ?_
    refine own_i2l X95 hx 163 (hb hby at_162) ?_
    refine own_lstore X95 hx 165 #[.val (.long q1), .second, .val (.long q2), .second, .val (.long q3), .second, .val (.int v4), .val (.long q5), .second, .val (.int v6), .val (.long (own_min q2 q3)), .second, .val (.long (own_max q2 q3)), .second, .val (.long (2 : Int64)), .second, .val (.ref b77), .val (.long (own_btw (own_min q2 q3) (own_max q2 q3) ((own_mix (q1 + ((0 : Int64) * (-7046029254386353131 : Int64)))) + (-7046029254386353131 : Int64)))), .second, .val (.long (own_btw (own_min q2 q3) (own_max q2 q3) ((own_mix (q1 + ((1 : Int64) * (-7046029254386353131 : Int64)))) + (-7046029254386353131 : Int64)))), .second, .val (.long (own_btw (own_min q2 q3) (own_max q2 q3) ((own_mix (q1 + ((2 : Int64) * (-7046029254386353131 : Int64)))) + (-7046029254386353131 : Int64)))), .second, .val (.long (((0 : Int64) + (own_btw (own_min q2 q3) (own_max q2 q3) ((own_mix (q1 + ((0 : Int64) * (-7046029254386353131 : Int64)))) + (-7046029254386353131 : Int64)))) + (own_btw (own_min q2 q3) (own_max q2 q3) ((own_mix (q1 + ((1 : Int64) * (-7046029254386353131 : Int64)))) + (-7046029254386353131 : Int64))))), .second, .val (.ref b87), .val (.int (1 : Int32)), .val (.long ((v6 &&& (511 : Int32)).toInt64)), .second, .unset, .unset] (hb hby at_163) rfl ?_
    obtain ⟨T96, h96, X96, e96, E96, A96, D96, -, st96⟩ := newO X95 hx hZ hown (hw _ (List.mem_of_getElem? (i := 76) rfl)) (hw _ (List.mem_of_getElem? (i := 77) rfl)) (hw _ (List.mem_of_getElem? (i := 78) rfl)) eh95 (g := (mkF m 165 #[.val (.long q1), .second, .val (.long q2), .second, .val (.long q3), .second, .val (.int v4), .val (.long q5), .second, .val (.int v6), .val (.long (own_min q2 q3)), .second, .val (.long (own_max q2 q3)), .second, .val (.long (2 : Int64)), .second, .val (.ref b77), .val (.long (own_btw (own_min q2 q3) (own_max q2 q3) ((own_mix (q1 + ((0 : Int64) * (-7046029254386353131 : Int64)))) + (-7046029254386353131 : Int64)))), .second, .val (.long (own_btw (own_min q2 q3) (own_max q2 q3) ((own_mix (q1 + ((1 : Int64) * (-7046029254386353131 : Int64)))) + (-7046029254386353131 : Int64)))), .second, .val (.long (own_btw (own_min q2 q3) (own_max q2 q3) ((own_mix (q1 + ((2 : Int64) * (-7046029254386353131 : Int64)))) + (-7046029254386353131 : Int64)))), .second, .val (.long (((0 : Int64) + (own_btw (own_min q2 q3) (own_max q2 q3) ((own_mix (q1 + ((0 : Int64) * (-7046029254386353131 : Int64)))) + (-7046029254386353131 : Int64)))) + (own_btw (own_min q2 q3) (own_max q2 q3) ((own_mix (q1 + ((1 : Int64) * (-7046029254386353131 : Int64)))) + (-7046029254386353131 : Int64))))), .second, .val (.ref b87), .val (.int (1 : Int32)), .val (.long ((v6 &&& (511 : Int32)).toInt64)), .second, .unset, .unset] [])) rfl (hb hby at_165) (by decide) (by decide)
    obtain ⟨b96, g96⟩ : ∃ z, z = T90.heap.size := ⟨_, rfl⟩
    rw [← g96] at A96 D96 st96
    have f97 := (f91.keep Kp90)
    have ne98 : b77 ≠ b96 := Nat.ne_of_lt (Nat.lt_of_lt_of_le f97.lt (Nat.le_of_eq g96.symm))
    have ne99 : b87 ≠ b96 := Nat.ne_of_lt (Nat.lt_of_lt_of_le G90_0.lt (Nat.le_of_eq g96.symm))
    have ne100 : bb_90 ≠ b96 := Nat.ne_of_lt (Nat.lt_of_lt_of_le G90_3.lt (Nat.le_of_eq g96.symm))
    have gt_b96 : n0 ≤ b96 := Nat.le_trans Z94 (Nat.le_of_eq g96.symm)
    have Z101 := Nat.le_trans Z94 E96.1
    have F96_draws : Fld Z h96 b96 "com/example/loomsand/loomsand/ParentRows" "draws" "Lcom/example/loomsand/loomsand/Draws;" .null := D96 (Or.inr (hw _ (List.mem_of_getElem? (i := 86) rfl))) (ty := (.object "com/example/loomsand/loomsand/Draws")) (by decide)
    have F96_key : Fld Z h96 b96 "com/example/loomsand/loomsand/ParentRows" "key" "J" (.long (0 : Int64)) := D96 (Or.inr (hw _ (List.mem_of_getElem? (i := 88) rfl))) (ty := .long) (by decide)
    have F96_min : Fld Z h96 b96 "com/example/loomsand/loomsand/ParentRows" "min" "J" (.long (0 : Int64)) := D96 (Or.inr (hw _ (List.mem_of_getElem? (i := 90) rfl))) (ty := .long) (by decide)
    have F96_max : Fld Z h96 b96 "com/example/loomsand/loomsand/ParentRows" "max" "J" (.long (0 : Int64)) := D96 (Or.inr (hw _ (List.mem_of_getElem? (i := 92) rfl))) (ty := .long) (by decide)
    have F96_block : Fld Z h96 b96 "com/example/loomsand/loomsand/ParentRows" "block" "J" (.long (0 : Int64)) := D96 (Or.inr (hw _ (List.mem_of_getElem? (i := 97) rfl))) (ty := .long) (by decide)
    have F96_starts : Fld Z h96 b96 "com/example/loomsand/loomsand/ParentRows" "starts" "[J" .null := D96 (Or.inr (hw _ (List.mem_of_getElem? (i := 100) rfl))) (ty := (.array .long)) (by decide)
    refine own_st (G' := T96.setTop (mkF m 168 #[.val (.long q1), .second, .val (.long q2), .second, .val (.long q3), .second, .val (.int v4), .val (.long q5), .second, .val (.int v6), .val (.long (own_min q2 q3)), .second, .val (.long (own_max q2 q3)), .second, .val (.long (2 : Int64)), .second, .val (.ref b77), .val (.long (own_btw (own_min q2 q3) (own_max q2 q3) ((own_mix (q1 + ((0 : Int64) * (-7046029254386353131 : Int64)))) + (-7046029254386353131 : Int64)))), .second, .val (.long (own_btw (own_min q2 q3) (own_max q2 q3) ((own_mix (q1 + ((1 : Int64) * (-7046029254386353131 : Int64)))) + (-7046029254386353131 : Int64)))), .second, .val (.long (own_btw (own_min q2 q3) (own_max q2 q3) ((own_mix (q1 + ((2 : Int64) * (-7046029254386353131 : Int64)))) + (-7046029254386353131 : Int64)))), .second, .val (.long (((0 : Int64) + (own_btw (own_min q2 q3) (own_max q2 q3) ((own_mix (q1 + ((0 : Int64) * (-7046029254386353131 : Int64)))) + (-7046029254386353131 : Int64)))) + (own_btw (own_min q2 q3) (own_max q2 q3) ((own_mix (q1 + ((1 : Int64) * (-7046029254386353131 : Int64)))) + (-7046029254386353131 : Int64))))), .second, .val (.ref b87), .val (.int (1 : Int32)), .val (.long ((v6 &&& (511 : Int32)).toInt64)), .second, .unset, .unset] [(.ref b96)])) st96 ?_
    refine own_dup X96 hx 169 (hb hby at_168) rfl ?_
    refine own_lloadN X96 hx 170 (hb hby at_169) rfl ?_
    refine own_lload X96 hx 172 (hb hby at_170) rfl ?_
    refine own_lload X96 hx 174 (hb hby at_172) rfl ?_
    refine own_lload X96 hx 176 (hb hby at_174) rfl ?_
    obtain ⟨_, _, ⟨T102, Lx102, kc102, nc102⟩, -, X102, ⟨Lc102, hQ102, lq102, yq102, zq102⟩, st102⟩ := X96.specialBack hx (y := (⟨"com/example/loomsand/loomsand/ParentRows", "<init>", "(JJJJ)V"⟩ : MethodName)) rfl hown (mvT hZ (hw _ (List.mem_of_getElem? (i := 79) rfl))) (mvT hZ (hw _ (List.mem_of_getElem? (i := 80) rfl))) (mvT hZ (hw _ (List.mem_of_getElem? (i := 81) rfl))) (by decide) (backOf (W := 1) (own_rm14 l Z a0 hw [] b96 q1 ((v6 &&& (511 : Int32)).toInt64) q5 q5 h96 n0 Z101 A96 F96_draws F96_key F96_min F96_max F96_block F96_starts gt_b96 (own_nlt _ : ¬ (q5 < q5)) (own_511 _ : 0 ≤ ((v6 &&& (511 : Int32)).toInt64).toInt ∧ ((v6 &&& (511 : Int32)).toInt64).toInt ≤ 511)) hZ (hw _ (List.mem_of_getElem? (i := 81) rfl)) (hw _ (List.mem_of_getElem? (i := 78) rfl)) (by decide) (by decide)) (g := (mkF m 176 #[.val (.long q1), .second, .val (.long q2), .second, .val (.long q3), .second, .val (.int v4), .val (.long q5), .second, .val (.int v6), .val (.long (own_min q2 q3)), .second, .val (.long (own_max q2 q3)), .second, .val (.long (2 : Int64)), .second, .val (.ref b77), .val (.long (own_btw (own_min q2 q3) (own_max q2 q3) ((own_mix (q1 + ((0 : Int64) * (-7046029254386353131 : Int64)))) + (-7046029254386353131 : Int64)))), .second, .val (.long (own_btw (own_min q2 q3) (own_max q2 q3) ((own_mix (q1 + ((1 : Int64) * (-7046029254386353131 : Int64)))) + (-7046029254386353131 : Int64)))), .second, .val (.long (own_btw (own_min q2 q3) (own_max q2 q3) ((own_mix (q1 + ((2 : Int64) * (-7046029254386353131 : Int64)))) + (-7046029254386353131 : Int64)))), .second, .val (.long (((0 : Int64) + (own_btw (own_min q2 q3) (own_max q2 q3) ((own_mix (q1 + ((0 : Int64) * (-7046029254386353131 : Int64)))) + (-7046029254386353131 : Int64)))) + (own_btw (own_min q2 q3) (own_max q2 q3) ((own_mix (q1 + ((1 : Int64) * (-7046029254386353131 : Int64)))) + (-7046029254386353131 : Int64))))), .second, .val (.ref b87), .val (.int (1 : Int32)), .val (.long ((v6 &&& (511 : Int32)).toInt64)), .second, .unset, .unset] [(.long q5), (.long q5), (.long ((v6 &&& (511 : Int32)).toInt64)), (.long q1), (.ref b96), (.ref b96)])) rfl (by rw [hml]; rfl) (Steps.refl _) (a := b96) (argsL := [(.long q1), (.long ((v6 &&& (511 : Int32)).toInt64)), (.long q5), (.long q5)]) (rest := [(.ref b96)]) (lenOf own_pd8 rfl) rfl (by show 2 * 0 + _ ≤ _; exact Nat.le_of_eq rfl) (hb hby at_176) (fun _ _ => ⟨rfl, e96, (by decide : 9 + 4 ≤ _), (by decide : 43 + 14 ≤ _)⟩)
    dsimp only [Pt.U, Pt.locs, Pt.cells, Pt.slots] at X102 lq102 yq102 zq102 st102 hQ102
    subst lq102 yq102 zq102
    obtain ⟨bb_102, kb_102, nn_102, gg_102, rfl, Nq102, Kp102, G102_0, G102_1, G102_2, G102_3, P102_0, P102_1⟩ := hQ102
    have N102 := Fr.app N95 Nq102
    have f103 := (f97.ext E96)
    have ne104 : b77 ≠ bb_102 := Nat.ne_of_lt (Nat.lt_of_lt_of_le f103.lt G102_1)
    have f105 := (G90_0.ext E96)
    have ne106 : b87 ≠ bb_102 := Nat.ne_of_lt (Nat.lt_of_lt_of_le f105.lt G102_1)
    have f107 := (G90_3.ext E96)
    have ne108 : bb_90 ≠ bb_102 := Nat.ne_of_lt (Nat.lt_of_lt_of_le f107.lt G102_1)
    have ne109 : b96 ≠ bb_102 := Nat.ne_of_lt (Nat.lt_of_lt_of_le A96.lt G102_1)
    have gt_bb_102 : n0 ≤ bb_102 := Nat.le_trans Z101 G102_1
    have Z110 := Nat.le_trans Z101 Kp102.1
    refine own_st (G' := T102.setTop (mkF m 179 #[.val (.long q1), .second, .val (.long q2), .second, .val (.long q3), .second, .val (.int v4), .val (.long q5), .second, .val (.int v6), .val (.long (own_min q2 q3)), .second, .val (.long (own_max q2 q3)), .second, .val (.long (2 : Int64)), .second, .val (.ref b77), .val (.long (own_btw (own_min q2 q3) (own_max q2 q3) ((own_mix (q1 + ((0 : Int64) * (-7046029254386353131 : Int64)))) + (-7046029254386353131 : Int64)))), .second, .val (.long (own_btw (own_min q2 q3) (own_max q2 q3) ((own_mix (q1 + ((1 : Int64) * (-7046029254386353131 : Int64)))) + (-7046029254386353131 : Int64)))), .second, .val (.long (own_btw (own_min q2 q3) (own_max q2 q3) ((own_mix (q1 + ((2 : Int64) * (-7046029254386353131 : Int64)))) + (-7046029254386353131 : Int64)))), .second, .val (.long (((0 : Int64) + (own_btw (own_min q2 q3) (own_max q2 q3) ((own_mix (q1 + ((0 : Int64) * (-7046029254386353131 : Int64)))) + (-7046029254386353131 : Int64)))) + (own_btw (own_min q2 q3) (own_max q2 q3) ((own_mix (q1 + ((1 : Int64) * (-7046029254386353131 : Int64)))) + (-7046029254386353131 : Int64))))), .second, .val (.ref b87), .val (.int (1 : Int32)), .val (.long ((v6 &&& (511 : Int32)).toInt64)), .second, .unset, .unset] [(.ref b96)])) (fun t k => st102.trans k) ?_
    refine own_astore X102 hx 181 #[.val (.long q1), .second, .val (.long q2), .second, .val (.long q3), .second, .val (.int v4), .val (.long q5), .second, .val (.int v6), .val (.long (own_min q2 q3)), .second, .val (.long (own_max q2 q3)), .second, .val (.long (2 : Int64)), .second, .val (.ref b77), .val (.long (own_btw (own_min q2 q3) (own_max q2 q3) ((own_mix (q1 + ((0 : Int64) * (-7046029254386353131 : Int64)))) + (-7046029254386353131 : Int64)))), .second, .val (.long (own_btw (own_min q2 q3) (own_max q2 q3) ((own_mix (q1 + ((1 : Int64) * (-7046029254386353131 : Int64)))) + (-7046029254386353131 : Int64)))), .second, .val (.long (own_btw (own_min q2 q3) (own_max q2 q3) ((own_mix (q1 + ((2 : Int64) * (-7046029254386353131 : Int64)))) + (-7046029254386353131 : Int64)))), .second, .val (.long (((0 : Int64) + (own_btw (own_min q2 q3) (own_max q2 q3) ((own_mix (q1 + ((0 : Int64) * (-7046029254386353131 : Int64)))) + (-7046029254386353131 : Int64)))) + (own_btw (own_min q2 q3) (own_max q2 q3) ((own_mix (q1 + ((1 : Int64) * (-7046029254386353131 : Int64)))) + (-7046029254386353131 : Int64))))), .second, .val (.ref b87), .val (.int (1 : Int32)), .val (.long ((v6 &&& (511 : Int32)).toInt64)), .second, .val (.ref b96), .unset] (hb hby at_179) rfl rfl ?_
    refine own_aload X102 hx 183 (hb hby at_181) rfl rfl ?_
    obtain ⟨cq111, kq111, q111a, q111b, q111c⟩ := isOf hZ rfl G102_0
    obtain ⟨_, _, ⟨T111, Lx111, kc111, nc111⟩, -, X111, ⟨Lc111, hQ111, lq111, yq111, zq111⟩, st111⟩ := X102.virtualBack hx (y := (⟨"com/example/loomsand/loomsand/ParentRows", "total", "()J"⟩ : MethodName)) (z := (⟨"com/example/loomsand/loomsand/ParentRows", "total", "()J"⟩ : MethodName)) hown (mvT hZ (hw _ (List.mem_of_getElem? (i := 107) rfl))) (mvT hZ (hw _ (List.mem_of_getElem? (i := 108) rfl))) (notFace_of_selects (args := #[]) (mvT hZ (hw _ (List.mem_of_getElem? (i := 110) rfl)))) (mvT hZ (hw _ (List.mem_of_getElem? (i := 110) rfl))) (mvT hZ (hw _ (List.mem_of_getElem? (i := 109) rfl))) (by decide) (backOf (W := 0) (own_rm16 l Z a0 hw [] b96 bb_102 kb_102 nn_102 (own_lstJ 5 gg_102) (own_sum q1 q5 q5 ((v6 &&& (511 : Int32)).toInt64).toInt.toNat) T102.heap n0 Z110 G102_2 G102_3 (by assumption : 0 < nn_102.toInt) (by assumption : (own_lstJ 5 gg_102).getD (nn_102 - (1 : Int32)).toNatClampNeg (.long (0 : Int64)) = (.long (own_sum q1 q5 q5 ((v6 &&& (511 : Int32)).toInt64).toInt.toNat)))) hZ (hw _ (List.mem_of_getElem? (i := 111) rfl)) (hw _ (List.mem_of_getElem? (i := 78) rfl)) (by decide) (by decide)) q111a q111c (g := (mkF m 183 #[.val (.long q1), .second, .val (.long q2), .second, .val (.long q3), .second, .val (.int v4), .val (.long q5), .second, .val (.int v6), .val (.long (own_min q2 q3)), .second, .val (.long (own_max q2 q3)), .second, .val (.long (2 : Int64)), .second, .val (.ref b77), .val (.long (own_btw (own_min q2 q3) (own_max q2 q3) ((own_mix (q1 + ((0 : Int64) * (-7046029254386353131 : Int64)))) + (-7046029254386353131 : Int64)))), .second, .val (.long (own_btw (own_min q2 q3) (own_max q2 q3) ((own_mix (q1 + ((1 : Int64) * (-7046029254386353131 : Int64)))) + (-7046029254386353131 : Int64)))), .second, .val (.long (own_btw (own_min q2 q3) (own_max q2 q3) ((own_mix (q1 + ((2 : Int64) * (-7046029254386353131 : Int64)))) + (-7046029254386353131 : Int64)))), .second, .val (.long (((0 : Int64) + (own_btw (own_min q2 q3) (own_max q2 q3) ((own_mix (q1 + ((0 : Int64) * (-7046029254386353131 : Int64)))) + (-7046029254386353131 : Int64)))) + (own_btw (own_min q2 q3) (own_max q2 q3) ((own_mix (q1 + ((1 : Int64) * (-7046029254386353131 : Int64)))) + (-7046029254386353131 : Int64))))), .second, .val (.ref b87), .val (.int (1 : Int32)), .val (.long ((v6 &&& (511 : Int32)).toInt64)), .second, .val (.ref b96), .unset] [(.ref b96)])) rfl (by rw [hml]; rfl) (Steps.refl _) (argsL := []) (rest := []) (lenOf own_pd3 rfl) rfl (by show 2 * 0 + _ ≤ _; exact Nat.le_of_eq rfl) (hb hby at_183) (fun _ _ => ⟨rfl, rfl, (by decide : 13 + 0 ≤ _), (by decide : 57 + 0 ≤ _)⟩)
    dsimp only [Pt.U, Pt.locs, Pt.cells, Pt.slots] at X111 lq111 yq111 zq111 st111 hQ111
    subst lq111 yq111 zq111
    obtain ⟨rfl, Nq111, eh111⟩ := hQ111
    have N111 := Fr.app N102 Nq111
    refine own_st (G' := T111.setTop (mkF m 186 #[.val (.long q1), .second, .val (.long q2), .second, .val (.long q3), .second, .val (.int v4), .val (.long q5), .second, .val (.int v6), .val (.long (own_min q2 q3)), .second, .val (.long (own_max q2 q3)), .second, .val (.long (2 : Int64)), .second, .val (.ref b77), .val (.long (own_btw (own_min q2 q3) (own_max q2 q3) ((own_mix (q1 + ((0 : Int64) * (-7046029254386353131 : Int64)))) + (-7046029254386353131 : Int64)))), .second, .val (.long (own_btw (own_min q2 q3) (own_max q2 q3) ((own_mix (q1 + ((1 : Int64) * (-7046029254386353131 : Int64)))) + (-7046029254386353131 : Int64)))), .second, .val (.long (own_btw (own_min q2 q3) (own_max q2 q3) ((own_mix (q1 + ((2 : Int64) * (-7046029254386353131 : Int64)))) + (-7046029254386353131 : Int64)))), .second, .val (.long (((0 : Int64) + (own_btw (own_min q2 q3) (own_max q2 q3) ((own_mix (q1 + ((0 : Int64) * (-7046029254386353131 : Int64)))) + (-7046029254386353131 : Int64)))) + (own_btw (own_min q2 q3) (own_max q2 q3) ((own_mix (q1 + ((1 : Int64) * (-7046029254386353131 : Int64)))) + (-7046029254386353131 : Int64))))), .second, .val (.ref b87), .val (.int (1 : Int32)), .val (.long ((v6 &&& (511 : Int32)).toInt64)), .second, .val (.ref b96), .unset] [(.long (own_sum q1 q5 q5 ((v6 &&& (511 : Int32)).toInt64).toInt.toNat))])) (fun t k => st111.trans k) ?_
    refine own_lload X111 hx 188 (hb hby at_186) rfl ?_
    refine own_lload X111 hx 190 (hb hby at_188) rfl ?_
    refine own_lmul X111 hx 191 (hb hby at_190) ?_
    refine own_lcmp X111 hx 192 (hb hby at_191) ?_
    refine own_ifNo X111 hx 195 (hb hby at_192) (teq ((lw_eq _ _).mpr (own_flat _ _ _ : (own_sum q1 q5 q5 ((v6 &&& (511 : Int32)).toInt64).toInt.toNat) = (((v6 &&& (511 : Int32)).toInt64) * q5)))).2 ?_
    refine own_iconst X111 hx 196 (1 : Int32) (hb hby at_195) rfl ?_
    refine own_goto X111 hx 200 (hb hby at_196) ?_
    refine own_istore X111 hx 202 #[.val (.long q1), .second, .val (.long q2), .second, .val (.long q3), .second, .val (.int v4), .val (.long q5), .second, .val (.int v6), .val (.long (own_min q2 q3)), .second, .val (.long (own_max q2 q3)), .second, .val (.long (2 : Int64)), .second, .val (.ref b77), .val (.long (own_btw (own_min q2 q3) (own_max q2 q3) ((own_mix (q1 + ((0 : Int64) * (-7046029254386353131 : Int64)))) + (-7046029254386353131 : Int64)))), .second, .val (.long (own_btw (own_min q2 q3) (own_max q2 q3) ((own_mix (q1 + ((1 : Int64) * (-7046029254386353131 : Int64)))) + (-7046029254386353131 : Int64)))), .second, .val (.long (own_btw (own_min q2 q3) (own_max q2 q3) ((own_mix (q1 + ((2 : Int64) * (-7046029254386353131 : Int64)))) + (-7046029254386353131 : Int64)))), .second, .val (.long (((0 : Int64) + (own_btw (own_min q2 q3) (own_max q2 q3) ((own_mix (q1 + ((0 : Int64) * (-7046029254386353131 : Int64)))) + (-7046029254386353131 : Int64)))) + (own_btw (own_min q2 q3) (own_max q2 q3) ((own_mix (q1 + ((1 : Int64) * (-7046029254386353131 : Int64)))) + (-7046029254386353131 : Int64))))), .second, .val (.ref b87), .val (.int (1 : Int32)), .val (.long ((v6 &&& (511 : Int32)).toInt64)), .second, .val (.ref b96), .val (.int (1 : Int32))] (hb hby at_200) rfl ?_
    refine own_iload X111 hx 204 (hb hby at_202) rfl ?_
    refine own_ifNo X111 hx 207 (hb hby at_204) (feq (by decide : ¬ ((1 : Int32) = (0 : Int32)))).1 ?_
    refine own_iload X111 hx 209 (hb hby at_207) rfl ?_
    refine own_ifNo X111 hx 212 (hb hby at_209) (feq (by decide : ¬ ((1 : Int32) = (0 : Int32)))).1 ?_
    refine own_iconst X111 hx 213 (1 : Int32) (hb hby at_212) rfl ?_
    refine own_goto X111 hx 217 (hb hby at_213) ?_
    exact own_retN (t := .boolean) (z := (1 : Int32)) (Q := own_Q0 Z q1 q2 q3 v4 q5 v6 h0 n0) X111 hx hrt (by simp) (hb hby at_217) hlk eh111 ⟨rfl, N111⟩ (by decide) (by decide)
  · rw [hk6]
    refine own_i2l X2 hx 21 (hb hby at_20) ?_
    show own_Gs p e below _ (T2.setTop (mkF m 21 #[.val (.long q1), .second, .val (.long q2), .second, .val (.long q3), .second, .val (.int v4), .val (.long q5), .second, .val (.int v6), .val (.long (own_min q2 q3)), .second, .val (.long (own_max q2 q3)), .second, .unset, .unset, .unset, .unset, .unset, .unset, .unset, .unset, .unset, .unset, .unset, .unset, .unset, .unset, .unset, .unset, .unset] [(.long (3 : Int64))]))
    refine own_lstore X2 hx 23 #[.val (.long q1), .second, .val (.long q2), .second, .val (.long q3), .second, .val (.int v4), .val (.long q5), .second, .val (.int v6), .val (.long (own_min q2 q3)), .second, .val (.long (own_max q2 q3)), .second, .val (.long (3 : Int64)), .second, .unset, .unset, .unset, .unset, .unset, .unset, .unset, .unset, .unset, .unset, .unset, .unset, .unset, .unset, .unset] (hb hby at_21) rfl ?_
    obtain ⟨T112, h112, X112, e112, E112, A112, D112, -, st112⟩ := newO X2 hx hZ hown (hw _ (List.mem_of_getElem? (i := 7) rfl)) (hw _ (List.mem_of_getElem? (i := 8) rfl)) (hw _ (List.mem_of_getElem? (i := 9) rfl)) eh2 (g := (mkF m 23 #[.val (.long q1), .second, .val (.long q2), .second, .val (.long q3), .second, .val (.int v4), .val (.long q5), .second, .val (.int v6), .val (.long (own_min q2 q3)), .second, .val (.long (own_max q2 q3)), .second, .val (.long (3 : Int64)), .second, .unset, .unset, .unset, .unset, .unset, .unset, .unset, .unset, .unset, .unset, .unset, .unset, .unset, .unset, .unset] [])) rfl (hb hby at_23) (by decide) (by decide)
    obtain ⟨b112, g112⟩ : ∃ z, z = h0.size := ⟨_, rfl⟩
    rw [← g112] at A112 D112 st112
    have gt_b112 : n0 ≤ b112 := Nat.le_trans Z0 (Nat.le_of_eq g112.symm)
    have Z113 := Nat.le_trans Z0 E112.1
    have F112_shuffle : Fld Z h112 b112 "com/example/loomsand/loomsand/Draws" "shuffle" "Lcom/example/loomsand/loomsand/Feistel;" .null := D112 (Or.inr (hw _ (List.mem_of_getElem? (i := 30) rfl))) (ty := (.object "com/example/loomsand/loomsand/Feistel")) (by decide)
    have F112_key : Fld Z h112 b112 "com/example/loomsand/loomsand/Draws" "key" "J" (.long (0 : Int64)) := D112 (Or.inl (hw _ (List.mem_of_getElem? (i := 41) rfl))) (ty := .long) (by decide)
    have F112_row : Fld Z h112 b112 "com/example/loomsand/loomsand/Draws" "row" "J" (.long (0 : Int64)) := D112 (Or.inl (hw _ (List.mem_of_getElem? (i := 43) rfl))) (ty := .long) (by decide)
    have F112_state : Fld Z h112 b112 "com/example/loomsand/loomsand/Draws" "state" "J" (.long (0 : Int64)) := D112 (Or.inl (hw _ (List.mem_of_getElem? (i := 51) rfl))) (ty := .long) (by decide)
    refine own_st (G' := T112.setTop (mkF m 26 #[.val (.long q1), .second, .val (.long q2), .second, .val (.long q3), .second, .val (.int v4), .val (.long q5), .second, .val (.int v6), .val (.long (own_min q2 q3)), .second, .val (.long (own_max q2 q3)), .second, .val (.long (3 : Int64)), .second, .unset, .unset, .unset, .unset, .unset, .unset, .unset, .unset, .unset, .unset, .unset, .unset, .unset, .unset, .unset] [(.ref b112)])) st112 ?_
    refine own_dup X112 hx 27 (hb hby at_26) rfl ?_
    obtain ⟨_, _, ⟨T114, Lx114, kc114, nc114⟩, -, X114, ⟨Lc114, hQ114, lq114, yq114, zq114⟩, st114⟩ := X112.specialBack hx (y := (⟨"com/example/loomsand/loomsand/Draws", "<init>", "()V"⟩ : MethodName)) rfl hown (mvT hZ (hw _ (List.mem_of_getElem? (i := 10) rfl))) (mvT hZ (hw _ (List.mem_of_getElem? (i := 11) rfl))) (mvT hZ (hw _ (List.mem_of_getElem? (i := 12) rfl))) (by decide) (backOf (W := 1) (own_rm3 l Z a0 hw [] b112 h112 n0 Z113 A112 F112_shuffle F112_key F112_row F112_state gt_b112) hZ (hw _ (List.mem_of_getElem? (i := 12) rfl)) (hw _ (List.mem_of_getElem? (i := 9) rfl)) (by decide) (by decide)) (g := (mkF m 27 #[.val (.long q1), .second, .val (.long q2), .second, .val (.long q3), .second, .val (.int v4), .val (.long q5), .second, .val (.int v6), .val (.long (own_min q2 q3)), .second, .val (.long (own_max q2 q3)), .second, .val (.long (3 : Int64)), .second, .unset, .unset, .unset, .unset, .unset, .unset, .unset, .unset, .unset, .unset, .unset, .unset, .unset, .unset, .unset] [(.ref b112), (.ref b112)])) rfl (by rw [hml]; rfl) (Steps.refl _) (a := b112) (argsL := []) (rest := [(.ref b112)]) (lenOf own_pd6 rfl) rfl (by show 2 * 0 + _ ≤ _; exact Nat.le_of_eq rfl) (hb hby at_27) (fun _ _ => ⟨rfl, e112, (by decide : 1 + 2 ≤ _), (by decide : 5 + 4 ≤ _)⟩)
    dsimp only [Pt.U, Pt.locs, Pt.cells, Pt.slots] at X114 lq114 yq114 zq114 st114 hQ114
    subst lq114 yq114 zq114
    obtain ⟨rfl, Nq114, Kp114, G114_0, G114_1, G114_2, G114_3⟩ := hQ114
    have N114 := Fr.app N2 Nq114
    have Z115 := Nat.le_trans Z113 Kp114.1
    refine own_st (G' := T114.setTop (mkF m 30 #[.val (.long q1), .second, .val (.long q2), .second, .val (.long q3), .second, .val (.int v4), .val (.long q5), .second, .val (.int v6), .val (.long (own_min q2 q3)), .second, .val (.long (own_max q2 q3)), .second, .val (.long (3 : Int64)), .second, .unset, .unset, .unset, .unset, .unset, .unset, .unset, .unset, .unset, .unset, .unset, .unset, .unset, .unset, .unset] [(.ref b112)])) (fun t k => st114.trans k) ?_
    refine own_astore X114 hx 32 #[.val (.long q1), .second, .val (.long q2), .second, .val (.long q3), .second, .val (.int v4), .val (.long q5), .second, .val (.int v6), .val (.long (own_min q2 q3)), .second, .val (.long (own_max q2 q3)), .second, .val (.long (3 : Int64)), .second, .val (.ref b112), .unset, .unset, .unset, .unset, .unset, .unset, .unset, .unset, .unset, .unset, .unset, .unset, .unset, .unset] (hb hby at_30) rfl rfl ?_
    refine own_aload X114 hx 34 (hb hby at_32) rfl rfl ?_
    refine own_lloadN X114 hx 35 (hb hby at_34) rfl ?_
    refine own_lconst X114 hx 36 (0 : Int64) (hb hby at_35) rfl ?_
    refine own_lload X114 hx 38 (hb hby at_36) rfl ?_
    refine own_lload X114 hx 40 (hb hby at_38) rfl ?_
    obtain ⟨_, _, ⟨T116, Lx116, kc116, nc116⟩, -, X116, ⟨Lc116, hQ116, lq116, yq116, zq116⟩, st116⟩ := Jvm.LawKit.callS X114 hx (y := (⟨"com/example/loomsand/loomsand/ParentRowsTotalPinLaw", "count", "(Lcom/example/loomsand/loomsand/Draws;JJJJ)J"⟩ : MethodName)) hown (mvT hZ (hw _ (List.mem_of_getElem? (i := 31) rfl))) (mvT hZ (hw _ (List.mem_of_getElem? (i := 32) rfl))) (mvT hZ (hw _ (List.mem_of_getElem? (i := 33) rfl))) (mvT hZ (hw _ (List.mem_of_getElem? (i := 34) rfl))) (by decide) (backOf (W := 0) (own_rm6 l Z a0 hw [] b112 q1 (0 : Int64) (own_min q2 q3) (own_max q2 q3) (0 : Int64) (0 : Int64) (0 : Int64) T114.heap n0 Z115 G114_0 G114_1 G114_2 G114_3 gt_b112 (own_mm _ _ : ¬ ((own_max q2 q3) < (own_min q2 q3)))) hZ (hw _ (List.mem_of_getElem? (i := 34) rfl)) (hw _ (List.mem_of_getElem? (i := 33) rfl)) (by decide) (by decide)) (g := (mkF m 40 #[.val (.long q1), .second, .val (.long q2), .second, .val (.long q3), .second, .val (.int v4), .val (.long q5), .second, .val (.int v6), .val (.long (own_min q2 q3)), .second, .val (.long (own_max q2 q3)), .second, .val (.long (3 : Int64)), .second, .val (.ref b112), .unset, .unset, .unset, .unset, .unset, .unset, .unset, .unset, .unset, .unset, .unset, .unset, .unset, .unset] [(.long (own_max q2 q3)), (.long (own_min q2 q3)), (.long (0 : Int64)), (.long q1), (.ref b112)])) rfl (by rw [hml]; rfl) (argsL := [(.ref b112), (.long q1), (.long (0 : Int64)), (.long (own_min q2 q3)), (.long (own_max q2 q3))]) (rest := []) (lenOf own_pd7 rfl) rfl (by show 2 * 0 + _ ≤ _; exact Nat.le_of_eq rfl) (hb hby at_40) (fun _ _ => ⟨rfl, rfl, (by decide : 3 + 0 ≤ _), (by decide : 9 + 0 ≤ _)⟩)
    dsimp only [Pt.U, Pt.locs, Pt.cells, Pt.slots] at X116 lq116 yq116 zq116 st116 hQ116
    subst lq116 yq116 zq116
    obtain ⟨zz_116, rfl, Nq116, Kp116, G116_0, G116_1, G116_2, G116_3⟩ := hQ116
    have N116 := Fr.app N114 Nq116
    have Z117 := Nat.le_trans Z115 Kp116.1
    refine own_st (G' := T116.setTop (mkF m 43 #[.val (.long q1), .second, .val (.long q2), .second, .val (.long q3), .second, .val (.int v4), .val (.long q5), .second, .val (.int v6), .val (.long (own_min q2 q3)), .second, .val (.long (own_max q2 q3)), .second, .val (.long (3 : Int64)), .second, .val (.ref b112), .unset, .unset, .unset, .unset, .unset, .unset, .unset, .unset, .unset, .unset, .unset, .unset, .unset, .unset] [(.long (own_btw (own_min q2 q3) (own_max q2 q3) ((own_mix (q1 + ((0 : Int64) * (-7046029254386353131 : Int64)))) + (-7046029254386353131 : Int64))))])) st116 ?_
    refine own_lstore X116 hx 45 #[.val (.long q1), .second, .val (.long q2), .second, .val (.long q3), .second, .val (.int v4), .val (.long q5), .second, .val (.int v6), .val (.long (own_min q2 q3)), .second, .val (.long (own_max q2 q3)), .second, .val (.long (3 : Int64)), .second, .val (.ref b112), .val (.long (own_btw (own_min q2 q3) (own_max q2 q3) ((own_mix (q1 + ((0 : Int64) * (-7046029254386353131 : Int64)))) + (-7046029254386353131 : Int64)))), .second, .unset, .unset, .unset, .unset, .unset, .unset, .unset, .unset, .unset, .unset, .unset, .unset] (hb hby at_43) rfl ?_
    refine own_aload X116 hx 47 (hb hby at_45) rfl rfl ?_
    refine own_lloadN X116 hx 48 (hb hby at_47) rfl ?_
    refine own_lconst X116 hx 49 (1 : Int64) (hb hby at_48) rfl ?_
    refine own_lload X116 hx 51 (hb hby at_49) rfl ?_
    refine own_lload X116 hx 53 (hb hby at_51) rfl ?_
    obtain ⟨_, _, ⟨T118, Lx118, kc118, nc118⟩, -, X118, ⟨Lc118, hQ118, lq118, yq118, zq118⟩, st118⟩ := Jvm.LawKit.callS X116 hx (y := (⟨"com/example/loomsand/loomsand/ParentRowsTotalPinLaw", "count", "(Lcom/example/loomsand/loomsand/Draws;JJJJ)J"⟩ : MethodName)) hown (mvT hZ (hw _ (List.mem_of_getElem? (i := 31) rfl))) (mvT hZ (hw _ (List.mem_of_getElem? (i := 32) rfl))) (mvT hZ (hw _ (List.mem_of_getElem? (i := 33) rfl))) (mvT hZ (hw _ (List.mem_of_getElem? (i := 34) rfl))) (by decide) (backOf (W := 0) (own_rm6 l Z a0 hw [] b112 q1 (1 : Int64) (own_min q2 q3) (own_max q2 q3) q1 (0 : Int64) zz_116 T116.heap n0 Z117 G116_0 G116_1 G116_2 G116_3 gt_b112 (own_mm _ _ : ¬ ((own_max q2 q3) < (own_min q2 q3)))) hZ (hw _ (List.mem_of_getElem? (i := 34) rfl)) (hw _ (List.mem_of_getElem? (i := 33) rfl)) (by decide) (by decide)) (g := (mkF m 53 #[.val (.long q1), .second, .val (.long q2), .second, .val (.long q3), .second, .val (.int v4), .val (.long q5), .second, .val (.int v6), .val (.long (own_min q2 q3)), .second, .val (.long (own_max q2 q3)), .second, .val (.long (3 : Int64)), .second, .val (.ref b112), .val (.long (own_btw (own_min q2 q3) (own_max q2 q3) ((own_mix (q1 + ((0 : Int64) * (-7046029254386353131 : Int64)))) + (-7046029254386353131 : Int64)))), .second, .unset, .unset, .unset, .unset, .unset, .unset, .unset, .unset, .unset, .unset, .unset, .unset] [(.long (own_max q2 q3)), (.long (own_min q2 q3)), (.long (1 : Int64)), (.long q1), (.ref b112)])) rfl (by rw [hml]; rfl) (argsL := [(.ref b112), (.long q1), (.long (1 : Int64)), (.long (own_min q2 q3)), (.long (own_max q2 q3))]) (rest := []) (lenOf own_pd7 rfl) rfl (by show 2 * 0 + _ ≤ _; exact Nat.le_of_eq rfl) (hb hby at_53) (fun _ _ => ⟨rfl, rfl, (by decide : 3 + 0 ≤ _), (by decide : 9 + 0 ≤ _)⟩)
    dsimp only [Pt.U, Pt.locs, Pt.cells, Pt.slots] at X118 lq118 yq118 zq118 st118 hQ118
    subst lq118 yq118 zq118
    obtain ⟨zz_118, rfl, Nq118, Kp118, G118_0, G118_1, G118_2, G118_3⟩ := hQ118
    have N118 := Fr.app N116 Nq118
    have Z119 := Nat.le_trans Z117 Kp118.1
    refine own_st (G' := T118.setTop (mkF m 56 #[.val (.long q1), .second, .val (.long q2), .second, .val (.long q3), .second, .val (.int v4), .val (.long q5), .second, .val (.int v6), .val (.long (own_min q2 q3)), .second, .val (.long (own_max q2 q3)), .second, .val (.long (3 : Int64)), .second, .val (.ref b112), .val (.long (own_btw (own_min q2 q3) (own_max q2 q3) ((own_mix (q1 + ((0 : Int64) * (-7046029254386353131 : Int64)))) + (-7046029254386353131 : Int64)))), .second, .unset, .unset, .unset, .unset, .unset, .unset, .unset, .unset, .unset, .unset, .unset, .unset] [(.long (own_btw (own_min q2 q3) (own_max q2 q3) ((own_mix (q1 + ((1 : Int64) * (-7046029254386353131 : Int64)))) + (-7046029254386353131 : Int64))))])) st118 ?_
    refine own_lstore X118 hx 58 #[.val (.long q1), .second, .val (.long q2), .second, .val (.long q3), .second, .val (.int v4), .val (.long q5), .second, .val (.int v6), .val (.long (own_min q2 q3)), .second, .val (.long (own_max q2 q3)), .second, .val (.long (3 : Int64)), .second, .val (.ref b112), .val (.long (own_btw (own_min q2 q3) (own_max q2 q3) ((own_mix (q1 + ((0 : Int64) * (-7046029254386353131 : Int64)))) + (-7046029254386353131 : Int64)))), .second, .val (.long (own_btw (own_min q2 q3) (own_max q2 q3) ((own_mix (q1 + ((1 : Int64) * (-7046029254386353131 : Int64)))) + (-7046029254386353131 : Int64)))), .second, .unset, .unset, .unset, .unset, .unset, .unset, .unset, .unset, .unset, .unset] (hb hby at_56) rfl ?_
    refine own_aload X118 hx 60 (hb hby at_58) rfl rfl ?_
    refine own_lloadN X118 hx 61 (hb hby at_60) rfl ?_
    refine own_ldcL X118 hx 64 hown (mvT hZ (hw _ (List.mem_of_getElem? (i := 74) rfl))) (hb hby at_61) ?_
    refine own_lload X118 hx 66 (hb hby at_64) rfl ?_
    refine own_lload X118 hx 68 (hb hby at_66) rfl ?_
    obtain ⟨_, _, ⟨T120, Lx120, kc120, nc120⟩, -, X120, ⟨Lc120, hQ120, lq120, yq120, zq120⟩, st120⟩ := Jvm.LawKit.callS X118 hx (y := (⟨"com/example/loomsand/loomsand/ParentRowsTotalPinLaw", "count", "(Lcom/example/loomsand/loomsand/Draws;JJJJ)J"⟩ : MethodName)) hown (mvT hZ (hw _ (List.mem_of_getElem? (i := 31) rfl))) (mvT hZ (hw _ (List.mem_of_getElem? (i := 32) rfl))) (mvT hZ (hw _ (List.mem_of_getElem? (i := 33) rfl))) (mvT hZ (hw _ (List.mem_of_getElem? (i := 34) rfl))) (by decide) (backOf (W := 0) (own_rm6 l Z a0 hw [] b112 q1 (2 : Int64) (own_min q2 q3) (own_max q2 q3) q1 (1 : Int64) zz_118 T118.heap n0 Z119 G118_0 G118_1 G118_2 G118_3 gt_b112 (own_mm _ _ : ¬ ((own_max q2 q3) < (own_min q2 q3)))) hZ (hw _ (List.mem_of_getElem? (i := 34) rfl)) (hw _ (List.mem_of_getElem? (i := 33) rfl)) (by decide) (by decide)) (g := (mkF m 68 #[.val (.long q1), .second, .val (.long q2), .second, .val (.long q3), .second, .val (.int v4), .val (.long q5), .second, .val (.int v6), .val (.long (own_min q2 q3)), .second, .val (.long (own_max q2 q3)), .second, .val (.long (3 : Int64)), .second, .val (.ref b112), .val (.long (own_btw (own_min q2 q3) (own_max q2 q3) ((own_mix (q1 + ((0 : Int64) * (-7046029254386353131 : Int64)))) + (-7046029254386353131 : Int64)))), .second, .val (.long (own_btw (own_min q2 q3) (own_max q2 q3) ((own_mix (q1 + ((1 : Int64) * (-7046029254386353131 : Int64)))) + (-7046029254386353131 : Int64)))), .second, .unset, .unset, .unset, .unset, .unset, .unset, .unset, .unset, .unset, .unset] [(.long (own_max q2 q3)), (.long (own_min q2 q3)), (.long (2 : Int64)), (.long q1), (.ref b112)])) rfl (by rw [hml]; rfl) (argsL := [(.ref b112), (.long q1), (.long (2 : Int64)), (.long (own_min q2 q3)), (.long (own_max q2 q3))]) (rest := []) (lenOf own_pd7 rfl) rfl (by show 2 * 0 + _ ≤ _; exact Nat.le_of_eq rfl) (hb hby at_68) (fun _ _ => ⟨rfl, rfl, (by decide : 3 + 0 ≤ _), (by decide : 9 + 0 ≤ _)⟩)
    dsimp only [Pt.U, Pt.locs, Pt.cells, Pt.slots] at X120 lq120 yq120 zq120 st120 hQ120
    subst lq120 yq120 zq120
    obtain ⟨zz_120, rfl, Nq120, Kp120, G120_0, G120_1, G120_2, G120_3⟩ := hQ120
    have N120 := Fr.app N118 Nq120
    have Z121 := Nat.le_trans Z119 Kp120.1
    refine own_st (G' := T120.setTop (mkF m 71 #[.val (.long q1), .second, .val (.long q2), .second, .val (.long q3), .second, .val (.int v4), .val (.long q5), .second, .val (.int v6), .val (.long (own_min q2 q3)), .second, .val (.long (own_max q2 q3)), .second, .val (.long (3 : Int64)), .second, .val (.ref b112), .val (.long (own_btw (own_min q2 q3) (own_max q2 q3) ((own_mix (q1 + ((0 : Int64) * (-7046029254386353131 : Int64)))) + (-7046029254386353131 : Int64)))), .second, .val (.long (own_btw (own_min q2 q3) (own_max q2 q3) ((own_mix (q1 + ((1 : Int64) * (-7046029254386353131 : Int64)))) + (-7046029254386353131 : Int64)))), .second, .unset, .unset, .unset, .unset, .unset, .unset, .unset, .unset, .unset, .unset] [(.long (own_btw (own_min q2 q3) (own_max q2 q3) ((own_mix (q1 + ((2 : Int64) * (-7046029254386353131 : Int64)))) + (-7046029254386353131 : Int64))))])) st120 ?_
    refine own_lstore X120 hx 73 #[.val (.long q1), .second, .val (.long q2), .second, .val (.long q3), .second, .val (.int v4), .val (.long q5), .second, .val (.int v6), .val (.long (own_min q2 q3)), .second, .val (.long (own_max q2 q3)), .second, .val (.long (3 : Int64)), .second, .val (.ref b112), .val (.long (own_btw (own_min q2 q3) (own_max q2 q3) ((own_mix (q1 + ((0 : Int64) * (-7046029254386353131 : Int64)))) + (-7046029254386353131 : Int64)))), .second, .val (.long (own_btw (own_min q2 q3) (own_max q2 q3) ((own_mix (q1 + ((1 : Int64) * (-7046029254386353131 : Int64)))) + (-7046029254386353131 : Int64)))), .second, .val (.long (own_btw (own_min q2 q3) (own_max q2 q3) ((own_mix (q1 + ((2 : Int64) * (-7046029254386353131 : Int64)))) + (-7046029254386353131 : Int64)))), .second, .unset, .unset, .unset, .unset, .unset, .unset, .unset, .unset] (hb hby at_71) rfl ?_
    refine own_lconst X120 hx 74 (0 : Int64) (hb hby at_73) rfl ?_
    refine own_lstore X120 hx 76 #[.val (.long q1), .second, .val (.long q2), .second, .val (.long q3), .second, .val (.int v4), .val (.long q5), .second, .val (.int v6), .val (.long (own_min q2 q3)), .second, .val (.long (own_max q2 q3)), .second, .val (.long (3 : Int64)), .second, .val (.ref b112), .val (.long (own_btw (own_min q2 q3) (own_max q2 q3) ((own_mix (q1 + ((0 : Int64) * (-7046029254386353131 : Int64)))) + (-7046029254386353131 : Int64)))), .second, .val (.long (own_btw (own_min q2 q3) (own_max q2 q3) ((own_mix (q1 + ((1 : Int64) * (-7046029254386353131 : Int64)))) + (-7046029254386353131 : Int64)))), .second, .val (.long (own_btw (own_min q2 q3) (own_max q2 q3) ((own_mix (q1 + ((2 : Int64) * (-7046029254386353131 : Int64)))) + (-7046029254386353131 : Int64)))), .second, .val (.long (0 : Int64)), .second, .unset, .unset, .unset, .unset, .unset, .unset] (hb hby at_74) rfl ?_
    refine own_lload X120 hx 78 (hb hby at_76) rfl ?_
    refine own_lconst X120 hx 79 (1 : Int64) (hb hby at_78) rfl ?_
    refine own_lcmp X120 hx 80 (hb hby at_79) ?_
    refine own_ifNo X120 hx 83 (hb hby at_80) (flt (mt (lw_lt _ _).mp (by decide : ¬ ((3 : Int64) < (1 : Int64))))).1 ?_
    refine own_lload X120 hx 85 (hb hby at_83) rfl ?_
    refine own_lload X120 hx 87 (hb hby at_85) rfl ?_
    refine own_ladd X120 hx 88 (hb hby at_87) ?_
    refine own_lstore X120 hx 90 #[.val (.long q1), .second, .val (.long q2), .second, .val (.long q3), .second, .val (.int v4), .val (.long q5), .second, .val (.int v6), .val (.long (own_min q2 q3)), .second, .val (.long (own_max q2 q3)), .second, .val (.long (3 : Int64)), .second, .val (.ref b112), .val (.long (own_btw (own_min q2 q3) (own_max q2 q3) ((own_mix (q1 + ((0 : Int64) * (-7046029254386353131 : Int64)))) + (-7046029254386353131 : Int64)))), .second, .val (.long (own_btw (own_min q2 q3) (own_max q2 q3) ((own_mix (q1 + ((1 : Int64) * (-7046029254386353131 : Int64)))) + (-7046029254386353131 : Int64)))), .second, .val (.long (own_btw (own_min q2 q3) (own_max q2 q3) ((own_mix (q1 + ((2 : Int64) * (-7046029254386353131 : Int64)))) + (-7046029254386353131 : Int64)))), .second, .val (.long ((0 : Int64) + (own_btw (own_min q2 q3) (own_max q2 q3) ((own_mix (q1 + ((0 : Int64) * (-7046029254386353131 : Int64)))) + (-7046029254386353131 : Int64))))), .second, .unset, .unset, .unset, .unset, .unset, .unset] (hb hby at_88) rfl ?_
    refine own_lload X120 hx 92 (hb hby at_90) rfl ?_
    refine own_ldcL X120 hx 95 hown (mvT hZ (hw _ (List.mem_of_getElem? (i := 74) rfl))) (hb hby at_92) ?_
    refine own_lcmp X120 hx 96 (hb hby at_95) ?_
    refine own_ifNo X120 hx 99 (hb hby at_96) (flt (mt (lw_lt _ _).mp (by decide : ¬ ((3 : Int64) < (2 : Int64))))).1 ?_
    refine own_lload X120 hx 101 (hb hby at_99) rfl ?_
    refine own_lload X120 hx 103 (hb hby at_101) rfl ?_
    refine own_ladd X120 hx 104 (hb hby at_103) ?_
    refine own_lstore X120 hx 106 #[.val (.long q1), .second, .val (.long q2), .second, .val (.long q3), .second, .val (.int v4), .val (.long q5), .second, .val (.int v6), .val (.long (own_min q2 q3)), .second, .val (.long (own_max q2 q3)), .second, .val (.long (3 : Int64)), .second, .val (.ref b112), .val (.long (own_btw (own_min q2 q3) (own_max q2 q3) ((own_mix (q1 + ((0 : Int64) * (-7046029254386353131 : Int64)))) + (-7046029254386353131 : Int64)))), .second, .val (.long (own_btw (own_min q2 q3) (own_max q2 q3) ((own_mix (q1 + ((1 : Int64) * (-7046029254386353131 : Int64)))) + (-7046029254386353131 : Int64)))), .second, .val (.long (own_btw (own_min q2 q3) (own_max q2 q3) ((own_mix (q1 + ((2 : Int64) * (-7046029254386353131 : Int64)))) + (-7046029254386353131 : Int64)))), .second, .val (.long (((0 : Int64) + (own_btw (own_min q2 q3) (own_max q2 q3) ((own_mix (q1 + ((0 : Int64) * (-7046029254386353131 : Int64)))) + (-7046029254386353131 : Int64)))) + (own_btw (own_min q2 q3) (own_max q2 q3) ((own_mix (q1 + ((1 : Int64) * (-7046029254386353131 : Int64)))) + (-7046029254386353131 : Int64))))), .second, .unset, .unset, .unset, .unset, .unset, .unset] (hb hby at_104) rfl ?_
    refine own_lload X120 hx 108 (hb hby at_106) rfl ?_
    refine own_ldcL X120 hx 111 hown (mvT hZ (hw _ (List.mem_of_getElem? (i := 75) rfl))) (hb hby at_108) ?_
    refine own_lcmp X120 hx 112 (hb hby at_111) ?_
    refine own_ifNo X120 hx 115 (hb hby at_112) (flt (mt (lw_lt _ _).mp (by decide : ¬ ((3 : Int64) < (3 : Int64))))).1 ?_
    refine own_lload X120 hx 117 (hb hby at_115) rfl ?_
    refine own_lload X120 hx 119 (hb hby at_117) rfl ?_
    refine own_ladd X120 hx 120 (hb hby at_119) ?_
    refine own_lstore X120 hx 122 #[.val (.long q1), .second, .val (.long q2), .second, .val (.long q3), .second, .val (.int v4), .val (.long q5), .second, .val (.int v6), .val (.long (own_min q2 q3)), .second, .val (.long (own_max q2 q3)), .second, .val (.long (3 : Int64)), .second, .val (.ref b112), .val (.long (own_btw (own_min q2 q3) (own_max q2 q3) ((own_mix (q1 + ((0 : Int64) * (-7046029254386353131 : Int64)))) + (-7046029254386353131 : Int64)))), .second, .val (.long (own_btw (own_min q2 q3) (own_max q2 q3) ((own_mix (q1 + ((1 : Int64) * (-7046029254386353131 : Int64)))) + (-7046029254386353131 : Int64)))), .second, .val (.long (own_btw (own_min q2 q3) (own_max q2 q3) ((own_mix (q1 + ((2 : Int64) * (-7046029254386353131 : Int64)))) + (-7046029254386353131 : Int64)))), .second, .val (.long ((((0 : Int64) + (own_btw (own_min q2 q3) (own_max q2 q3) ((own_mix (q1 + ((0 : Int64) * (-7046029254386353131 : Int64)))) + (-7046029254386353131 : Int64)))) + (own_btw (own_min q2 q3) (own_max q2 q3) ((own_mix (q1 + ((1 : Int64) * (-7046029254386353131 : Int64)))) + (-7046029254386353131 : Int64)))) + (own_btw (own_min q2 q3) (own_max q2 q3) ((own_mix (q1 + ((2 : Int64) * (-7046029254386353131 : Int64)))) + (-7046029254386353131 : Int64))))), .second, .unset, .unset, .unset, .unset, .unset, .unset] (hb hby at_120) rfl ?_
    obtain ⟨T122, h122, X122, e122, E122, A122, D122, -, st122⟩ := newO X120 hx hZ hown (hw _ (List.mem_of_getElem? (i := 76) rfl)) (hw _ (List.mem_of_getElem? (i := 77) rfl)) (hw _ (List.mem_of_getElem? (i := 78) rfl)) rfl (g := (mkF m 122 #[.val (.long q1), .second, .val (.long q2), .second, .val (.long q3), .second, .val (.int v4), .val (.long q5), .second, .val (.int v6), .val (.long (own_min q2 q3)), .second, .val (.long (own_max q2 q3)), .second, .val (.long (3 : Int64)), .second, .val (.ref b112), .val (.long (own_btw (own_min q2 q3) (own_max q2 q3) ((own_mix (q1 + ((0 : Int64) * (-7046029254386353131 : Int64)))) + (-7046029254386353131 : Int64)))), .second, .val (.long (own_btw (own_min q2 q3) (own_max q2 q3) ((own_mix (q1 + ((1 : Int64) * (-7046029254386353131 : Int64)))) + (-7046029254386353131 : Int64)))), .second, .val (.long (own_btw (own_min q2 q3) (own_max q2 q3) ((own_mix (q1 + ((2 : Int64) * (-7046029254386353131 : Int64)))) + (-7046029254386353131 : Int64)))), .second, .val (.long ((((0 : Int64) + (own_btw (own_min q2 q3) (own_max q2 q3) ((own_mix (q1 + ((0 : Int64) * (-7046029254386353131 : Int64)))) + (-7046029254386353131 : Int64)))) + (own_btw (own_min q2 q3) (own_max q2 q3) ((own_mix (q1 + ((1 : Int64) * (-7046029254386353131 : Int64)))) + (-7046029254386353131 : Int64)))) + (own_btw (own_min q2 q3) (own_max q2 q3) ((own_mix (q1 + ((2 : Int64) * (-7046029254386353131 : Int64)))) + (-7046029254386353131 : Int64))))), .second, .unset, .unset, .unset, .unset, .unset, .unset] [])) rfl (hb hby at_122) (by decide) (by decide)
    obtain ⟨b122, g122⟩ : ∃ z, z = T120.heap.size := ⟨_, rfl⟩
    rw [← g122] at A122 D122 st122
    have ne123 : b112 ≠ b122 := Nat.ne_of_lt (Nat.lt_of_lt_of_le G120_0.lt (Nat.le_of_eq g122.symm))
    have gt_b122 : n0 ≤ b122 := Nat.le_trans Z121 (Nat.le_of_eq g122.symm)
    have Z124 := Nat.le_trans Z121 E122.1
    have F122_draws : Fld Z h122 b122 "com/example/loomsand/loomsand/ParentRows" "draws" "Lcom/example/loomsand/loomsand/Draws;" .null := D122 (Or.inr (hw _ (List.mem_of_getElem? (i := 86) rfl))) (ty := (.object "com/example/loomsand/loomsand/Draws")) (by decide)
    have F122_key : Fld Z h122 b122 "com/example/loomsand/loomsand/ParentRows" "key" "J" (.long (0 : Int64)) := D122 (Or.inr (hw _ (List.mem_of_getElem? (i := 88) rfl))) (ty := .long) (by decide)
    have F122_min : Fld Z h122 b122 "com/example/loomsand/loomsand/ParentRows" "min" "J" (.long (0 : Int64)) := D122 (Or.inr (hw _ (List.mem_of_getElem? (i := 90) rfl))) (ty := .long) (by decide)
    have F122_max : Fld Z h122 b122 "com/example/loomsand/loomsand/ParentRows" "max" "J" (.long (0 : Int64)) := D122 (Or.inr (hw _ (List.mem_of_getElem? (i := 92) rfl))) (ty := .long) (by decide)
    have F122_block : Fld Z h122 b122 "com/example/loomsand/loomsand/ParentRows" "block" "J" (.long (0 : Int64)) := D122 (Or.inr (hw _ (List.mem_of_getElem? (i := 97) rfl))) (ty := .long) (by decide)
    have F122_starts : Fld Z h122 b122 "com/example/loomsand/loomsand/ParentRows" "starts" "[J" .null := D122 (Or.inr (hw _ (List.mem_of_getElem? (i := 100) rfl))) (ty := (.array .long)) (by decide)
    refine own_st (G' := T122.setTop (mkF m 125 #[.val (.long q1), .second, .val (.long q2), .second, .val (.long q3), .second, .val (.int v4), .val (.long q5), .second, .val (.int v6), .val (.long (own_min q2 q3)), .second, .val (.long (own_max q2 q3)), .second, .val (.long (3 : Int64)), .second, .val (.ref b112), .val (.long (own_btw (own_min q2 q3) (own_max q2 q3) ((own_mix (q1 + ((0 : Int64) * (-7046029254386353131 : Int64)))) + (-7046029254386353131 : Int64)))), .second, .val (.long (own_btw (own_min q2 q3) (own_max q2 q3) ((own_mix (q1 + ((1 : Int64) * (-7046029254386353131 : Int64)))) + (-7046029254386353131 : Int64)))), .second, .val (.long (own_btw (own_min q2 q3) (own_max q2 q3) ((own_mix (q1 + ((2 : Int64) * (-7046029254386353131 : Int64)))) + (-7046029254386353131 : Int64)))), .second, .val (.long ((((0 : Int64) + (own_btw (own_min q2 q3) (own_max q2 q3) ((own_mix (q1 + ((0 : Int64) * (-7046029254386353131 : Int64)))) + (-7046029254386353131 : Int64)))) + (own_btw (own_min q2 q3) (own_max q2 q3) ((own_mix (q1 + ((1 : Int64) * (-7046029254386353131 : Int64)))) + (-7046029254386353131 : Int64)))) + (own_btw (own_min q2 q3) (own_max q2 q3) ((own_mix (q1 + ((2 : Int64) * (-7046029254386353131 : Int64)))) + (-7046029254386353131 : Int64))))), .second, .unset, .unset, .unset, .unset, .unset, .unset] [(.ref b122)])) st122 ?_
    refine own_dup X122 hx 126 (hb hby at_125) rfl ?_
    refine own_lloadN X122 hx 127 (hb hby at_126) rfl ?_
    refine own_lload X122 hx 129 (hb hby at_127) rfl ?_
    refine own_lload X122 hx 131 (hb hby at_129) rfl ?_
    refine own_lload X122 hx 133 (hb hby at_131) rfl ?_
    obtain ⟨_, _, ⟨T125, Lx125, kc125, nc125⟩, -, X125, ⟨Lc125, hQ125, lq125, yq125, zq125⟩, st125⟩ := X122.specialBack hx (y := (⟨"com/example/loomsand/loomsand/ParentRows", "<init>", "(JJJJ)V"⟩ : MethodName)) rfl hown (mvT hZ (hw _ (List.mem_of_getElem? (i := 79) rfl))) (mvT hZ (hw _ (List.mem_of_getElem? (i := 80) rfl))) (mvT hZ (hw _ (List.mem_of_getElem? (i := 81) rfl))) (by decide) (backOf (W := 1) (own_rm14 l Z a0 hw [] b122 q1 (3 : Int64) (own_min q2 q3) (own_max q2 q3) h122 n0 Z124 A122 F122_draws F122_key F122_min F122_max F122_block F122_starts gt_b122 (own_mm _ _ : ¬ ((own_max q2 q3) < (own_min q2 q3))) (by decide : 0 ≤ (3 : Int64).toInt ∧ (3 : Int64).toInt ≤ 511)) hZ (hw _ (List.mem_of_getElem? (i := 81) rfl)) (hw _ (List.mem_of_getElem? (i := 78) rfl)) (by decide) (by decide)) (g := (mkF m 133 #[.val (.long q1), .second, .val (.long q2), .second, .val (.long q3), .second, .val (.int v4), .val (.long q5), .second, .val (.int v6), .val (.long (own_min q2 q3)), .second, .val (.long (own_max q2 q3)), .second, .val (.long (3 : Int64)), .second, .val (.ref b112), .val (.long (own_btw (own_min q2 q3) (own_max q2 q3) ((own_mix (q1 + ((0 : Int64) * (-7046029254386353131 : Int64)))) + (-7046029254386353131 : Int64)))), .second, .val (.long (own_btw (own_min q2 q3) (own_max q2 q3) ((own_mix (q1 + ((1 : Int64) * (-7046029254386353131 : Int64)))) + (-7046029254386353131 : Int64)))), .second, .val (.long (own_btw (own_min q2 q3) (own_max q2 q3) ((own_mix (q1 + ((2 : Int64) * (-7046029254386353131 : Int64)))) + (-7046029254386353131 : Int64)))), .second, .val (.long ((((0 : Int64) + (own_btw (own_min q2 q3) (own_max q2 q3) ((own_mix (q1 + ((0 : Int64) * (-7046029254386353131 : Int64)))) + (-7046029254386353131 : Int64)))) + (own_btw (own_min q2 q3) (own_max q2 q3) ((own_mix (q1 + ((1 : Int64) * (-7046029254386353131 : Int64)))) + (-7046029254386353131 : Int64)))) + (own_btw (own_min q2 q3) (own_max q2 q3) ((own_mix (q1 + ((2 : Int64) * (-7046029254386353131 : Int64)))) + (-7046029254386353131 : Int64))))), .second, .unset, .unset, .unset, .unset, .unset, .unset] [(.long (own_max q2 q3)), (.long (own_min q2 q3)), (.long (3 : Int64)), (.long q1), (.ref b122), (.ref b122)])) rfl (by rw [hml]; rfl) (Steps.refl _) (a := b122) (argsL := [(.long q1), (.long (3 : Int64)), (.long (own_min q2 q3)), (.long (own_max q2 q3))]) (rest := [(.ref b122)]) (lenOf own_pd8 rfl) rfl (by show 2 * 0 + _ ≤ _; exact Nat.le_of_eq rfl) (hb hby at_133) (fun _ _ => ⟨rfl, e122, (by decide : 4 + 4 ≤ _), (by decide : 19 + 14 ≤ _)⟩)
    dsimp only [Pt.U, Pt.locs, Pt.cells, Pt.slots] at X125 lq125 yq125 zq125 st125 hQ125
    subst lq125 yq125 zq125
    obtain ⟨bb_125, kb_125, nn_125, gg_125, rfl, Nq125, Kp125, G125_0, G125_1, G125_2, G125_3, P125_0, P125_1⟩ := hQ125
    have N125 := Fr.app N120 Nq125
    have f126 := (G120_0.ext E122)
    have ne127 : b112 ≠ bb_125 := Nat.ne_of_lt (Nat.lt_of_lt_of_le f126.lt G125_1)
    have ne128 : b122 ≠ bb_125 := Nat.ne_of_lt (Nat.lt_of_lt_of_le A122.lt G125_1)
    have gt_bb_125 : n0 ≤ bb_125 := Nat.le_trans Z124 G125_1
    have Z129 := Nat.le_trans Z124 Kp125.1
    refine own_st (G' := T125.setTop (mkF m 136 #[.val (.long q1), .second, .val (.long q2), .second, .val (.long q3), .second, .val (.int v4), .val (.long q5), .second, .val (.int v6), .val (.long (own_min q2 q3)), .second, .val (.long (own_max q2 q3)), .second, .val (.long (3 : Int64)), .second, .val (.ref b112), .val (.long (own_btw (own_min q2 q3) (own_max q2 q3) ((own_mix (q1 + ((0 : Int64) * (-7046029254386353131 : Int64)))) + (-7046029254386353131 : Int64)))), .second, .val (.long (own_btw (own_min q2 q3) (own_max q2 q3) ((own_mix (q1 + ((1 : Int64) * (-7046029254386353131 : Int64)))) + (-7046029254386353131 : Int64)))), .second, .val (.long (own_btw (own_min q2 q3) (own_max q2 q3) ((own_mix (q1 + ((2 : Int64) * (-7046029254386353131 : Int64)))) + (-7046029254386353131 : Int64)))), .second, .val (.long ((((0 : Int64) + (own_btw (own_min q2 q3) (own_max q2 q3) ((own_mix (q1 + ((0 : Int64) * (-7046029254386353131 : Int64)))) + (-7046029254386353131 : Int64)))) + (own_btw (own_min q2 q3) (own_max q2 q3) ((own_mix (q1 + ((1 : Int64) * (-7046029254386353131 : Int64)))) + (-7046029254386353131 : Int64)))) + (own_btw (own_min q2 q3) (own_max q2 q3) ((own_mix (q1 + ((2 : Int64) * (-7046029254386353131 : Int64)))) + (-7046029254386353131 : Int64))))), .second, .unset, .unset, .unset, .unset, .unset, .unset] [(.ref b122)])) (fun t k => st125.trans k) ?_
    refine own_astore X125 hx 138 #[.val (.long q1), .second, .val (.long q2), .second, .val (.long q3), .second, .val (.int v4), .val (.long q5), .second, .val (.int v6), .val (.long (own_min q2 q3)), .second, .val (.long (own_max q2 q3)), .second, .val (.long (3 : Int64)), .second, .val (.ref b112), .val (.long (own_btw (own_min q2 q3) (own_max q2 q3) ((own_mix (q1 + ((0 : Int64) * (-7046029254386353131 : Int64)))) + (-7046029254386353131 : Int64)))), .second, .val (.long (own_btw (own_min q2 q3) (own_max q2 q3) ((own_mix (q1 + ((1 : Int64) * (-7046029254386353131 : Int64)))) + (-7046029254386353131 : Int64)))), .second, .val (.long (own_btw (own_min q2 q3) (own_max q2 q3) ((own_mix (q1 + ((2 : Int64) * (-7046029254386353131 : Int64)))) + (-7046029254386353131 : Int64)))), .second, .val (.long ((((0 : Int64) + (own_btw (own_min q2 q3) (own_max q2 q3) ((own_mix (q1 + ((0 : Int64) * (-7046029254386353131 : Int64)))) + (-7046029254386353131 : Int64)))) + (own_btw (own_min q2 q3) (own_max q2 q3) ((own_mix (q1 + ((1 : Int64) * (-7046029254386353131 : Int64)))) + (-7046029254386353131 : Int64)))) + (own_btw (own_min q2 q3) (own_max q2 q3) ((own_mix (q1 + ((2 : Int64) * (-7046029254386353131 : Int64)))) + (-7046029254386353131 : Int64))))), .second, .val (.ref b122), .unset, .unset, .unset, .unset, .unset] (hb hby at_136) rfl rfl ?_
    refine own_aload X125 hx 140 (hb hby at_138) rfl rfl ?_
    obtain ⟨cq130, kq130, q130a, q130b, q130c⟩ := isOf hZ rfl G125_0
    obtain ⟨_, _, ⟨T130, Lx130, kc130, nc130⟩, -, X130, ⟨Lc130, hQ130, lq130, yq130, zq130⟩, st130⟩ := X125.virtualBack hx (y := (⟨"com/example/loomsand/loomsand/ParentRows", "total", "()J"⟩ : MethodName)) (z := (⟨"com/example/loomsand/loomsand/ParentRows", "total", "()J"⟩ : MethodName)) hown (mvT hZ (hw _ (List.mem_of_getElem? (i := 107) rfl))) (mvT hZ (hw _ (List.mem_of_getElem? (i := 108) rfl))) (notFace_of_selects (args := #[]) (mvT hZ (hw _ (List.mem_of_getElem? (i := 110) rfl)))) (mvT hZ (hw _ (List.mem_of_getElem? (i := 110) rfl))) (mvT hZ (hw _ (List.mem_of_getElem? (i := 109) rfl))) (by decide) (backOf (W := 0) (own_rm16 l Z a0 hw [] b122 bb_125 kb_125 nn_125 (own_lstJ 5 gg_125) (own_sum q1 (own_min q2 q3) (own_max q2 q3) (3 : Int64).toInt.toNat) T125.heap n0 Z129 G125_2 G125_3 (by assumption : 0 < nn_125.toInt) (by assumption : (own_lstJ 5 gg_125).getD (nn_125 - (1 : Int32)).toNatClampNeg (.long (0 : Int64)) = (.long (own_sum q1 (own_min q2 q3) (own_max q2 q3) (3 : Int64).toInt.toNat)))) hZ (hw _ (List.mem_of_getElem? (i := 111) rfl)) (hw _ (List.mem_of_getElem? (i := 78) rfl)) (by decide) (by decide)) q130a q130c (g := (mkF m 140 #[.val (.long q1), .second, .val (.long q2), .second, .val (.long q3), .second, .val (.int v4), .val (.long q5), .second, .val (.int v6), .val (.long (own_min q2 q3)), .second, .val (.long (own_max q2 q3)), .second, .val (.long (3 : Int64)), .second, .val (.ref b112), .val (.long (own_btw (own_min q2 q3) (own_max q2 q3) ((own_mix (q1 + ((0 : Int64) * (-7046029254386353131 : Int64)))) + (-7046029254386353131 : Int64)))), .second, .val (.long (own_btw (own_min q2 q3) (own_max q2 q3) ((own_mix (q1 + ((1 : Int64) * (-7046029254386353131 : Int64)))) + (-7046029254386353131 : Int64)))), .second, .val (.long (own_btw (own_min q2 q3) (own_max q2 q3) ((own_mix (q1 + ((2 : Int64) * (-7046029254386353131 : Int64)))) + (-7046029254386353131 : Int64)))), .second, .val (.long ((((0 : Int64) + (own_btw (own_min q2 q3) (own_max q2 q3) ((own_mix (q1 + ((0 : Int64) * (-7046029254386353131 : Int64)))) + (-7046029254386353131 : Int64)))) + (own_btw (own_min q2 q3) (own_max q2 q3) ((own_mix (q1 + ((1 : Int64) * (-7046029254386353131 : Int64)))) + (-7046029254386353131 : Int64)))) + (own_btw (own_min q2 q3) (own_max q2 q3) ((own_mix (q1 + ((2 : Int64) * (-7046029254386353131 : Int64)))) + (-7046029254386353131 : Int64))))), .second, .val (.ref b122), .unset, .unset, .unset, .unset, .unset] [(.ref b122)])) rfl (by rw [hml]; rfl) (Steps.refl _) (argsL := []) (rest := []) (lenOf own_pd3 rfl) rfl (by show 2 * 0 + _ ≤ _; exact Nat.le_of_eq rfl) (hb hby at_140) (fun _ _ => ⟨rfl, rfl, (by decide : 8 + 0 ≤ _), (by decide : 33 + 0 ≤ _)⟩)
    dsimp only [Pt.U, Pt.locs, Pt.cells, Pt.slots] at X130 lq130 yq130 zq130 st130 hQ130
    subst lq130 yq130 zq130
    obtain ⟨rfl, Nq130, eh130⟩ := hQ130
    have N130 := Fr.app N125 Nq130
    refine own_st (G' := T130.setTop (mkF m 143 #[.val (.long q1), .second, .val (.long q2), .second, .val (.long q3), .second, .val (.int v4), .val (.long q5), .second, .val (.int v6), .val (.long (own_min q2 q3)), .second, .val (.long (own_max q2 q3)), .second, .val (.long (3 : Int64)), .second, .val (.ref b112), .val (.long (own_btw (own_min q2 q3) (own_max q2 q3) ((own_mix (q1 + ((0 : Int64) * (-7046029254386353131 : Int64)))) + (-7046029254386353131 : Int64)))), .second, .val (.long (own_btw (own_min q2 q3) (own_max q2 q3) ((own_mix (q1 + ((1 : Int64) * (-7046029254386353131 : Int64)))) + (-7046029254386353131 : Int64)))), .second, .val (.long (own_btw (own_min q2 q3) (own_max q2 q3) ((own_mix (q1 + ((2 : Int64) * (-7046029254386353131 : Int64)))) + (-7046029254386353131 : Int64)))), .second, .val (.long ((((0 : Int64) + (own_btw (own_min q2 q3) (own_max q2 q3) ((own_mix (q1 + ((0 : Int64) * (-7046029254386353131 : Int64)))) + (-7046029254386353131 : Int64)))) + (own_btw (own_min q2 q3) (own_max q2 q3) ((own_mix (q1 + ((1 : Int64) * (-7046029254386353131 : Int64)))) + (-7046029254386353131 : Int64)))) + (own_btw (own_min q2 q3) (own_max q2 q3) ((own_mix (q1 + ((2 : Int64) * (-7046029254386353131 : Int64)))) + (-7046029254386353131 : Int64))))), .second, .val (.ref b122), .unset, .unset, .unset, .unset, .unset] [(.long (own_sum q1 (own_min q2 q3) (own_max q2 q3) (3 : Int64).toInt.toNat))])) (fun t k => st130.trans k) ?_
    refine own_lload X130 hx 145 (hb hby at_143) rfl ?_
    refine own_lcmp X130 hx 146 (hb hby at_145) ?_
    refine own_ifNo X130 hx 149 (hb hby at_146) (teq ((lw_eq _ _).mpr (by first | rfl | (simp only [own_sum]; rfl) : (own_sum q1 (own_min q2 q3) (own_max q2 q3) (3 : Int64).toInt.toNat) = ((((0 : Int64) + (own_btw (own_min q2 q3) (own_max q2 q3) ((own_mix (q1 + ((0 : Int64) * (-7046029254386353131 : Int64)))) + (-7046029254386353131 : Int64)))) + (own_btw (own_min q2 q3) (own_max q2 q3) ((own_mix (q1 + ((1 : Int64) * (-7046029254386353131 : Int64)))) + (-7046029254386353131 : Int64)))) + (own_btw (own_min q2 q3) (own_max q2 q3) ((own_mix (q1 + ((2 : Int64) * (-7046029254386353131 : Int64)))) + (-7046029254386353131 : Int64))))))).2 ?_
    refine own_iconst X130 hx 150 (1 : Int32) (hb hby at_149) rfl ?_
    refine own_goto X130 hx 154 (hb hby at_150) ?_
    refine own_istore X130 hx 156 #[.val (.long q1), .second, .val (.long q2), .second, .val (.long q3), .second, .val (.int v4), .val (.long q5), .second, .val (.int v6), .val (.long (own_min q2 q3)), .second, .val (.long (own_max q2 q3)), .second, .val (.long (3 : Int64)), .second, .val (.ref b112), .val (.long (own_btw (own_min q2 q3) (own_max q2 q3) ((own_mix (q1 + ((0 : Int64) * (-7046029254386353131 : Int64)))) + (-7046029254386353131 : Int64)))), .second, .val (.long (own_btw (own_min q2 q3) (own_max q2 q3) ((own_mix (q1 + ((1 : Int64) * (-7046029254386353131 : Int64)))) + (-7046029254386353131 : Int64)))), .second, .val (.long (own_btw (own_min q2 q3) (own_max q2 q3) ((own_mix (q1 + ((2 : Int64) * (-7046029254386353131 : Int64)))) + (-7046029254386353131 : Int64)))), .second, .val (.long ((((0 : Int64) + (own_btw (own_min q2 q3) (own_max q2 q3) ((own_mix (q1 + ((0 : Int64) * (-7046029254386353131 : Int64)))) + (-7046029254386353131 : Int64)))) + (own_btw (own_min q2 q3) (own_max q2 q3) ((own_mix (q1 + ((1 : Int64) * (-7046029254386353131 : Int64)))) + (-7046029254386353131 : Int64)))) + (own_btw (own_min q2 q3) (own_max q2 q3) ((own_mix (q1 + ((2 : Int64) * (-7046029254386353131 : Int64)))) + (-7046029254386353131 : Int64))))), .second, .val (.ref b122), .val (.int (1 : Int32)), .unset, .unset, .unset, .unset] (hb hby at_154) rfl ?_
    refine own_iload X130 hx 158 (hb hby at_156) rfl ?_
    refine own_sipush X130 hx 161 (511 : Int32) (hb hby at_158) rfl ?_
    refine own_iand X130 hx 162 (hb hby at_161) ?_
    refine own_i2l X130 hx 163 (hb hby at_162) ?_
    refine own_lstore X130 hx 165 #[.val (.long q1), .second, .val (.long q2), .second, .val (.long q3), .second, .val (.int v4), .val (.long q5), .second, .val (.int v6), .val (.long (own_min q2 q3)), .second, .val (.long (own_max q2 q3)), .second, .val (.long (3 : Int64)), .second, .val (.ref b112), .val (.long (own_btw (own_min q2 q3) (own_max q2 q3) ((own_mix (q1 + ((0 : Int64) * (-7046029254386353131 : Int64)))) + (-7046029254386353131 : Int64)))), .second, .val (.long (own_btw (own_min q2 q3) (own_max q2 q3) ((own_mix (q1 + ((1 : Int64) * (-7046029254386353131 : Int64)))) + (-7046029254386353131 : Int64)))), .second, .val (.long (own_btw (own_min q2 q3) (own_max q2 q3) ((own_mix (q1 + ((2 : Int64) * (-7046029254386353131 : Int64)))) + (-7046029254386353131 : Int64)))), .second, .val (.long ((((0 : Int64) + (own_btw (own_min q2 q3) (own_max q2 q3) ((own_mix (q1 + ((0 : Int64) * (-7046029254386353131 : Int64)))) + (-7046029254386353131 : Int64)))) + (own_btw (own_min q2 q3) (own_max q2 q3) ((own_mix (q1 + ((1 : Int64) * (-7046029254386353131 : Int64)))) + (-7046029254386353131 : Int64)))) + (own_btw (own_min q2 q3) (own_max q2 q3) ((own_mix (q1 + ((2 : Int64) * (-7046029254386353131 : Int64)))) + (-7046029254386353131 : Int64))))), .second, .val (.ref b122), .val (.int (1 : Int32)), .val (.long ((v6 &&& (511 : Int32)).toInt64)), .second, .unset, .unset] (hb hby at_163) rfl ?_
    obtain ⟨T131, h131, X131, e131, E131, A131, D131, -, st131⟩ := newO X130 hx hZ hown (hw _ (List.mem_of_getElem? (i := 76) rfl)) (hw _ (List.mem_of_getElem? (i := 77) rfl)) (hw _ (List.mem_of_getElem? (i := 78) rfl)) eh130 (g := (mkF m 165 #[.val (.long q1), .second, .val (.long q2), .second, .val (.long q3), .second, .val (.int v4), .val (.long q5), .second, .val (.int v6), .val (.long (own_min q2 q3)), .second, .val (.long (own_max q2 q3)), .second, .val (.long (3 : Int64)), .second, .val (.ref b112), .val (.long (own_btw (own_min q2 q3) (own_max q2 q3) ((own_mix (q1 + ((0 : Int64) * (-7046029254386353131 : Int64)))) + (-7046029254386353131 : Int64)))), .second, .val (.long (own_btw (own_min q2 q3) (own_max q2 q3) ((own_mix (q1 + ((1 : Int64) * (-7046029254386353131 : Int64)))) + (-7046029254386353131 : Int64)))), .second, .val (.long (own_btw (own_min q2 q3) (own_max q2 q3) ((own_mix (q1 + ((2 : Int64) * (-7046029254386353131 : Int64)))) + (-7046029254386353131 : Int64)))), .second, .val (.long ((((0 : Int64) + (own_btw (own_min q2 q3) (own_max q2 q3) ((own_mix (q1 + ((0 : Int64) * (-7046029254386353131 : Int64)))) + (-7046029254386353131 : Int64)))) + (own_btw (own_min q2 q3) (own_max q2 q3) ((own_mix (q1 + ((1 : Int64) * (-7046029254386353131 : Int64)))) + (-7046029254386353131 : Int64)))) + (own_btw (own_min q2 q3) (own_max q2 q3) ((own_mix (q1 + ((2 : Int64) * (-7046029254386353131 : Int64)))) + (-7046029254386353131 : Int64))))), .second, .val (.ref b122), .val (.int (1 : Int32)), .val (.long ((v6 &&& (511 : Int32)).toInt64)), .second, .unset, .unset] [])) rfl (hb hby at_165) (by decide) (by decide)
    obtain ⟨b131, g131⟩ : ∃ z, z = T125.heap.size := ⟨_, rfl⟩
    rw [← g131] at A131 D131 st131
    have f132 := (f126.keep Kp125)
    have ne133 : b112 ≠ b131 := Nat.ne_of_lt (Nat.lt_of_lt_of_le f132.lt (Nat.le_of_eq g131.symm))
    have ne134 : b122 ≠ b131 := Nat.ne_of_lt (Nat.lt_of_lt_of_le G125_0.lt (Nat.le_of_eq g131.symm))
    have ne135 : bb_125 ≠ b131 := Nat.ne_of_lt (Nat.lt_of_lt_of_le G125_3.lt (Nat.le_of_eq g131.symm))
    have gt_b131 : n0 ≤ b131 := Nat.le_trans Z129 (Nat.le_of_eq g131.symm)
    have Z136 := Nat.le_trans Z129 E131.1
    have F131_draws : Fld Z h131 b131 "com/example/loomsand/loomsand/ParentRows" "draws" "Lcom/example/loomsand/loomsand/Draws;" .null := D131 (Or.inr (hw _ (List.mem_of_getElem? (i := 86) rfl))) (ty := (.object "com/example/loomsand/loomsand/Draws")) (by decide)
    have F131_key : Fld Z h131 b131 "com/example/loomsand/loomsand/ParentRows" "key" "J" (.long (0 : Int64)) := D131 (Or.inr (hw _ (List.mem_of_getElem? (i := 88) rfl))) (ty := .long) (by decide)
    have F131_min : Fld Z h131 b131 "com/example/loomsand/loomsand/ParentRows" "min" "J" (.long (0 : Int64)) := D131 (Or.inr (hw _ (List.mem_of_getElem? (i := 90) rfl))) (ty := .long) (by decide)
    have F131_max : Fld Z h131 b131 "com/example/loomsand/loomsand/ParentRows" "max" "J" (.long (0 : Int64)) := D131 (Or.inr (hw _ (List.mem_of_getElem? (i := 92) rfl))) (ty := .long) (by decide)
    have F131_block : Fld Z h131 b131 "com/example/loomsand/loomsand/ParentRows" "block" "J" (.long (0 : Int64)) := D131 (Or.inr (hw _ (List.mem_of_getElem? (i := 97) rfl))) (ty := .long) (by decide)
    have F131_starts : Fld Z h131 b131 "com/example/loomsand/loomsand/ParentRows" "starts" "[J" .null := D131 (Or.inr (hw _ (List.mem_of_getElem? (i := 100) rfl))) (ty := (.array .long)) (by decide)
    refine own_st (G' := T131.setTop (mkF m 168 #[.val (.long q1), .second, .val (.long q2), .second, .val (.long q3), .second, .val (.int v4), .val (.long q5), .second, .val (.int v6), .val (.long (own_min q2 q3)), .second, .val (.long (own_max q2 q3)), .second, .val (.long (3 : Int64)), .second, .val (.ref b112), .val (.long (own_btw (own_min q2 q3) (own_max q2 q3) ((own_mix (q1 + ((0 : Int64) * (-7046029254386353131 : Int64)))) + (-7046029254386353131 : Int64)))), .second, .val (.long (own_btw (own_min q2 q3) (own_max q2 q3) ((own_mix (q1 + ((1 : Int64) * (-7046029254386353131 : Int64)))) + (-7046029254386353131 : Int64)))), .second, .val (.long (own_btw (own_min q2 q3) (own_max q2 q3) ((own_mix (q1 + ((2 : Int64) * (-7046029254386353131 : Int64)))) + (-7046029254386353131 : Int64)))), .second, .val (.long ((((0 : Int64) + (own_btw (own_min q2 q3) (own_max q2 q3) ((own_mix (q1 + ((0 : Int64) * (-7046029254386353131 : Int64)))) + (-7046029254386353131 : Int64)))) + (own_btw (own_min q2 q3) (own_max q2 q3) ((own_mix (q1 + ((1 : Int64) * (-7046029254386353131 : Int64)))) + (-7046029254386353131 : Int64)))) + (own_btw (own_min q2 q3) (own_max q2 q3) ((own_mix (q1 + ((2 : Int64) * (-7046029254386353131 : Int64)))) + (-7046029254386353131 : Int64))))), .second, .val (.ref b122), .val (.int (1 : Int32)), .val (.long ((v6 &&& (511 : Int32)).toInt64)), .second, .unset, .unset] [(.ref b131)])) st131 ?_
    refine own_dup X131 hx 169 (hb hby at_168) rfl ?_
    refine own_lloadN X131 hx 170 (hb hby at_169) rfl ?_
    refine own_lload X131 hx 172 (hb hby at_170) rfl ?_
    refine own_lload X131 hx 174 (hb hby at_172) rfl ?_
    refine own_lload X131 hx 176 (hb hby at_174) rfl ?_
    obtain ⟨_, _, ⟨T137, Lx137, kc137, nc137⟩, -, X137, ⟨Lc137, hQ137, lq137, yq137, zq137⟩, st137⟩ := X131.specialBack hx (y := (⟨"com/example/loomsand/loomsand/ParentRows", "<init>", "(JJJJ)V"⟩ : MethodName)) rfl hown (mvT hZ (hw _ (List.mem_of_getElem? (i := 79) rfl))) (mvT hZ (hw _ (List.mem_of_getElem? (i := 80) rfl))) (mvT hZ (hw _ (List.mem_of_getElem? (i := 81) rfl))) (by decide) (backOf (W := 1) (own_rm14 l Z a0 hw [] b131 q1 ((v6 &&& (511 : Int32)).toInt64) q5 q5 h131 n0 Z136 A131 F131_draws F131_key F131_min F131_max F131_block F131_starts gt_b131 (own_nlt _ : ¬ (q5 < q5)) (own_511 _ : 0 ≤ ((v6 &&& (511 : Int32)).toInt64).toInt ∧ ((v6 &&& (511 : Int32)).toInt64).toInt ≤ 511)) hZ (hw _ (List.mem_of_getElem? (i := 81) rfl)) (hw _ (List.mem_of_getElem? (i := 78) rfl)) (by decide) (by decide)) (g := (mkF m 176 #[.val (.long q1), .second, .val (.long q2), .second, .val (.long q3), .second, .val (.int v4), .val (.long q5), .second, .val (.int v6), .val (.long (own_min q2 q3)), .second, .val (.long (own_max q2 q3)), .second, .val (.long (3 : Int64)), .second, .val (.ref b112), .val (.long (own_btw (own_min q2 q3) (own_max q2 q3) ((own_mix (q1 + ((0 : Int64) * (-7046029254386353131 : Int64)))) + (-7046029254386353131 : Int64)))), .second, .val (.long (own_btw (own_min q2 q3) (own_max q2 q3) ((own_mix (q1 + ((1 : Int64) * (-7046029254386353131 : Int64)))) + (-7046029254386353131 : Int64)))), .second, .val (.long (own_btw (own_min q2 q3) (own_max q2 q3) ((own_mix (q1 + ((2 : Int64) * (-7046029254386353131 : Int64)))) + (-7046029254386353131 : Int64)))), .second, .val (.long ((((0 : Int64) + (own_btw (own_min q2 q3) (own_max q2 q3) ((own_mix (q1 + ((0 : Int64) * (-7046029254386353131 : Int64)))) + (-7046029254386353131 : Int64)))) + (own_btw (own_min q2 q3) (own_max q2 q3) ((own_mix (q1 + ((1 : Int64) * (-7046029254386353131 : Int64)))) + (-7046029254386353131 : Int64)))) + (own_btw (own_min q2 q3) (own_max q2 q3) ((own_mix (q1 + ((2 : Int64) * (-7046029254386353131 : Int64)))) + (-7046029254386353131 : Int64))))), .second, .val (.ref b122), .val (.int (1 : Int32)), .val (.long ((v6 &&& (511 : Int32)).toInt64)), .second, .unset, .unset] [(.long q5), (.long q5), (.long ((v6 &&& (511 : Int32)).toInt64)), (.long q1), (.ref b131), (.ref b131)])) rfl (by rw [hml]; rfl) (Steps.refl _) (a := b131) (argsL := [(.long q1), (.long ((v6 &&& (511 : Int32)).toInt64)), (.long q5), (.long q5)]) (rest := [(.ref b131)]) (lenOf own_pd8 rfl) rfl (by show 2 * 0 + _ ≤ _; exact Nat.le_of_eq rfl) (hb hby at_176) (fun _ _ => ⟨rfl, e131, (by decide : 9 + 4 ≤ _), (by decide : 43 + 14 ≤ _)⟩)
    dsimp only [Pt.U, Pt.locs, Pt.cells, Pt.slots] at X137 lq137 yq137 zq137 st137 hQ137
    subst lq137 yq137 zq137
    obtain ⟨bb_137, kb_137, nn_137, gg_137, rfl, Nq137, Kp137, G137_0, G137_1, G137_2, G137_3, P137_0, P137_1⟩ := hQ137
    have N137 := Fr.app N130 Nq137
    have f138 := (f132.ext E131)
    have ne139 : b112 ≠ bb_137 := Nat.ne_of_lt (Nat.lt_of_lt_of_le f138.lt G137_1)
    have f140 := (G125_0.ext E131)
    have ne141 : b122 ≠ bb_137 := Nat.ne_of_lt (Nat.lt_of_lt_of_le f140.lt G137_1)
    have f142 := (G125_3.ext E131)
    have ne143 : bb_125 ≠ bb_137 := Nat.ne_of_lt (Nat.lt_of_lt_of_le f142.lt G137_1)
    have ne144 : b131 ≠ bb_137 := Nat.ne_of_lt (Nat.lt_of_lt_of_le A131.lt G137_1)
    have gt_bb_137 : n0 ≤ bb_137 := Nat.le_trans Z136 G137_1
    have Z145 := Nat.le_trans Z136 Kp137.1
    refine own_st (G' := T137.setTop (mkF m 179 #[.val (.long q1), .second, .val (.long q2), .second, .val (.long q3), .second, .val (.int v4), .val (.long q5), .second, .val (.int v6), .val (.long (own_min q2 q3)), .second, .val (.long (own_max q2 q3)), .second, .val (.long (3 : Int64)), .second, .val (.ref b112), .val (.long (own_btw (own_min q2 q3) (own_max q2 q3) ((own_mix (q1 + ((0 : Int64) * (-7046029254386353131 : Int64)))) + (-7046029254386353131 : Int64)))), .second, .val (.long (own_btw (own_min q2 q3) (own_max q2 q3) ((own_mix (q1 + ((1 : Int64) * (-7046029254386353131 : Int64)))) + (-7046029254386353131 : Int64)))), .second, .val (.long (own_btw (own_min q2 q3) (own_max q2 q3) ((own_mix (q1 + ((2 : Int64) * (-7046029254386353131 : Int64)))) + (-7046029254386353131 : Int64)))), .second, .val (.long ((((0 : Int64) + (own_btw (own_min q2 q3) (own_max q2 q3) ((own_mix (q1 + ((0 : Int64) * (-7046029254386353131 : Int64)))) + (-7046029254386353131 : Int64)))) + (own_btw (own_min q2 q3) (own_max q2 q3) ((own_mix (q1 + ((1 : Int64) * (-7046029254386353131 : Int64)))) + (-7046029254386353131 : Int64)))) + (own_btw (own_min q2 q3) (own_max q2 q3) ((own_mix (q1 + ((2 : Int64) * (-7046029254386353131 : Int64)))) + (-7046029254386353131 : Int64))))), .second, .val (.ref b122), .val (.int (1 : Int32)), .val (.long ((v6 &&& (511 : Int32)).toInt64)), .second, .unset, .unset] [(.ref b131)])) (fun t k => st137.trans k) ?_
    refine own_astore X137 hx 181 #[.val (.long q1), .second, .val (.long q2), .second, .val (.long q3), .second, .val (.int v4), .val (.long q5), .second, .val (.int v6), .val (.long (own_min q2 q3)), .second, .val (.long (own_max q2 q3)), .second, .val (.long (3 : Int64)), .second, .val (.ref b112), .val (.long (own_btw (own_min q2 q3) (own_max q2 q3) ((own_mix (q1 + ((0 : Int64) * (-7046029254386353131 : Int64)))) + (-7046029254386353131 : Int64)))), .second, .val (.long (own_btw (own_min q2 q3) (own_max q2 q3) ((own_mix (q1 + ((1 : Int64) * (-7046029254386353131 : Int64)))) + (-7046029254386353131 : Int64)))), .second, .val (.long (own_btw (own_min q2 q3) (own_max q2 q3) ((own_mix (q1 + ((2 : Int64) * (-7046029254386353131 : Int64)))) + (-7046029254386353131 : Int64)))), .second, .val (.long ((((0 : Int64) + (own_btw (own_min q2 q3) (own_max q2 q3) ((own_mix (q1 + ((0 : Int64) * (-7046029254386353131 : Int64)))) + (-7046029254386353131 : Int64)))) + (own_btw (own_min q2 q3) (own_max q2 q3) ((own_mix (q1 + ((1 : Int64) * (-7046029254386353131 : Int64)))) + (-7046029254386353131 : Int64)))) + (own_btw (own_min q2 q3) (own_max q2 q3) ((own_mix (q1 + ((2 : Int64) * (-7046029254386353131 : Int64)))) + (-7046029254386353131 : Int64))))), .second, .val (.ref b122), .val (.int (1 : Int32)), .val (.long ((v6 &&& (511 : Int32)).toInt64)), .second, .val (.ref b131), .unset] (hb hby at_179) rfl rfl ?_
    refine own_aload X137 hx 183 (hb hby at_181) rfl rfl ?_
    obtain ⟨cq146, kq146, q146a, q146b, q146c⟩ := isOf hZ rfl G137_0
    obtain ⟨_, _, ⟨T146, Lx146, kc146, nc146⟩, -, X146, ⟨Lc146, hQ146, lq146, yq146, zq146⟩, st146⟩ := X137.virtualBack hx (y := (⟨"com/example/loomsand/loomsand/ParentRows", "total", "()J"⟩ : MethodName)) (z := (⟨"com/example/loomsand/loomsand/ParentRows", "total", "()J"⟩ : MethodName)) hown (mvT hZ (hw _ (List.mem_of_getElem? (i := 107) rfl))) (mvT hZ (hw _ (List.mem_of_getElem? (i := 108) rfl))) (notFace_of_selects (args := #[]) (mvT hZ (hw _ (List.mem_of_getElem? (i := 110) rfl)))) (mvT hZ (hw _ (List.mem_of_getElem? (i := 110) rfl))) (mvT hZ (hw _ (List.mem_of_getElem? (i := 109) rfl))) (by decide) (backOf (W := 0) (own_rm16 l Z a0 hw [] b131 bb_137 kb_137 nn_137 (own_lstJ 5 gg_137) (own_sum q1 q5 q5 ((v6 &&& (511 : Int32)).toInt64).toInt.toNat) T137.heap n0 Z145 G137_2 G137_3 (by assumption : 0 < nn_137.toInt) (by assumption : (own_lstJ 5 gg_137).getD (nn_137 - (1 : Int32)).toNatClampNeg (.long (0 : Int64)) = (.long (own_sum q1 q5 q5 ((v6 &&& (511 : Int32)).toInt64).toInt.toNat)))) hZ (hw _ (List.mem_of_getElem? (i := 111) rfl)) (hw _ (List.mem_of_getElem? (i := 78) rfl)) (by decide) (by decide)) q146a q146c (g := (mkF m 183 #[.val (.long q1), .second, .val (.long q2), .second, .val (.long q3), .second, .val (.int v4), .val (.long q5), .second, .val (.int v6), .val (.long (own_min q2 q3)), .second, .val (.long (own_max q2 q3)), .second, .val (.long (3 : Int64)), .second, .val (.ref b112), .val (.long (own_btw (own_min q2 q3) (own_max q2 q3) ((own_mix (q1 + ((0 : Int64) * (-7046029254386353131 : Int64)))) + (-7046029254386353131 : Int64)))), .second, .val (.long (own_btw (own_min q2 q3) (own_max q2 q3) ((own_mix (q1 + ((1 : Int64) * (-7046029254386353131 : Int64)))) + (-7046029254386353131 : Int64)))), .second, .val (.long (own_btw (own_min q2 q3) (own_max q2 q3) ((own_mix (q1 + ((2 : Int64) * (-7046029254386353131 : Int64)))) + (-7046029254386353131 : Int64)))), .second, .val (.long ((((0 : Int64) + (own_btw (own_min q2 q3) (own_max q2 q3) ((own_mix (q1 + ((0 : Int64) * (-7046029254386353131 : Int64)))) + (-7046029254386353131 : Int64)))) + (own_btw (own_min q2 q3) (own_max q2 q3) ((own_mix (q1 + ((1 : Int64) * (-7046029254386353131 : Int64)))) + (-7046029254386353131 : Int64)))) + (own_btw (own_min q2 q3) (own_max q2 q3) ((own_mix (q1 + ((2 : Int64) * (-7046029254386353131 : Int64)))) + (-7046029254386353131 : Int64))))), .second, .val (.ref b122), .val (.int (1 : Int32)), .val (.long ((v6 &&& (511 : Int32)).toInt64)), .second, .val (.ref b131), .unset] [(.ref b131)])) rfl (by rw [hml]; rfl) (Steps.refl _) (argsL := []) (rest := []) (lenOf own_pd3 rfl) rfl (by show 2 * 0 + _ ≤ _; exact Nat.le_of_eq rfl) (hb hby at_183) (fun _ _ => ⟨rfl, rfl, (by decide : 13 + 0 ≤ _), (by decide : 57 + 0 ≤ _)⟩)
    dsimp only [Pt.U, Pt.locs, Pt.cells, Pt.slots] at X146 lq146 yq146 zq146 st146 hQ146
    subst lq146 yq146 zq146
    obtain ⟨rfl, Nq146, eh146⟩ := hQ146
    have N146 := Fr.app N137 Nq146
    refine own_st (G' := T146.setTop (mkF m 186 #[.val (.long q1), .second, .val (.long q2), .second, .val (.long q3), .second, .val (.int v4), .val (.long q5), .second, .val (.int v6), .val (.long (own_min q2 q3)), .second, .val (.long (own_max q2 q3)), .second, .val (.long (3 : Int64)), .second, .val (.ref b112), .val (.long (own_btw (own_min q2 q3) (own_max q2 q3) ((own_mix (q1 + ((0 : Int64) * (-7046029254386353131 : Int64)))) + (-7046029254386353131 : Int64)))), .second, .val (.long (own_btw (own_min q2 q3) (own_max q2 q3) ((own_mix (q1 + ((1 : Int64) * (-7046029254386353131 : Int64)))) + (-7046029254386353131 : Int64)))), .second, .val (.long (own_btw (own_min q2 q3) (own_max q2 q3) ((own_mix (q1 + ((2 : Int64) * (-7046029254386353131 : Int64)))) + (-7046029254386353131 : Int64)))), .second, .val (.long ((((0 : Int64) + (own_btw (own_min q2 q3) (own_max q2 q3) ((own_mix (q1 + ((0 : Int64) * (-7046029254386353131 : Int64)))) + (-7046029254386353131 : Int64)))) + (own_btw (own_min q2 q3) (own_max q2 q3) ((own_mix (q1 + ((1 : Int64) * (-7046029254386353131 : Int64)))) + (-7046029254386353131 : Int64)))) + (own_btw (own_min q2 q3) (own_max q2 q3) ((own_mix (q1 + ((2 : Int64) * (-7046029254386353131 : Int64)))) + (-7046029254386353131 : Int64))))), .second, .val (.ref b122), .val (.int (1 : Int32)), .val (.long ((v6 &&& (511 : Int32)).toInt64)), .second, .val (.ref b131), .unset] [(.long (own_sum q1 q5 q5 ((v6 &&& (511 : Int32)).toInt64).toInt.toNat))])) (fun t k => st146.trans k) ?_
    refine own_lload X146 hx 188 (hb hby at_186) rfl ?_
    refine own_lload X146 hx 190 (hb hby at_188) rfl ?_
    refine own_lmul X146 hx 191 (hb hby at_190) ?_
    refine own_lcmp X146 hx 192 (hb hby at_191) ?_
    refine own_ifNo X146 hx 195 (hb hby at_192) (teq ((lw_eq _ _).mpr (own_flat _ _ _ : (own_sum q1 q5 q5 ((v6 &&& (511 : Int32)).toInt64).toInt.toNat) = (((v6 &&& (511 : Int32)).toInt64) * q5)))).2 ?_
    refine own_iconst X146 hx 196 (1 : Int32) (hb hby at_195) rfl ?_
    refine own_goto X146 hx 200 (hb hby at_196) ?_
    refine own_istore X146 hx 202 #[.val (.long q1), .second, .val (.long q2), .second, .val (.long q3), .second, .val (.int v4), .val (.long q5), .second, .val (.int v6), .val (.long (own_min q2 q3)), .second, .val (.long (own_max q2 q3)), .second, .val (.long (3 : Int64)), .second, .val (.ref b112), .val (.long (own_btw (own_min q2 q3) (own_max q2 q3) ((own_mix (q1 + ((0 : Int64) * (-7046029254386353131 : Int64)))) + (-7046029254386353131 : Int64)))), .second, .val (.long (own_btw (own_min q2 q3) (own_max q2 q3) ((own_mix (q1 + ((1 : Int64) * (-7046029254386353131 : Int64)))) + (-7046029254386353131 : Int64)))), .second, .val (.long (own_btw (own_min q2 q3) (own_max q2 q3) ((own_mix (q1 + ((2 : Int64) * (-7046029254386353131 : Int64)))) + (-7046029254386353131 : Int64)))), .second, .val (.long ((((0 : Int64) + (own_btw (own_min q2 q3) (own_max q2 q3) ((own_mix (q1 + ((0 : Int64) * (-7046029254386353131 : Int64)))) + (-7046029254386353131 : Int64)))) + (own_btw (own_min q2 q3) (own_max q2 q3) ((own_mix (q1 + ((1 : Int64) * (-7046029254386353131 : Int64)))) + (-7046029254386353131 : Int64)))) + (own_btw (own_min q2 q3) (own_max q2 q3) ((own_mix (q1 + ((2 : Int64) * (-7046029254386353131 : Int64)))) + (-7046029254386353131 : Int64))))), .second, .val (.ref b122), .val (.int (1 : Int32)), .val (.long ((v6 &&& (511 : Int32)).toInt64)), .second, .val (.ref b131), .val (.int (1 : Int32))] (hb hby at_200) rfl ?_
    refine own_iload X146 hx 204 (hb hby at_202) rfl ?_
    refine own_ifNo X146 hx 207 (hb hby at_204) (feq (by decide : ¬ ((1 : Int32) = (0 : Int32)))).1 ?_
    refine own_iload X146 hx 209 (hb hby at_207) rfl ?_
    refine own_ifNo X146 hx 212 (hb hby at_209) (feq (by decide : ¬ ((1 : Int32) = (0 : Int32)))).1 ?_
    refine own_iconst X146 hx 213 (1 : Int32) (hb hby at_212) rfl ?_
    refine own_goto X146 hx 217 (hb hby at_213) ?_
    exact own_retN (t := .boolean) (z := (1 : Int32)) (Q := own_Q0 Z q1 q2 q3 v4 q5 v6 h0 n0) X146 hx hrt (by simp) (hb hby at_217) hlk eh146 ⟨rfl, N146⟩ (by decide) (by decide)
set_option maxRecDepth 65536 in
set_option maxHeartbeats 40000000 in
theorem own_comes {Post : Tables → Env → Array Value → State → Outcome → State → Prop} (hpost : ∀ tb e args s v u, (limb_1_1.after args s (.returned v) u = true ∧ limb_1_2.after args s (.returned v) u = true ∧ True) → FrameEnd s (.returned v) u (Jvm.fieldLocs frame_1_writes args s ++ Jvm.arrayLocs frame_1_arrays args s ++ Jvm.staticLocs frame_1_statics s) 40 192 → Post tb e args s (.returned v) u) :
    ArmFor flags0 classFile x code maxLocals ret World_1 tables_1 room_1 Calls_1 rest_1 Pre_1 Post := by
  intro l hfl _ _ p e ha hc hk s m args below hf hA hF happ hP
  obtain ⟨hcalls, hrest, hpre⟩ := hP
  obtain ⟨-, -, -, hnamed, -, -, -, hat⟩ := (Spec.applies_iff hf).mp happ
  obtain ⟨hg, hn⟩ := and_e (Cond.before_iff.mp (show (Jvm.Cond.and given_1 narrow_1).before args s = true from hpre))
  obtain ⟨g1, g2⟩ := and_e hg
  obtain ⟨g3, g4⟩ := and_e g2
  obtain ⟨g5, g6⟩ := and_e g4
  obtain ⟨g7, g8⟩ := and_e g6
  obtain ⟨g9, g10⟩ := and_e g8
  obtain ⟨g11, g12⟩ := and_e g10
  obtain ⟨w0, w1, w2, w3, w4, w5, rfl⟩ : ∃ w0 w1 w2 w3 w4 w5 : Value, args = #[w0, w1, w2, w3, w4, w5] := by
    have hs : args.size = 6 := by simpa [Cond.value, given_1] using g1
    obtain ⟨L⟩ := args
    match L, hs with
    | [w0, w1, w2, w3, w4, w5], _ => exact ⟨w0, w1, w2, w3, w4, w5, rfl⟩
  have hw := fun d (hd : d ∈ tables_1) => atoms_spec (ws := Jvm.Cond.code x code maxLocals ret :: tables_1) hat d (List.mem_cons_of_mem _ hd)
  have hfit : Fit s := fun {y c} hc i hi => by
    obtain ⟨ha, rfl⟩ := Array.getElem?_eq_some_iff.mp hc
    have q := List.all_eq_true.mp ((Array.all_eq_true_iff_forall_mem.mp hF) _ (Array.getElem_mem ha)) i (List.mem_range.mpr hi)
    simpa [Array.getElem?_eq_getElem hi] using q
  obtain ⟨i0, ei0⟩ := isL_v g3
  obtain rfl : w0 = (.long i0) := Option.some.inj ei0
  obtain ⟨i1, ei1⟩ := isL_v g5
  obtain rfl : w1 = (.long i1) := Option.some.inj ei1
  obtain ⟨i2, ei2⟩ := isL_v g7
  obtain rfl : w2 = (.long i2) := Option.some.inj ei2
  obtain ⟨i3, ei3⟩ := is_v g9
  obtain rfl : w3 = (.int i3) := Option.some.inj ei3
  obtain ⟨i4, ei4⟩ := isL_v g11
  obtain rfl : w4 = (.long i4) := Option.some.inj ei4
  obtain ⟨i5, ei5⟩ := is_v g12
  obtain rfl : w5 = (.int i5) := Option.some.inj ei5
  obtain ⟨n, o, h1, h2, h3, _, L, rfl, ⟨rfl, N⟩, hq⟩ := own_rm0 l s _ hw tables_1 i0 i1 i2 i3 i4 i5 s.heap s.heap.size (Nat.le_refl _)  p e ha hc hk s m _ below hf ((Spec.applies_iff_loose hf).mp happ).1 ⟨rfl, State.Warmed39.refl s, rfl⟩ trivial
  refine ⟨n, _, h1, h2, h3, hpost _ _ _ _ _ _ ⟨Cond.after_iff.mpr rfl, Cond.after_iff.mpr (eq_i res_at (Term.int_eval (1)) rfl), trivial⟩ ⟨hq.1, hq.2.1, (hq.2.2.sift fun y hy => Or.inr (N y hy)).mono (by decide) (by decide)⟩⟩
theorem main_1_1 : Claimed_1_1 := own_comes fun _ _ _ _ _ _ h hF => ⟨h.1, Jvm.ReturnedEndW.of_narrow hF.1 hF.2.1 hF.2.2⟩
theorem main_1_2 : Claimed_1_2 := own_comes fun _ _ _ _ _ _ h hF => ⟨h.2.1, Jvm.ReturnedEndW.of_narrow hF.1 hF.2.1 hF.2.2⟩
end Jvm.Pilot.@@N@@
namespace Jvm.Pilot.@@N@@
open Jvm Jvm.ClassFile Sem Op Lib Jvm.Free Jvm.Stand Jvm.Pilot.@@N@@.Jvm.D
/-! MADE BY PROGRAM (witnessworld.py) out of the Statement's table words and the real class files: 21 classes; the members and pool entries that the words name. The judged class is class 1, her method 2. -/
namespace start1
open Jvm.ClassFile
def u (s : String) : CpInfo := .utf8 (stringToUtf16 s)
/-- a pool by its gaps: so many unusable entries, then the entry; so many at the end -/
def gap : Nat → List CpInfo → List CpInfo
  | 0, r => r
  | n + 1, r => .unusable :: gap n r
def poolList (es : List (Nat × CpInfo)) (last : Nat) : List CpInfo := es.foldr (fun e r => gap e.1 (e.2 :: r)) (gap last [])
def pool (es : List (Nat × CpInfo)) (last : Nat) : Array CpInfo := ⟨poolList es last⟩
def fileOf (pool : Array CpInfo) (this : Nat) (attrs : Array Attribute := #[]) (ms : Array MethodInfo := #[]) (fl : Nat := 33) (sup : Nat := 0) (ifs : Array Nat := #[]) (fds : Array FieldInfo := #[]) : ClassFile where
  minorVersion := 0
  majorVersion := 65
  constantPool := pool
  accessFlags := fl
  thisClass := this
  superClass := sup
  interfaces := ifs
  fields := fds
  methods := ms
  attributes := attrs
def plain (name : String) (sup : Option ClassId) : Class where
  name := name
  kind := .ordinary
  loader := none
  accessFlags := 33
  super := sup
  interfaces := #[]
  cf := none
  fields := #[]
  methods := #[]
  instanceTypes := #[]
  staticTypes := #[]
  resolved := #[]
  callSites := []
  init := .initialized
  statics := none
  mirror := none

def pool0 : Array CpInfo := pool [(5, u "<init>"), (0, u "()V"), (1, .class_ 10), (1, u "java/lang/Object")] 113

def k0c0 : Code := { maxStack := 0, maxLocals := 1, code := object_method_1_code, exceptionTable := #[], attributes := #[] }
def k0m0 : Method := { name := "<init>", desc := "()V", sig := { parameters := [], returnType := none }, accessFlags := 1, code := some k0c0 }
/-- java/lang/Object -/
def k0 : Class := { plain "java/lang/Object" none with
  accessFlags := 33
  interfaces := #[]
  cf := some (fileOf pool0 8 #[] #[{ accessFlags := 1, nameIndex := 5, descriptorIndex := 6, attributes := #[] }] 33 0 #[] #[])
  fields := #[]
  methods := #[k0m0]
  instanceTypes := #[]
  staticTypes := #[]
  resolved := Array.replicate 124 none
  statics := none }

def pool1 : Array CpInfo := pool [(2, .class_ 4), (0, .nameAndType 5 6), (0, u "java/lang/Object"), (0, u "<init>"), (0, u "()V"), (0, .methodref 8 9), (0, .class_ 10), (0, .nameAndType 11 12), (0, u "com/example/loomsand/loomsand/Draws"), (0, u "start"), (0, u "(JJ)V"), (0, .methodref 8 14), (0, .nameAndType 15 16), (0, u "between"), (0, u "(JJ)J"), (0, .methodref 18 19), (0, .class_ 20), (0, .nameAndType 21 16), (0, u "java/lang/Math"), (0, u "min"), (0, .methodref 18 23), (0, .nameAndType 24 16), (0, u "max"), (0, .methodref 8 3), (0, .methodref 27 28), (0, .class_ 29), (0, .nameAndType 30 31), (0, u "com/example/loomsand/loomsand/ParentRowsTotalPinLaw"), (0, u "count"), (0, u "(Lcom/example/loomsand/loomsand/Draws;JJJJ)J"), (0, .long 2), (1, .long 3), (1, .class_ 37), (0, u "com/example/loomsand/loomsand/ParentRows"), (0, .methodref 36 39), (0, .nameAndType 5 40), (0, u "(JJJJ)V"), (0, .methodref 36 42), (0, .nameAndType 43 44), (0, u "total"), (0, u "()J"), (2, u "law"), (0, u "(JJJIJI)Z")] 3

def k1m0 : Method := { name := "<init>", desc := "()V", sig := { parameters := [], returnType := none }, accessFlags := 1, code := none }
def k1c1 : Code := { maxStack := 5, maxLocals := 9, code := method_2_code, exceptionTable := #[], attributes := #[] }
def k1m1 : Method := { name := "count", desc := "(Lcom/example/loomsand/loomsand/Draws;JJJJ)J", sig := { parameters := [(.object "com/example/loomsand/loomsand/Draws"), .long, .long, .long, .long], returnType := some .long }, accessFlags := 10, code := some k1c1 }
def k1c2 : Code := { maxStack := 10, maxLocals := 31, code := code, exceptionTable := #[], attributes := #[] }
def k1m2 : Method := { name := "law", desc := "(JJJIJI)Z", sig := { parameters := [.long, .long, .long, .int, .long, .int], returnType := some .boolean }, accessFlags := 9, code := some k1c2 }
/-- com/example/loomsand/loomsand/ParentRowsTotalPinLaw -/
def k1 : Class := { plain "com/example/loomsand/loomsand/ParentRowsTotalPinLaw" (some 0) with
  accessFlags := 49
  interfaces := #[]
  cf := some (fileOf pool1 27 #[] #[{ accessFlags := 1, nameIndex := 5, descriptorIndex := 6, attributes := #[] }, { accessFlags := 10, nameIndex := 30, descriptorIndex := 31, attributes := #[] }, { accessFlags := 9, nameIndex := 47, descriptorIndex := 48, attributes := #[] }] 49 2 #[] #[])
  fields := #[]
  methods := #[k1m0, k1m1, k1m2]
  instanceTypes := #[]
  staticTypes := #[]
  resolved := Array.replicate 52 none
  statics := none }

def pool2 : Array CpInfo := pool [(1, .class_ 2), (0, u "java/lang/Math"), (1, .class_ 6), (1, u "java/lang/Object"), (0, u "<init>"), (0, u "()V"), (89, .class_ 100), (1, u "java/lang/Math$RandomNumberGeneratorHolder"), (20, u "(JJ)J"), (50, u "negativeZeroFloatBits"), (0, u "J"), (2, u "negativeZeroDoubleBits"), (21, u "max"), (2, u "min"), (43, u "$assertionsDisabled"), (0, u "Z"), (91, u "twoToTheDoubleScaleDown"), (0, u "D"), (4, u "twoToTheDoubleScaleUp"), (9, u "E"), (3, u "PI"), (2, u "TAU"), (2, u "DEGREES_TO_RADIANS"), (0, u "RADIANS_TO_DEGREES")] 94

def k2m0 : Method := { name := "<init>", desc := "()V", sig := { parameters := [], returnType := none }, accessFlags := 2, code := none }
def k2c1 : Code := { maxStack := 4, maxLocals := 4, code := jdk_29_method_66_code, exceptionTable := #[], attributes := #[] }
def k2m1 : Method := { name := "max", desc := "(JJ)J", sig := { parameters := [.long, .long], returnType := some .long }, accessFlags := 9, code := some k2c1 }
def k2c2 : Code := { maxStack := 4, maxLocals := 4, code := jdk_29_method_70_code, exceptionTable := #[], attributes := #[] }
def k2m2 : Method := { name := "min", desc := "(JJ)J", sig := { parameters := [.long, .long], returnType := some .long }, accessFlags := 9, code := some k2c2 }
/-- java/lang/Math -/
def k2 : Class := { plain "java/lang/Math" (some 0) with
  accessFlags := 49
  interfaces := #[]
  cf := some (fileOf pool2 1 #[.nestMembers #[98]] #[{ accessFlags := 2, nameIndex := 7, descriptorIndex := 8, attributes := #[] }, { accessFlags := 9, nameIndex := 198, descriptorIndex := 121, attributes := #[] }, { accessFlags := 9, nameIndex := 201, descriptorIndex := 121, attributes := #[] }] 49 4 #[] #[{ accessFlags := 25, nameIndex := 354, descriptorIndex := 339, attributes := #[] }, { accessFlags := 25, nameIndex := 358, descriptorIndex := 339, attributes := #[] }, { accessFlags := 25, nameIndex := 361, descriptorIndex := 339, attributes := #[] }, { accessFlags := 26, nameIndex := 364, descriptorIndex := 339, attributes := #[] }, { accessFlags := 26, nameIndex := 365, descriptorIndex := 339, attributes := #[] }, { accessFlags := 26, nameIndex := 172, descriptorIndex := 173, attributes := #[] }, { accessFlags := 26, nameIndex := 176, descriptorIndex := 173, attributes := #[] }, { accessFlags := 8, nameIndex := 344, descriptorIndex := 339, attributes := #[] }, { accessFlags := 8, nameIndex := 338, descriptorIndex := 339, attributes := #[] }, { accessFlags := 4120, nameIndex := 245, descriptorIndex := 246, attributes := #[] }])
  fields := #[{ name := "E", type := .double, accessFlags := 25, slot := 0, constantValue := 0 }, { name := "PI", type := .double, accessFlags := 25, slot := 1, constantValue := 0 }, { name := "TAU", type := .double, accessFlags := 25, slot := 2, constantValue := 0 }, { name := "DEGREES_TO_RADIANS", type := .double, accessFlags := 26, slot := 3, constantValue := 0 }, { name := "RADIANS_TO_DEGREES", type := .double, accessFlags := 26, slot := 4, constantValue := 0 }, { name := "negativeZeroFloatBits", type := .long, accessFlags := 26, slot := 5, constantValue := 0 }, { name := "negativeZeroDoubleBits", type := .long, accessFlags := 26, slot := 6, constantValue := 0 }, { name := "twoToTheDoubleScaleUp", type := .double, accessFlags := 8, slot := 7, constantValue := 0 }, { name := "twoToTheDoubleScaleDown", type := .double, accessFlags := 8, slot := 8, constantValue := 0 }, { name := "$assertionsDisabled", type := .boolean, accessFlags := 4120, slot := 9, constantValue := 0 }]
  methods := #[k2m0, k2m1, k2m2]
  instanceTypes := #[]
  staticTypes := #[.double, .double, .double, .double, .double, .long, .long, .double, .double, .boolean]
  resolved := Array.replicate 460 none
  statics := none }

def pool3 : Array CpInfo := pool [(1, .methodref 2 3), (0, .class_ 4), (0, .nameAndType 5 6), (0, u "java/lang/Object"), (0, u "<init>"), (0, u "()V"), (0, .class_ 8), (0, u "com/example/loomsand/loomsand/Feistel"), (0, .invokeDynamic 0 10), (0, .nameAndType 11 12), (0, u "hash"), (0, u "(Lcom/example/loomsand/loomsand/Draws;)Lcom/example/loomsand/loomsand/Feistel$Round;"), (0, .methodref 7 14), (0, .nameAndType 5 15), (0, u "(Lcom/example/loomsand/loomsand/Feistel$Round;)V"), (0, .fieldref 17 18), (0, .class_ 19), (0, .nameAndType 20 21), (0, u "com/example/loomsand/loomsand/Draws"), (0, u "shuffle"), (0, u "Lcom/example/loomsand/loomsand/Feistel;"), (16, .methodref 17 39), (0, .nameAndType 40 41), (0, u "mix"), (0, u "(J)J"), (0, .fieldref 17 43), (0, .nameAndType 44 45), (0, u "key"), (0, u "J"), (0, .fieldref 17 47), (0, .nameAndType 48 45), (0, u "row"), (0, .long 11400714819323198485), (1, .fieldref 17 52), (0, .nameAndType 53 45), (0, u "state"), (9, .methodref 17 64), (0, .nameAndType 65 66), (0, u "next"), (0, u "()J"), (0, .methodref 68 69), (0, .class_ 70), (0, .nameAndType 71 72), (0, u "java/lang/Long"), (0, u "compareUnsigned"), (0, u "(JJ)I"), (0, .methodref 68 74), (0, .nameAndType 75 76), (0, u "remainderUnsigned"), (0, u "(JJ)J"), (24, u "between"), (15, u "shuffleKey"), (22, .long 13787848793156543929), (1, .long 10723151780598845931), (1, u "STEP"), (1, u "FNV_OFFSET"), (0, u "FNV_PRIME"), (5, u "start"), (0, u "(JJ)V"), (5, u "shuffleRound"), (0, u "(IJ)J"), (3, .methodType 161), (0, .methodHandle 5 167), (0, .methodref 17 168), (0, .nameAndType 160 161), (4, .methodHandle 6 174), (0, .methodref 175 176), (0, .class_ 177), (0, .nameAndType 178 179), (0, u "java/lang/invoke/LambdaMetafactory"), (0, u "metafactory"), (0, u "(Ljava/lang/invoke/MethodHandles$Lookup;Ljava/lang/String;Ljava/lang/invoke/MethodType;Ljava/lang/invoke/MethodType;Ljava/lang/invoke/MethodHandle;Ljava/lang/invoke/MethodType;)Ljava/lang/invoke/CallSite;")] 15

def k3c0 : Code := { maxStack := 4, maxLocals := 1, code := prog_16_method_1_code, exceptionTable := #[], attributes := #[] }
def k3m0 : Method := { name := "<init>", desc := "()V", sig := { parameters := [], returnType := none }, accessFlags := 0, code := some k3c0 }
def k3c1 : Code := { maxStack := 7, maxLocals := 5, code := prog_16_method_3_code, exceptionTable := #[], attributes := #[] }
def k3m1 : Method := { name := "start", desc := "(JJ)V", sig := { parameters := [.long, .long], returnType := none }, accessFlags := 0, code := some k3c1 }
def k3c2 : Code := { maxStack := 5, maxLocals := 1, code := prog_16_method_4_code, exceptionTable := #[], attributes := #[] }
def k3m2 : Method := { name := "next", desc := "()J", sig := { parameters := [], returnType := some .long }, accessFlags := 0, code := some k3c2 }
def k3c3 : Code := { maxStack := 6, maxLocals := 11, code := prog_16_method_5_code, exceptionTable := #[], attributes := #[] }
def k3m3 : Method := { name := "between", desc := "(JJ)J", sig := { parameters := [.long, .long], returnType := some .long }, accessFlags := 0, code := some k3c3 }
def k3c4 : Code := { maxStack := 6, maxLocals := 4, code := ⟨#[0x2a, 0xb4, 0x00, 0x73, 0x20, 0x14, 0x00, 0x31, 0x69, 0x61, 0xb8, 0x00, 0x26, 0x1b, 0x04, 0x60, 0x85, 0x14, 0x00, 0x31, 0x69, 0x61, 0xb8, 0x00, 0x26, 0xad]⟩, exceptionTable := #[], attributes := #[] }
def k3m4 : Method := { name := "shuffleRound", desc := "(IJ)J", sig := { parameters := [.int, .long], returnType := some .long }, accessFlags := 2, code := some k3c4 }
def k3c5 : Code := { maxStack := 5, maxLocals := 2, code := prog_16_method_14_code, exceptionTable := #[], attributes := #[] }
def k3m5 : Method := { name := "mix", desc := "(J)J", sig := { parameters := [.long], returnType := some .long }, accessFlags := 10, code := some k3c5 }
/-- com/example/loomsand/loomsand/Draws -/
def k3 : Class := { plain "com/example/loomsand/loomsand/Draws" (some 0) with
  accessFlags := 48
  interfaces := #[]
  cf := some (fileOf pool3 17 #[.bootstrapMethods #[⟨173, #[165, 166, 165]⟩, ⟨0, #[]⟩, ⟨0, #[]⟩]] #[{ accessFlags := 0, nameIndex := 5, descriptorIndex := 6, attributes := #[] }, { accessFlags := 0, nameIndex := 153, descriptorIndex := 154, attributes := #[] }, { accessFlags := 0, nameIndex := 65, descriptorIndex := 66, attributes := #[] }, { accessFlags := 0, nameIndex := 101, descriptorIndex := 76, attributes := #[] }, { accessFlags := 2, nameIndex := 160, descriptorIndex := 161, attributes := #[] }, { accessFlags := 10, nameIndex := 40, descriptorIndex := 41, attributes := #[] }] 48 2 #[] #[{ accessFlags := 26, nameIndex := 144, descriptorIndex := 45, attributes := #[] }, { accessFlags := 26, nameIndex := 146, descriptorIndex := 45, attributes := #[] }, { accessFlags := 26, nameIndex := 147, descriptorIndex := 45, attributes := #[] }, { accessFlags := 2, nameIndex := 53, descriptorIndex := 45, attributes := #[] }, { accessFlags := 2, nameIndex := 44, descriptorIndex := 45, attributes := #[] }, { accessFlags := 2, nameIndex := 48, descriptorIndex := 45, attributes := #[] }, { accessFlags := 2, nameIndex := 117, descriptorIndex := 45, attributes := #[] }, { accessFlags := 18, nameIndex := 20, descriptorIndex := 21, attributes := #[] }])
  fields := #[{ name := "STEP", type := .long, accessFlags := 26, slot := 0, constantValue := 0 }, { name := "FNV_OFFSET", type := .long, accessFlags := 26, slot := 1, constantValue := 0 }, { name := "FNV_PRIME", type := .long, accessFlags := 26, slot := 2, constantValue := 0 }, { name := "state", type := .long, accessFlags := 2, slot := 0, constantValue := 0 }, { name := "key", type := .long, accessFlags := 2, slot := 1, constantValue := 0 }, { name := "row", type := .long, accessFlags := 2, slot := 2, constantValue := 0 }, { name := "shuffleKey", type := .long, accessFlags := 2, slot := 3, constantValue := 0 }, { name := "shuffle", type := (.object "com/example/loomsand/loomsand/Feistel"), accessFlags := 18, slot := 4, constantValue := 0 }]
  methods := #[k3m0, k3m1, k3m2, k3m3, k3m4, k3m5]
  instanceTypes := #[.long, .long, .long, .long, (.object "com/example/loomsand/loomsand/Feistel")]
  staticTypes := #[.long, .long, .long]
  resolved := Array.replicate 195 none
  callSites := [(0, 10, .makes 20)]
  statics := none }

def pool4 : Array CpInfo := pool [(1, .methodref 2 3), (0, .class_ 4), (0, .nameAndType 5 6), (0, u "java/lang/Object"), (0, u "<init>"), (0, u "()V"), (0, .fieldref 8 9), (0, .class_ 10), (0, .nameAndType 11 12), (0, u "com/example/loomsand/loomsand/Feistel"), (0, u "round"), (0, u "Lcom/example/loomsand/loomsand/Feistel$Round;"), (1, .class_ 16), (1, u "com/example/loomsand/loomsand/Feistel$Round"), (10, u "left"), (0, u "J"), (2, u "right"), (0, u "MOST_VALUES"), (3, u "ROUNDS"), (0, u "I"), (1, u "(Lcom/example/loomsand/loomsand/Feistel$Round;)V")] 11

def k4c0 : Code := { maxStack := 2, maxLocals := 2, code := prog_17_method_1_code, exceptionTable := #[], attributes := #[] }
def k4m0 : Method := { name := "<init>", desc := "(Lcom/example/loomsand/loomsand/Feistel$Round;)V", sig := { parameters := [(.object "com/example/loomsand/loomsand/Feistel$Round")], returnType := none }, accessFlags := 0, code := some k4c0 }
/-- com/example/loomsand/loomsand/Feistel -/
def k4 : Class := { plain "com/example/loomsand/loomsand/Feistel" (some 0) with
  accessFlags := 48
  interfaces := #[]
  cf := some (fileOf pool4 8 #[.nestMembers #[14]] #[{ accessFlags := 0, nameIndex := 5, descriptorIndex := 39, attributes := #[] }] 48 2 #[] #[{ accessFlags := 24, nameIndex := 32, descriptorIndex := 28, attributes := #[] }, { accessFlags := 26, nameIndex := 36, descriptorIndex := 37, attributes := #[] }, { accessFlags := 18, nameIndex := 11, descriptorIndex := 12, attributes := #[] }, { accessFlags := 2, nameIndex := 27, descriptorIndex := 28, attributes := #[] }, { accessFlags := 2, nameIndex := 31, descriptorIndex := 28, attributes := #[] }])
  fields := #[{ name := "MOST_VALUES", type := .long, accessFlags := 24, slot := 0, constantValue := 0 }, { name := "ROUNDS", type := .int, accessFlags := 26, slot := 1, constantValue := 0 }, { name := "round", type := (.object "com/example/loomsand/loomsand/Feistel$Round"), accessFlags := 18, slot := 0, constantValue := 0 }, { name := "left", type := .long, accessFlags := 2, slot := 1, constantValue := 0 }, { name := "right", type := .long, accessFlags := 2, slot := 2, constantValue := 0 }]
  methods := #[k4m0]
  instanceTypes := #[(.object "com/example/loomsand/loomsand/Feistel$Round"), .long, .long]
  staticTypes := #[.long, .int]
  resolved := Array.replicate 51 none
  statics := none }

def pool5 : Array CpInfo := pool [(1, .class_ 2), (0, u "com/example/loomsand/loomsand/Feistel$Round"), (0, .class_ 4), (0, u "java/lang/Object"), (0, u "hash"), (0, u "(IJ)J"), (5, .class_ 13), (0, u "com/example/loomsand/loomsand/Feistel")] 2

def k5m0 : Method := { name := "hash", desc := "(IJ)J", sig := { parameters := [.int, .long], returnType := some .long }, accessFlags := 1025, code := none }
/-- com/example/loomsand/loomsand/Feistel$Round -/
def k5 : Class := { plain "com/example/loomsand/loomsand/Feistel$Round" (some 0) with
  accessFlags := 1536
  interfaces := #[]
  cf := some (fileOf pool5 1 #[.nestHost 12] #[{ accessFlags := 1025, nameIndex := 5, descriptorIndex := 6, attributes := #[] }] 1536 3 #[] #[])
  fields := #[]
  methods := #[k5m0]
  instanceTypes := #[]
  staticTypes := #[]
  resolved := Array.replicate 16 none
  statics := none }

def pool6 : Array CpInfo := pool [(1, .class_ 2), (0, u "java/io/Serializable"), (0, .class_ 4), (0, u "java/lang/Object")] 2

/-- java/io/Serializable -/
def k6 : Class := { plain "java/io/Serializable" (some 0) with
  accessFlags := 1537
  interfaces := #[]
  cf := some (fileOf pool6 1 #[] #[] 1537 3 #[] #[])
  fields := #[]
  methods := #[]
  instanceTypes := #[]
  staticTypes := #[]
  resolved := Array.replicate 7 none
  statics := none }

def pool7 : Array CpInfo := pool [(2, .class_ 4), (1, u "java/lang/Object"), (0, u "<init>"), (0, u "()V"), (1, .class_ 10), (1, u "java/lang/Number"), (2, .class_ 14), (0, u "java/io/Serializable"), (0, u "serialVersionUID"), (0, u "J")] 20

def k7m0 : Method := { name := "<init>", desc := "()V", sig := { parameters := [], returnType := none }, accessFlags := 1, code := none }
/-- java/lang/Number -/
def k7 : Class := { plain "java/lang/Number" (some 0) with
  accessFlags := 1057
  interfaces := #[6]
  cf := some (fileOf pool7 8 #[] #[{ accessFlags := 1, nameIndex := 5, descriptorIndex := 6, attributes := #[] }] 1057 2 #[13] #[{ accessFlags := 26, nameIndex := 15, descriptorIndex := 16, attributes := #[] }])
  fields := #[{ name := "serialVersionUID", type := .long, accessFlags := 26, slot := 0, constantValue := 0 }]
  methods := #[k7m0]
  instanceTypes := #[]
  staticTypes := #[.long]
  resolved := Array.replicate 37 none
  statics := none }

def pool8 : Array CpInfo := pool [(1, .class_ 2), (0, u "java/lang/Comparable"), (0, .class_ 4), (0, u "java/lang/Object")] 7

/-- java/lang/Comparable -/
def k8 : Class := { plain "java/lang/Comparable" (some 0) with
  accessFlags := 1537
  interfaces := #[]
  cf := some (fileOf pool8 1 #[] #[] 1537 3 #[] #[])
  fields := #[]
  methods := #[]
  instanceTypes := #[]
  staticTypes := #[]
  resolved := Array.replicate 12 none
  statics := none }

def pool9 : Array CpInfo := pool [(1, .class_ 2), (0, u "java/lang/constant/Constable"), (0, .class_ 4), (0, u "java/lang/Object")] 6

/-- java/lang/constant/Constable -/
def k9 : Class := { plain "java/lang/constant/Constable" (some 0) with
  accessFlags := 1537
  interfaces := #[]
  cf := some (fileOf pool9 1 #[] #[] 1537 3 #[] #[])
  fields := #[]
  methods := #[]
  instanceTypes := #[]
  staticTypes := #[]
  resolved := Array.replicate 11 none
  statics := none }

def pool10 : Array CpInfo := pool [(1, .class_ 2), (0, u "java/lang/constant/ConstantDesc"), (0, .class_ 4), (0, u "java/lang/Object")] 32

/-- java/lang/constant/ConstantDesc -/
def k10 : Class := { plain "java/lang/constant/ConstantDesc" (some 0) with
  accessFlags := 1537
  interfaces := #[]
  cf := some (fileOf pool10 1 #[] #[] 1537 3 #[] #[])
  fields := #[]
  methods := #[]
  instanceTypes := #[]
  staticTypes := #[]
  resolved := Array.replicate 37 none
  statics := none }

def pool11 : Array CpInfo := pool [(1, .class_ 2), (0, u "java/lang/Long"), (165, .long 9223372036854775808), (66, .class_ 237), (1, u "java/lang/Long$LongCache"), (33, .class_ 272), (0, u "java/lang/Number"), (2, u "value"), (0, u "J"), (25, .methodref 1 303), (0, .nameAndType 304 305), (0, u "compare"), (0, u "(JJ)I"), (0, .long 18446744073709551615), (26, u "(JJ)J"), (27, u "TYPE"), (0, u "Ljava/lang/Class;"), (0, .class_ 364), (0, u "java/lang/Comparable"), (0, .class_ 366), (0, u "java/lang/constant/Constable"), (0, .class_ 368), (0, u "java/lang/constant/ConstantDesc"), (0, u "MIN_VALUE"), (1, u "MAX_VALUE"), (4, u "SIZE"), (0, u "I"), (1, u "BYTES"), (1, u "serialVersionUID"), (87, u "compareUnsigned"), (3, u "remainderUnsigned")] 50

def k11c0 : Code := { maxStack := 4, maxLocals := 4, code := jdk_35_method_42_code, exceptionTable := #[], attributes := #[] }
def k11m0 : Method := { name := "compare", desc := "(JJ)I", sig := { parameters := [.long, .long], returnType := some .int }, accessFlags := 9, code := some k11c0 }
def k11c1 : Code := { maxStack := 6, maxLocals := 4, code := jdk_35_method_43_code, exceptionTable := #[], attributes := #[] }
def k11m1 : Method := { name := "compareUnsigned", desc := "(JJ)I", sig := { parameters := [.long, .long], returnType := some .int }, accessFlags := 9, code := some k11c1 }
def k11c2 : Code := { maxStack := 8, maxLocals := 8, code := jdk_35_method_45_code, exceptionTable := #[], attributes := #[] }
def k11m2 : Method := { name := "remainderUnsigned", desc := "(JJ)J", sig := { parameters := [.long, .long], returnType := some .long }, accessFlags := 9, code := some k11c2 }
/-- java/lang/Long -/
def k11 : Class := { plain "java/lang/Long" (some 7) with
  accessFlags := 49
  interfaces := #[8, 9, 10]
  cf := some (fileOf pool11 1 #[.nestMembers #[235]] #[{ accessFlags := 9, nameIndex := 304, descriptorIndex := 305, attributes := #[] }, { accessFlags := 9, nameIndex := 469, descriptorIndex := 305, attributes := #[] }, { accessFlags := 9, nameIndex := 473, descriptorIndex := 333, attributes := #[] }] 49 271 #[363, 365, 367] #[{ accessFlags := 25, nameIndex := 369, descriptorIndex := 276, attributes := #[] }, { accessFlags := 25, nameIndex := 371, descriptorIndex := 276, attributes := #[] }, { accessFlags := 25, nameIndex := 361, descriptorIndex := 362, attributes := #[] }, { accessFlags := 18, nameIndex := 275, descriptorIndex := 276, attributes := #[] }, { accessFlags := 25, nameIndex := 376, descriptorIndex := 377, attributes := #[] }, { accessFlags := 25, nameIndex := 379, descriptorIndex := 377, attributes := #[] }, { accessFlags := 26, nameIndex := 381, descriptorIndex := 276, attributes := #[] }])
  fields := #[{ name := "MIN_VALUE", type := .long, accessFlags := 25, slot := 0, constantValue := 0 }, { name := "MAX_VALUE", type := .long, accessFlags := 25, slot := 1, constantValue := 0 }, { name := "TYPE", type := (.object "java/lang/Class"), accessFlags := 25, slot := 2, constantValue := 0 }, { name := "value", type := .long, accessFlags := 18, slot := 0, constantValue := 0 }, { name := "SIZE", type := .int, accessFlags := 25, slot := 3, constantValue := 0 }, { name := "BYTES", type := .int, accessFlags := 25, slot := 4, constantValue := 0 }, { name := "serialVersionUID", type := .long, accessFlags := 26, slot := 5, constantValue := 0 }]
  methods := #[k11m0, k11m1, k11m2]
  instanceTypes := #[.long]
  staticTypes := #[.long, .long, (.object "java/lang/Class"), .int, .int, .long]
  resolved := Array.replicate 524 none
  statics := none }

def pool12 : Array CpInfo := pool [(1, .methodref 2 3), (0, .class_ 4), (0, .nameAndType 5 6), (0, u "java/lang/Object"), (0, u "<init>"), (0, u "()V"), (0, .class_ 8), (0, u "com/example/loomsand/loomsand/Draws"), (0, .methodref 7 3), (0, .fieldref 11 12), (0, .class_ 13), (0, .nameAndType 14 15), (0, u "com/example/loomsand/loomsand/ParentRows"), (0, u "draws"), (0, u "Lcom/example/loomsand/loomsand/Draws;"), (0, .fieldref 11 17), (0, .nameAndType 18 19), (0, u "key"), (0, u "J"), (0, .fieldref 11 21), (0, .nameAndType 22 19), (0, u "min"), (0, .fieldref 11 24), (0, .nameAndType 25 19), (0, u "max"), (0, .long 128), (1, .long 16777216), (1, .methodref 31 32), (0, .class_ 33), (0, .nameAndType 25 34), (0, u "java/lang/Math"), (0, u "(JJ)J"), (0, .fieldref 11 36), (0, .nameAndType 37 19), (0, u "block"), (0, .fieldref 11 39), (0, .nameAndType 40 41), (0, u "starts"), (0, u "[J"), (0, .methodref 11 43), (0, .nameAndType 44 45), (0, u "count"), (0, u "(J)J"), (5, u "first"), (2, u "blockEnd"), (2, u "parent"), (2, u "end"), (0, .methodref 7 62), (0, .nameAndType 63 64), (0, u "start"), (0, u "(JJ)V"), (0, .methodref 7 66), (0, .nameAndType 67 34), (0, u "between"), (0, u "BLOCK"), (1, u "MOST_STARTS"), (0, u "(JJJJ)V"), (5, u "total"), (0, u "()J")] 3

def k12c0 : Code := { maxStack := 7, maxLocals := 13, code := prog_28_method_1_code, exceptionTable := #[], attributes := #[] }
def k12m0 : Method := { name := "<init>", desc := "(JJJJ)V", sig := { parameters := [.long, .long, .long, .long], returnType := none }, accessFlags := 0, code := some k12c0 }
def k12c1 : Code := { maxStack := 3, maxLocals := 1, code := prog_28_method_4_code, exceptionTable := #[], attributes := #[] }
def k12m1 : Method := { name := "total", desc := "()J", sig := { parameters := [], returnType := some .long }, accessFlags := 0, code := some k12c1 }
def k12c2 : Code := { maxStack := 5, maxLocals := 3, code := prog_28_method_6_code, exceptionTable := #[], attributes := #[] }
def k12m2 : Method := { name := "count", desc := "(J)J", sig := { parameters := [.long], returnType := some .long }, accessFlags := 2, code := some k12c2 }
/-- com/example/loomsand/loomsand/ParentRows -/
def k12 : Class := { plain "com/example/loomsand/loomsand/ParentRows" (some 0) with
  accessFlags := 48
  interfaces := #[]
  cf := some (fileOf pool12 11 #[] #[{ accessFlags := 0, nameIndex := 5, descriptorIndex := 71, attributes := #[] }, { accessFlags := 0, nameIndex := 77, descriptorIndex := 78, attributes := #[] }, { accessFlags := 2, nameIndex := 44, descriptorIndex := 45, attributes := #[] }] 48 2 #[] #[{ accessFlags := 24, nameIndex := 68, descriptorIndex := 19, attributes := #[] }, { accessFlags := 26, nameIndex := 70, descriptorIndex := 19, attributes := #[] }, { accessFlags := 18, nameIndex := 18, descriptorIndex := 19, attributes := #[] }, { accessFlags := 18, nameIndex := 22, descriptorIndex := 19, attributes := #[] }, { accessFlags := 18, nameIndex := 25, descriptorIndex := 19, attributes := #[] }, { accessFlags := 18, nameIndex := 37, descriptorIndex := 19, attributes := #[] }, { accessFlags := 18, nameIndex := 40, descriptorIndex := 41, attributes := #[] }, { accessFlags := 18, nameIndex := 14, descriptorIndex := 15, attributes := #[] }, { accessFlags := 2, nameIndex := 57, descriptorIndex := 19, attributes := #[] }, { accessFlags := 2, nameIndex := 51, descriptorIndex := 19, attributes := #[] }, { accessFlags := 2, nameIndex := 60, descriptorIndex := 19, attributes := #[] }, { accessFlags := 2, nameIndex := 54, descriptorIndex := 19, attributes := #[] }])
  fields := #[{ name := "BLOCK", type := .long, accessFlags := 24, slot := 0, constantValue := 0 }, { name := "MOST_STARTS", type := .long, accessFlags := 26, slot := 1, constantValue := 0 }, { name := "key", type := .long, accessFlags := 18, slot := 0, constantValue := 0 }, { name := "min", type := .long, accessFlags := 18, slot := 1, constantValue := 0 }, { name := "max", type := .long, accessFlags := 18, slot := 2, constantValue := 0 }, { name := "block", type := .long, accessFlags := 18, slot := 3, constantValue := 0 }, { name := "starts", type := (.array .long), accessFlags := 18, slot := 4, constantValue := 0 }, { name := "draws", type := (.object "com/example/loomsand/loomsand/Draws"), accessFlags := 18, slot := 5, constantValue := 0 }, { name := "parent", type := .long, accessFlags := 2, slot := 6, constantValue := 0 }, { name := "first", type := .long, accessFlags := 2, slot := 7, constantValue := 0 }, { name := "end", type := .long, accessFlags := 2, slot := 8, constantValue := 0 }, { name := "blockEnd", type := .long, accessFlags := 2, slot := 9, constantValue := 0 }]
  methods := #[k12m0, k12m1, k12m2]
  instanceTypes := #[.long, .long, .long, .long, (.array .long), (.object "com/example/loomsand/loomsand/Draws"), .long, .long, .long, .long]
  staticTypes := #[.long, .long]
  resolved := Array.replicate 82 none
  statics := none }

def pool13 : Array CpInfo := pool [(1, u "java/lang/Cloneable"), (0, .class_ 1), (0, u "java/lang/Object"), (0, .class_ 3)] 3

/-- java/lang/Cloneable -/
def k13 : Class := { plain "java/lang/Cloneable" (some 0) with
  accessFlags := 1537
  interfaces := #[]
  cf := some (fileOf pool13 2 #[] #[] 1537 4 #[] #[])
  fields := #[]
  methods := #[]
  instanceTypes := #[]
  staticTypes := #[]
  resolved := Array.replicate 8 none
  statics := none }

/-- the primitive byte -/
def k14 : Class := { plain "byte" none with kind := .primitive 'B', accessFlags := 0x411 }
/-- [B -/
def k15 : Class := { plain "[B" (some 0) with kind := .array 14 .byte, interfaces := #[13, 6], accessFlags := 1041 }

/-- the primitive int -/
def k16 : Class := { plain "int" none with kind := .primitive 'I', accessFlags := 0x411 }
/-- [I -/
def k17 : Class := { plain "[I" (some 0) with kind := .array 16 .int, interfaces := #[13, 6], accessFlags := 1041 }

/-- the primitive long -/
def k18 : Class := { plain "long" none with kind := .primitive 'J', accessFlags := 0x411 }
/-- [J -/
def k19 : Class := { plain "[J" (some 0) with kind := .array 18 .long, interfaces := #[13, 6], accessFlags := 1041 }

def classes0 : Array Class := #[k0, k1, k2, k3, k4, k5, k6, k7, k8, k9, k10, k11, k12, k13, k14, k15, k16, k17, k18, k19]
/-- the class that the rule has made for the site at 10 of com/example/loomsand/loomsand/Draws.<init> -/
def k20 : Class := Jvm.LamKit.madeRec { classes := classes0 } "com/example/loomsand/loomsand/Draws" (Jvm.Lambda.Shape.mk "com/example/loomsand/loomsand/Feistel$Round" "hash" (Jvm.ClassFile.MethodDescriptor.mk ([Jvm.ClassFile.FieldType.int, Jvm.ClassFile.FieldType.long] : List Jvm.ClassFile.FieldType) (Option.some Jvm.ClassFile.FieldType.long)) ([(Jvm.ClassFile.FieldType.object "com/example/loomsand/loomsand/Draws")] : List Jvm.ClassFile.FieldType) (5 : Nat) "com/example/loomsand/loomsand/Draws" "shuffleRound" (Jvm.ClassFile.MethodDescriptor.mk ([Jvm.ClassFile.FieldType.int, Jvm.ClassFile.FieldType.long] : List Jvm.ClassFile.FieldType) (Option.some Jvm.ClassFile.FieldType.long)) false (Jvm.ClassFile.MethodDescriptor.mk ([Jvm.ClassFile.FieldType.int, Jvm.ClassFile.FieldType.long] : List Jvm.ClassFile.FieldType) (Option.some Jvm.ClassFile.FieldType.long))) 20

def heap : Heap := #[]
def classes : Array Class := #[k0, k1, k2, k3, k4, k5, k6, k7, k8, k9, k10, k11, k12, k13, k14, k15, k16, k17, k18, k19, k20]
def interned : List (Array UInt16 × Addr) := []
def slotsUsed : Nat := 0
def theMethod : MethodId := ⟨1, 2⟩
def args0 : Array Value := #[.long 7, .long 1, .long 2, .int 3, .long 4, .int 5]
def aboutOver (below : List Frame) : State where
  vm := { classes := classes, interned := interned.toArray }
  heap := heap
  slotsUsed := slotsUsed
  threads := #[{ frames := .invoking theMethod args0 :: below }]
def below0 : List Frame := [.native { method := ⟨0, 0⟩, args := #[] }]
def about1 : State := aboutOver below0
def p0 : Program := .bare "" "" ""
def e0 : Env := launch0.env 0 0 0
theorem w_frames : about1.frames = Frame.invoking theMethod args0 :: below0 := rfl
set_option maxRecDepth 65536 in
theorem w_args : argsFit about1.vm theMethod args0 = true := by decide +kernel
set_option maxRecDepth 65536 in
theorem w_heap : heapFits about1 = true := by decide +kernel
set_option maxRecDepth 65536 in
theorem w_runnable : about1.curStatus? = some .runnable := by decide +kernel
set_option maxRecDepth 65536 in
theorem w_alone : about1.alone = true := by decide +kernel
set_option maxRecDepth 65536 in
theorem w_named : about1.methodNamed? x = some theMethod := by decide +kernel
set_option maxRecDepth 65536 in
theorem w_hears : about1.hears theMethod below0 = true := by decide +kernel
set_option maxRecDepth 65536 in
theorem w_ripe : about1.ripe theMethod args0 below0 = true := by decide +kernel
theorem w_running : about1.status = .running := rfl
set_option maxRecDepth 65536 in
theorem w_room : about1.hasRoom e0.platform room_1 = true :=
  launch0.hasRoom_least _ room_1 (by decide +kernel) (by decide +kernel) (by decide +kernel) (by decide +kernel) (by decide +kernel) (by decide +kernel)
theorem allAtoms_all (ts : List Jvm.Cond) (a : Array Jvm.Value) (st : Jvm.State) : (allAtoms ts).before a st = ts.all (fun c => c.before a st) := by
  induction ts with
  | nil => rfl
  | cons c t ih =>
    show (Jvm.Cond.and c (allAtoms t)).before a st = _
    rw [Jvm.Cond.before_and, ih, List.all_cons]
def words1 : List Jvm.Cond := Jvm.Cond.code x code maxLocals ret :: tables_1
/-- a 'code' word, met by the world's own term for the bytes: nothing is compared byte by byte -/
theorem code_word {y : MethodName} {bytes : ByteArray} {mx : Nat} {rt : Option FieldType} {a : Array Value} {s : State} {m : MethodId} {meth : Method} {c : Code} (h1 : s.methodNamed? y = some m) (h2 : s.vm.method? m = some meth) (h3 : meth.code = some c) (h4 : c.code = bytes)
    (h5 : (c.maxLocals == mx && c.exceptionTable.isEmpty && decide (c.maxStack ≤ mostOperands) && decide (meth.sig.returnType = rt) && !meth.locks && decide (parseMethodDescriptor y.desc = some meth.sig)) = true) : (Jvm.Cond.code y bytes mx rt).before a s = true := by
  simp only [Bool.and_eq_true, beq_iff_eq, Bool.not_eq_true', decide_eq_true_eq] at h5
  obtain ⟨⟨⟨⟨⟨g1, g2⟩, g3⟩, g4⟩, g5⟩, g6⟩ := h5
  simp [Cond.before, Cond.holds, Cond.value, h1, h2, h3, h4, g1, g2, g3, g4, g5, g6]
def isCode : Jvm.Cond → Bool
  | .code _ _ _ _ => true
  | _ => false
theorem all_split {L : List Jvm.Cond} {P : Jvm.Cond → Bool} (h1 : L.all (fun c => isCode c || P c) = true) (h2 : ∀ c ∈ L.filter isCode, P c = true) : L.all P = true := by
  refine List.all_eq_true.mpr fun c hc => ?_
  have h := List.all_eq_true.mp h1 c hc
  rcases Bool.eq_false_or_eq_true (isCode c) with hi | hi
  · exact h2 c (List.mem_filter.mpr ⟨hc, hi⟩)
  · simpa [hi] using h
set_option maxRecDepth 65536 in
theorem w_c0 : (Jvm.Cond.code x code maxLocals ret).before args0 about1 = true := code_word (m := ⟨1, 2⟩) (meth := k1m2) (c := k1c2) (by decide +kernel) rfl rfl rfl (by decide +kernel)
set_option maxRecDepth 65536 in
theorem w_c1 : (Jvm.Cond.code ({ cls := "java/lang/Math", name := "min", desc := "(JJ)J" } : Jvm.MethodName) jdk_29_method_70_code (4 : Nat) (Option.some Jvm.ClassFile.FieldType.long)).before args0 about1 = true := code_word (m := ⟨2, 2⟩) (meth := k2m2) (c := k2c2) (by decide +kernel) rfl rfl rfl (by decide +kernel)
set_option maxRecDepth 65536 in
theorem w_c2 : (Jvm.Cond.code ({ cls := "java/lang/Math", name := "max", desc := "(JJ)J" } : Jvm.MethodName) jdk_29_method_66_code (4 : Nat) (Option.some Jvm.ClassFile.FieldType.long)).before args0 about1 = true := code_word (m := ⟨2, 1⟩) (meth := k2m1) (c := k2c1) (by decide +kernel) rfl rfl rfl (by decide +kernel)
set_option maxRecDepth 65536 in
theorem w_c3 : (Jvm.Cond.code ({ cls := "com/example/loomsand/loomsand/Draws", name := "<init>", desc := "()V" } : Jvm.MethodName) prog_16_method_1_code (1 : Nat) (Option.none : Option Jvm.ClassFile.FieldType)).before args0 about1 = true := code_word (m := ⟨3, 0⟩) (meth := k3m0) (c := k3c0) (by decide +kernel) rfl rfl rfl (by decide +kernel)
set_option maxRecDepth 65536 in
theorem w_c4 : (Jvm.Cond.code ({ cls := "java/lang/Object", name := "<init>", desc := "()V" } : Jvm.MethodName) object_method_1_code (1 : Nat) (Option.none : Option Jvm.ClassFile.FieldType)).before args0 about1 = true := code_word (m := ⟨0, 0⟩) (meth := k0m0) (c := k0c0) (by decide +kernel) rfl rfl rfl (by decide +kernel)
set_option maxRecDepth 65536 in
theorem w_c5 : (Jvm.Cond.code ({ cls := "com/example/loomsand/loomsand/Feistel", name := "<init>", desc := "(Lcom/example/loomsand/loomsand/Feistel$Round;)V" } : Jvm.MethodName) prog_17_method_1_code (2 : Nat) (Option.none : Option Jvm.ClassFile.FieldType)).before args0 about1 = true := code_word (m := ⟨4, 0⟩) (meth := k4m0) (c := k4c0) (by decide +kernel) rfl rfl rfl (by decide +kernel)
set_option maxRecDepth 65536 in
theorem w_c6 : (Jvm.Cond.code ({ cls := "com/example/loomsand/loomsand/ParentRowsTotalPinLaw", name := "count", desc := "(Lcom/example/loomsand/loomsand/Draws;JJJJ)J" } : Jvm.MethodName) method_2_code (9 : Nat) (Option.some Jvm.ClassFile.FieldType.long)).before args0 about1 = true := code_word (m := ⟨1, 1⟩) (meth := k1m1) (c := k1c1) (by decide +kernel) rfl rfl rfl (by decide +kernel)
set_option maxRecDepth 65536 in
theorem w_c7 : (Jvm.Cond.code ({ cls := "com/example/loomsand/loomsand/Draws", name := "start", desc := "(JJ)V" } : Jvm.MethodName) prog_16_method_3_code (5 : Nat) (Option.none : Option Jvm.ClassFile.FieldType)).before args0 about1 = true := code_word (m := ⟨3, 1⟩) (meth := k3m1) (c := k3c1) (by decide +kernel) rfl rfl rfl (by decide +kernel)
set_option maxRecDepth 65536 in
theorem w_c8 : (Jvm.Cond.code ({ cls := "com/example/loomsand/loomsand/Draws", name := "mix", desc := "(J)J" } : Jvm.MethodName) prog_16_method_14_code (2 : Nat) (Option.some Jvm.ClassFile.FieldType.long)).before args0 about1 = true := code_word (m := ⟨3, 5⟩) (meth := k3m5) (c := k3c5) (by decide +kernel) rfl rfl rfl (by decide +kernel)
set_option maxRecDepth 65536 in
theorem w_c9 : (Jvm.Cond.code ({ cls := "com/example/loomsand/loomsand/Draws", name := "between", desc := "(JJ)J" } : Jvm.MethodName) prog_16_method_5_code (11 : Nat) (Option.some Jvm.ClassFile.FieldType.long)).before args0 about1 = true := code_word (m := ⟨3, 3⟩) (meth := k3m3) (c := k3c3) (by decide +kernel) rfl rfl rfl (by decide +kernel)
set_option maxRecDepth 65536 in
theorem w_c10 : (Jvm.Cond.code ({ cls := "com/example/loomsand/loomsand/Draws", name := "next", desc := "()J" } : Jvm.MethodName) prog_16_method_4_code (1 : Nat) (Option.some Jvm.ClassFile.FieldType.long)).before args0 about1 = true := code_word (m := ⟨3, 2⟩) (meth := k3m2) (c := k3c2) (by decide +kernel) rfl rfl rfl (by decide +kernel)
set_option maxRecDepth 65536 in
theorem w_c11 : (Jvm.Cond.code ({ cls := "java/lang/Long", name := "compareUnsigned", desc := "(JJ)I" } : Jvm.MethodName) jdk_35_method_43_code (4 : Nat) (Option.some Jvm.ClassFile.FieldType.int)).before args0 about1 = true := code_word (m := ⟨11, 1⟩) (meth := k11m1) (c := k11c1) (by decide +kernel) rfl rfl rfl (by decide +kernel)
set_option maxRecDepth 65536 in
theorem w_c12 : (Jvm.Cond.code ({ cls := "java/lang/Long", name := "compare", desc := "(JJ)I" } : Jvm.MethodName) jdk_35_method_42_code (4 : Nat) (Option.some Jvm.ClassFile.FieldType.int)).before args0 about1 = true := code_word (m := ⟨11, 0⟩) (meth := k11m0) (c := k11c0) (by decide +kernel) rfl rfl rfl (by decide +kernel)
set_option maxRecDepth 65536 in
theorem w_c13 : (Jvm.Cond.code ({ cls := "java/lang/Long", name := "remainderUnsigned", desc := "(JJ)J" } : Jvm.MethodName) jdk_35_method_45_code (8 : Nat) (Option.some Jvm.ClassFile.FieldType.long)).before args0 about1 = true := code_word (m := ⟨11, 2⟩) (meth := k11m2) (c := k11c2) (by decide +kernel) rfl rfl rfl (by decide +kernel)
set_option maxRecDepth 65536 in
theorem w_c14 : (Jvm.Cond.code ({ cls := "com/example/loomsand/loomsand/ParentRows", name := "<init>", desc := "(JJJJ)V" } : Jvm.MethodName) prog_28_method_1_code (13 : Nat) (Option.none : Option Jvm.ClassFile.FieldType)).before args0 about1 = true := code_word (m := ⟨12, 0⟩) (meth := k12m0) (c := k12c0) (by decide +kernel) rfl rfl rfl (by decide +kernel)
set_option maxRecDepth 65536 in
theorem w_c15 : (Jvm.Cond.code ({ cls := "com/example/loomsand/loomsand/ParentRows", name := "count", desc := "(J)J" } : Jvm.MethodName) prog_28_method_6_code (3 : Nat) (Option.some Jvm.ClassFile.FieldType.long)).before args0 about1 = true := code_word (m := ⟨12, 2⟩) (meth := k12m2) (c := k12c2) (by decide +kernel) rfl rfl rfl (by decide +kernel)
set_option maxRecDepth 65536 in
theorem w_c16 : (Jvm.Cond.code ({ cls := "com/example/loomsand/loomsand/ParentRows", name := "total", desc := "()J" } : Jvm.MethodName) prog_28_method_4_code (1 : Nat) (Option.some Jvm.ClassFile.FieldType.long)).before args0 about1 = true := code_word (m := ⟨12, 1⟩) (meth := k12m1) (c := k12c1) (by decide +kernel) rfl rfl rfl (by decide +kernel)
def codes1 : List Jvm.Cond := [Jvm.Cond.code x code maxLocals ret, Jvm.Cond.code ({ cls := "java/lang/Math", name := "min", desc := "(JJ)J" } : Jvm.MethodName) jdk_29_method_70_code (4 : Nat) (Option.some Jvm.ClassFile.FieldType.long), Jvm.Cond.code ({ cls := "java/lang/Math", name := "max", desc := "(JJ)J" } : Jvm.MethodName) jdk_29_method_66_code (4 : Nat) (Option.some Jvm.ClassFile.FieldType.long), Jvm.Cond.code ({ cls := "com/example/loomsand/loomsand/Draws", name := "<init>", desc := "()V" } : Jvm.MethodName) prog_16_method_1_code (1 : Nat) (Option.none : Option Jvm.ClassFile.FieldType), Jvm.Cond.code ({ cls := "java/lang/Object", name := "<init>", desc := "()V" } : Jvm.MethodName) object_method_1_code (1 : Nat) (Option.none : Option Jvm.ClassFile.FieldType), Jvm.Cond.code ({ cls := "com/example/loomsand/loomsand/Feistel", name := "<init>", desc := "(Lcom/example/loomsand/loomsand/Feistel$Round;)V" } : Jvm.MethodName) prog_17_method_1_code (2 : Nat) (Option.none : Option Jvm.ClassFile.FieldType), Jvm.Cond.code ({ cls := "com/example/loomsand/loomsand/ParentRowsTotalPinLaw", name := "count", desc := "(Lcom/example/loomsand/loomsand/Draws;JJJJ)J" } : Jvm.MethodName) method_2_code (9 : Nat) (Option.some Jvm.ClassFile.FieldType.long), Jvm.Cond.code ({ cls := "com/example/loomsand/loomsand/Draws", name := "start", desc := "(JJ)V" } : Jvm.MethodName) prog_16_method_3_code (5 : Nat) (Option.none : Option Jvm.ClassFile.FieldType), Jvm.Cond.code ({ cls := "com/example/loomsand/loomsand/Draws", name := "mix", desc := "(J)J" } : Jvm.MethodName) prog_16_method_14_code (2 : Nat) (Option.some Jvm.ClassFile.FieldType.long), Jvm.Cond.code ({ cls := "com/example/loomsand/loomsand/Draws", name := "between", desc := "(JJ)J" } : Jvm.MethodName) prog_16_method_5_code (11 : Nat) (Option.some Jvm.ClassFile.FieldType.long), Jvm.Cond.code ({ cls := "com/example/loomsand/loomsand/Draws", name := "next", desc := "()J" } : Jvm.MethodName) prog_16_method_4_code (1 : Nat) (Option.some Jvm.ClassFile.FieldType.long), Jvm.Cond.code ({ cls := "java/lang/Long", name := "compareUnsigned", desc := "(JJ)I" } : Jvm.MethodName) jdk_35_method_43_code (4 : Nat) (Option.some Jvm.ClassFile.FieldType.int), Jvm.Cond.code ({ cls := "java/lang/Long", name := "compare", desc := "(JJ)I" } : Jvm.MethodName) jdk_35_method_42_code (4 : Nat) (Option.some Jvm.ClassFile.FieldType.int), Jvm.Cond.code ({ cls := "java/lang/Long", name := "remainderUnsigned", desc := "(JJ)J" } : Jvm.MethodName) jdk_35_method_45_code (8 : Nat) (Option.some Jvm.ClassFile.FieldType.long), Jvm.Cond.code ({ cls := "com/example/loomsand/loomsand/ParentRows", name := "<init>", desc := "(JJJJ)V" } : Jvm.MethodName) prog_28_method_1_code (13 : Nat) (Option.none : Option Jvm.ClassFile.FieldType), Jvm.Cond.code ({ cls := "com/example/loomsand/loomsand/ParentRows", name := "count", desc := "(J)J" } : Jvm.MethodName) prog_28_method_6_code (3 : Nat) (Option.some Jvm.ClassFile.FieldType.long), Jvm.Cond.code ({ cls := "com/example/loomsand/loomsand/ParentRows", name := "total", desc := "()J" } : Jvm.MethodName) prog_28_method_4_code (1 : Nat) (Option.some Jvm.ClassFile.FieldType.long)]
set_option maxRecDepth 65536 in
theorem codes_eq : words1.filter isCode = codes1 := rfl
theorem w_codes : ∀ c ∈ words1.filter isCode, c.before args0 about1 = true := by
  rw [codes_eq]
  intro c hc
  simp only [codes1, List.mem_cons, List.not_mem_nil, or_false] at hc
  rcases hc with rfl | rfl | rfl | rfl | rfl | rfl | rfl | rfl | rfl | rfl | rfl | rfl | rfl | rfl | rfl | rfl | rfl
  · exact w_c0
  · exact w_c1
  · exact w_c2
  · exact w_c3
  · exact w_c4
  · exact w_c5
  · exact w_c6
  · exact w_c7
  · exact w_c8
  · exact w_c9
  · exact w_c10
  · exact w_c11
  · exact w_c12
  · exact w_c13
  · exact w_c14
  · exact w_c15
  · exact w_c16
set_option maxRecDepth 65536 in
theorem w_t1 : (words1.take 24).all (fun c => isCode c || c.before args0 about1) = true := by decide +kernel
set_option maxRecDepth 65536 in
theorem w_t2 : ((words1.drop 24).take 24).all (fun c => isCode c || c.before args0 about1) = true := by decide +kernel
set_option maxRecDepth 65536 in
theorem w_t3 : (((words1.drop 24).drop 24).take 24).all (fun c => isCode c || c.before args0 about1) = true := by decide +kernel
set_option maxRecDepth 65536 in
theorem w_t4 : ((((words1.drop 24).drop 24).drop 24).take 24).all (fun c => isCode c || c.before args0 about1) = true := by decide +kernel
set_option maxRecDepth 65536 in
theorem w_t5 : ((((words1.drop 24).drop 24).drop 24).drop 24).all (fun c => isCode c || c.before args0 about1) = true := by decide +kernel
theorem w_tables : (allAtoms (Jvm.Cond.code x code maxLocals ret :: tables_1)).before args0 about1 = true := by
  rw [allAtoms_all]
  show words1.all (fun c => c.before args0 about1) = true
  refine all_split ?_ w_codes
  rw [← List.take_append_drop 24 words1, List.all_append, w_t1, ← List.take_append_drop 24 (words1.drop 24), List.all_append, w_t2, ← List.take_append_drop 24 ((words1.drop 24).drop 24), List.all_append, w_t3, ← List.take_append_drop 24 (((words1.drop 24).drop 24).drop 24), List.all_append, w_t4, w_t5]
  rfl
set_option maxRecDepth 65536 in
theorem w_case : (Jvm.Cond.and given_1 narrow_1).before args0 about1 = true := by decide +kernel
theorem w_applies : (headSpec (Jvm.Cond.code x code maxLocals ret :: tables_1) room_1).applies x e0.platform about1 = true :=
  (Spec.applies_iff w_frames).mpr ⟨w_running, w_runnable, w_alone, w_named, w_hears, w_ripe, w_room, w_tables⟩
theorem atStart : AtStart classFile x code maxLocals ret World_1 tables_1 room_1 Calls_1 rest_1 Pre_1 launch0 p0 e0 about1 theMethod args0 below0 :=
  ⟨lists_1, trivial, launch0.admits_env _ _ _, launch0.least_env, fairChoices_fair.cas, fairChoices_fair.clock, w_frames, w_args, w_heap, w_applies, trivial, trivial, w_case⟩
end start1
theorem witness_1 : WitnessClaimed_1 := ⟨start1.p0, start1.e0, start1.about1, start1.theMethod, start1.args0, start1.below0, start1.atStart⟩
end Jvm.Pilot.@@N@@
