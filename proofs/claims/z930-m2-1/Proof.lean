import JvmDerived
import JvmDerived.Pilot.@@N@@Statement
import JvmDerived.Pilot.@@N@@Code
set_option linter.unusedVariables false
set_option linter.unusedSimpArgs false
namespace Jvm.RoadKit
open Sem ClassFile Op Lib Jvm.Stand Jvm.Free Jvm.LawKit
section New
variable {p : Program} {l : Launch} {e : Env} {R : Room} {s : State} {m : MethodId} {args : Array Value} {below : List Frame} {meth : Method} {c : Code} {T : State} {locs : List Loc} {cells slots : Nat}
theorem retI (X : Stand p l e R s m args below meth c T locs cells slots) (hx : p.tables.exec = Jvm.exec) {pc : Nat} {Ls : Array Slot} {z : Int32} {rest : List Value} (hret : meth.sig.returnType = some .int) (hd : decode c.code pc = .ok (.ireturn, 1)) {fs : List Frame}
    (hl : ∀ (f : JFrame) (acts : List Action), f.method = m → f.locked = none → f.entered = [] → (doReturn e (T.setTop f) acts (some (.int z))).1 = T.setFrames fs) : Steps p.tables e below (T.setTop (mkF m pc Ls (.int z :: rest))) (T.setFrames fs) := by
  have hm' : T.vm.method? m = some meth := X.method'
  have hn : narrow .int (.int z) = .int z := rfl
  show Steps p.tables e below (T.setTop { method := m, pc := pc, locals := Ls, stack := _ :: rest, locked := none }) _
  jvm_step X.here [X.here.top, hx, hd, hm', hret, hn]
  first | (intro acts; rw [hl _ acts rfl rfl rfl]) | rw [hl _ _ rfl rfl rfl]
  exact Steps.refl _
end New
end Jvm.RoadKit
namespace Jvm.Pilot.@@N@@
open Jvm Jvm.ClassFile Sem Op Lib Jvm.Free Jvm.Stand Jvm.LawKit Jvm.RoadKit Bundle Jvm.Pilot.@@N@@.Jvm.D
section Own
variable {p : Program} {l : Launch} {e : Env} {R : Room} {s : State} {m : MethodId} {args : Array Value} {below : List Frame} {meth : Method} {c : Code} {T : State} {locs : List Loc} {cells slots : Nat}
/-- from the state G the run comes to an end with an outcome of which Φ holds -/
def own_Gs (p : Program) (e : Env) (below : List Frame) (Φ : Outcome → State → Prop) (G : State) : Prop :=
  ∃ (t : State) (o : Outcome), Steps p.tables e below G t ∧ t.status = .running ∧ Ended t below o ∧ Φ o t
theorem own_st {Φ : Outcome → State → Prop} {G G' : State} (k : ∀ t, Steps p.tables e below G' t → Steps p.tables e below G t) (h : own_Gs p e below Φ G') : own_Gs p e below Φ G := by
  obtain ⟨a, b, h1, h2⟩ := h
  exact ⟨a, b, k _ h1, h2⟩
/-- the list of what was written, with its name alone: long nested lists cost Lean dearly -/
theorem own_hide {n0 : Nat} (X : Stand p l e R s m args below meth c T locs cells slots) (N : Fr n0 locs) : ∃ L, Stand p l e R s m args below meth c T L cells slots ∧ Fr n0 L := ⟨locs, X, N⟩
theorem own_in {Φ : Outcome → State → Prop} {g g' : JFrame} (q : g = g') (h : own_Gs p e below Φ (T.setTop g')) : ∃ (t : State) (o : Outcome), Steps p.tables e below (T.setTop g) t ∧ t.status = .running ∧ Ended t below o ∧ Φ o t := by
  subst q; exact h
theorem own_ret (X : Stand p l e R s m args below meth c T locs cells slots) {v : Option Value} (hv : meth.sig.returnType = none → v = none) (hlk : meth.locks = false) {G : State}
    (k : ∀ fs, (∀ (f : JFrame) (acts : List Action), f.method = m → f.locked = none → f.entered = [] → (doReturn e (T.setTop f) acts v).1 = T.setFrames fs) → Steps p.tables e below G (T.setFrames fs))
    {Q : Option Value → Heap → List Loc → Prop} {h : Heap} (eT : T.heap = h) (hQ : Q v h locs) {cc ss : Nat} (hc : cells ≤ cc) (hs : slots ≤ ss) :
    own_Gs p e below (fun o t => ∃ v L, o = .returned v ∧ Q v t.heap L ∧ FrameEnd s o t L cc ss) G := by
  obtain ⟨fs, hr, hrun, hended, hW, hsame⟩ := X.leave (v := v) hv hlk
  subst eT
  exact ⟨_, _, k fs hr, hrun, hended, _, _, rfl, hQ, ⟨_, rfl⟩, hW, hsame.mono hc hs⟩
theorem own_retI (X : Stand p l e R s m args below meth c T locs cells slots) (hx : p.tables.exec = Jvm.exec) {pc : Nat} {Ls : Array Slot} {z : Int32} {rest : List Value} (hret : meth.sig.returnType = some .int) (hd : decode c.code pc = .ok (.ireturn, 1)) (hlk : meth.locks = false)
    {Q : Option Value → Heap → List Loc → Prop} {h : Heap} (eT : T.heap = h) (hQ : Q (some (.int z)) h locs) {cc ss : Nat} (hc : cells ≤ cc) (hs : slots ≤ ss) :
    own_Gs p e below (fun o t => ∃ v L, o = .returned v ∧ Q v t.heap L ∧ FrameEnd s o t L cc ss) (T.setTop (mkF m pc Ls (.int z :: rest))) :=
  own_ret X (fun h => by rw [hret] at h; cases h) hlk (fun fs hr => retI X hx hret hd hr) eT hQ hc hs
theorem own_retN (X : Stand p l e R s m args below meth c T locs cells slots) (hx : p.tables.exec = Jvm.exec) {pc : Nat} {Ls : Array Slot} {z : Int32} {t : FieldType} {rest : List Value} (hret : meth.sig.returnType = some t) (ht : t = .boolean ∨ t = .byte ∨ t = .char ∨ t = .short) (hd : decode c.code pc = .ok (.ireturn, 1)) (hlk : meth.locks = false)
    {Q : Option Value → Heap → List Loc → Prop} {h : Heap} (eT : T.heap = h) (hQ : Q (some (.int (nar t z))) h locs) {cc ss : Nat} (hc : cells ≤ cc) (hs : slots ≤ ss) :
    own_Gs p e below (fun o t => ∃ v L, o = .returned v ∧ Q v t.heap L ∧ FrameEnd s o t L cc ss) (T.setTop (mkF m pc Ls (.int z :: rest))) :=
  own_ret X (fun h => by rw [hret] at h; cases h) hlk (fun fs hr => retN X hx hret ht hd hr) eT hQ hc hs
theorem own_retL (X : Stand p l e R s m args below meth c T locs cells slots) (hx : p.tables.exec = Jvm.exec) {pc : Nat} {Ls : Array Slot} {z : Int64} {rest : List Value} (hret : meth.sig.returnType = some .long) (hd : decode c.code pc = .ok (.lreturn, 1)) (hlk : meth.locks = false)
    {Q : Option Value → Heap → List Loc → Prop} {h : Heap} (eT : T.heap = h) (hQ : Q (some (.long z)) h locs) {cc ss : Nat} (hc : cells ≤ cc) (hs : slots ≤ ss) :
    own_Gs p e below (fun o t => ∃ v L, o = .returned v ∧ Q v t.heap L ∧ FrameEnd s o t L cc ss) (T.setTop (mkF m pc Ls (.long z :: rest))) :=
  own_ret X (fun h => by rw [hret] at h; cases h) hlk (fun fs hr => retOut X hx hret rfl (Or.inr (Or.inl ⟨rfl, rfl, z, rfl⟩)) hd hr) eT hQ hc hs
theorem own_retD (X : Stand p l e R s m args below meth c T locs cells slots) (hx : p.tables.exec = Jvm.exec) {pc : Nat} {Ls : Array Slot} {z : UInt64} {rest : List Value} (hret : meth.sig.returnType = some .double) (hd : decode c.code pc = .ok (.dreturn, 1)) (hlk : meth.locks = false)
    {Q : Option Value → Heap → List Loc → Prop} {h : Heap} (eT : T.heap = h) (hQ : Q (some (.double z)) h locs) {cc ss : Nat} (hc : cells ≤ cc) (hs : slots ≤ ss) :
    own_Gs p e below (fun o t => ∃ v L, o = .returned v ∧ Q v t.heap L ∧ FrameEnd s o t L cc ss) (T.setTop (mkF m pc Ls (.double z :: rest))) :=
  own_ret X (fun h => by rw [hret] at h; cases h) hlk (fun fs hr => retOut X hx hret rfl (Or.inr (Or.inr (Or.inl ⟨rfl, rfl, z, rfl⟩))) hd hr) eT hQ hc hs
theorem own_retA (X : Stand p l e R s m args below meth c T locs cells slots) (hx : p.tables.exec = Jvm.exec) {pc : Nat} {Ls : Array Slot} {z : Value} {t : FieldType} {rest : List Value} (hret : meth.sig.returnType = some t) (ht : t.isReference = true) (hz : z.isRef = true) (hd : decode c.code pc = .ok (.areturn, 1)) (hlk : meth.locks = false)
    {Q : Option Value → Heap → List Loc → Prop} {h : Heap} (eT : T.heap = h) (hQ : Q (some z) h locs) {cc ss : Nat} (hc : cells ≤ cc) (hs : slots ≤ ss) :
    own_Gs p e below (fun o t => ∃ v L, o = .returned v ∧ Q v t.heap L ∧ FrameEnd s o t L cc ss) (T.setTop (mkF m pc Ls (z :: rest))) :=
  own_ret X (fun h => by rw [hret] at h; cases h) hlk (fun fs hr => retOut X hx hret (by cases t <;> first | rfl | (cases z <;> first | rfl | (simp [Value.isRef] at hz) | (simp [FieldType.isReference] at ht))) (Or.inr (Or.inr (Or.inr (Or.inr ⟨rfl, ht, hz⟩)))) hd hr) eT hQ hc hs
theorem own_retV (X : Stand p l e R s m args below meth c T locs cells slots) (hx : p.tables.exec = Jvm.exec) {pc : Nat} {Ls : Array Slot} (hret : meth.sig.returnType = none) (hd : decode c.code pc = .ok (.return_, 1)) (hlk : meth.locks = false)
    {Q : Option Value → Heap → List Loc → Prop} {h : Heap} (eT : T.heap = h) (hQ : Q none h locs) {cc ss : Nat} (hc : cells ≤ cc) (hs : slots ≤ ss) :
    own_Gs p e below (fun o t => ∃ v L, o = .returned v ∧ Q v t.heap L ∧ FrameEnd s o t L cc ss) (T.setTop (mkF m pc Ls [])) :=
  own_ret X (fun _ => rfl) hlk (fun fs hr => X.returnOut hx hret hd hr) eT hQ hc hs
theorem own_retNW {vm0 : Vm} {k0 : Nat} (X : Stand p l e R (s.setVm vm0) m args below meth c T locs cells slots) (hS : s.Since vm0 k0) {h : Heap} (hk : k0 ≤ h.size) (hx : p.tables.exec = Jvm.exec) {pc : Nat} {Ls : Array Slot} {z : Int32} {t : FieldType} {rest : List Value} (hret : meth.sig.returnType = some t) (ht : t = .boolean ∨ t = .byte ∨ t = .char ∨ t = .short) (hd : decode c.code pc = .ok (.ireturn, 1)) (hlk : meth.locks = false)
    {Q : Option Value → Heap → List Loc → Prop} (eT : T.heap = h) (hQ : Q (some (.int (nar t z))) h locs) {cc ss : Nat} (hc : cells ≤ cc) (hs : slots ≤ ss) :
    own_Gs p e below (fun o t => ∃ v L, o = .returned v ∧ Q v t.heap L ∧ ReturnedEndW s o t L cc ss) (T.setTop (mkF m pc Ls (.int z :: rest))) := by
  subst eT
  obtain ⟨fs, hr, hrun, hended, h1, h2, h3, h4⟩ := X.leaveW hS hk (v := some (.int (nar t z))) (fun h => by rw [hret] at h; cases h) hlk
  exact ⟨_, _, retN X hx hret ht hd hr, hrun, hended, _, _, rfl, hQ, h1, h2, h3, h4.mono hc hs⟩
-- steps
theorem own_iloadN {Φ : Outcome → State → Prop} (X : Stand p l e R s m args below meth c T locs cells slots) (hx : p.tables.exec = Jvm.exec) {pc : Nat} (pc' : Nat) {Ls : Array Slot} {S : List Value} {k : Fin 4} {v : Int32} (hd : decode c.code pc = .ok (.iload_n k, 1)) (hl : Ls[k.val]? = some (.val (.int v))) (h : own_Gs p e below Φ (T.setTop (mkF m pc' Ls (.int v :: S)))) (hp : pc + 1 = pc' := by rfl) : own_Gs p e below Φ (T.setTop (mkF m pc Ls (S))) := by
  subst hp; exact own_st (fun t k => XS.iloadN X.here hx rfl hd hl k) h
theorem own_iload {Φ : Outcome → State → Prop} (X : Stand p l e R s m args below meth c T locs cells slots) (hx : p.tables.exec = Jvm.exec) {pc : Nat} (pc' : Nat) {Ls : Array Slot} {S : List Value} {k : Nat} {v : Int32} (hd : decode c.code pc = .ok (.iload k, 2)) (hl : Ls[k]? = some (.val (.int v))) (h : own_Gs p e below Φ (T.setTop (mkF m pc' Ls (.int v :: S)))) (hp : pc + 2 = pc' := by rfl) : own_Gs p e below Φ (T.setTop (mkF m pc Ls (S))) := by
  subst hp; exact own_st (fun t k => XS.iload X.here hx rfl hd hl k) h
theorem own_lloadN {Φ : Outcome → State → Prop} (X : Stand p l e R s m args below meth c T locs cells slots) (hx : p.tables.exec = Jvm.exec) {pc : Nat} (pc' : Nat) {Ls : Array Slot} {S : List Value} {k : Fin 4} {v : Int64} (hd : decode c.code pc = .ok (.lload_n k, 1)) (hl : Ls[k.val]? = some (.val (.long v))) (h : own_Gs p e below Φ (T.setTop (mkF m pc' Ls (.long v :: S)))) (hp : pc + 1 = pc' := by rfl) : own_Gs p e below Φ (T.setTop (mkF m pc Ls (S))) := by
  subst hp; exact own_st (fun t k => XS.lloadN X.here hx rfl hd hl k) h
theorem own_lload {Φ : Outcome → State → Prop} (X : Stand p l e R s m args below meth c T locs cells slots) (hx : p.tables.exec = Jvm.exec) {pc : Nat} (pc' : Nat) {Ls : Array Slot} {S : List Value} {k : Nat} {v : Int64} (hd : decode c.code pc = .ok (.lload k, 2)) (hl : Ls[k]? = some (.val (.long v))) (h : own_Gs p e below Φ (T.setTop (mkF m pc' Ls (.long v :: S)))) (hp : pc + 2 = pc' := by rfl) : own_Gs p e below Φ (T.setTop (mkF m pc Ls (S))) := by
  subst hp; exact own_st (fun t k => XS.lload X.here hx rfl hd hl k) h
theorem own_aloadN {Φ : Outcome → State → Prop} (X : Stand p l e R s m args below meth c T locs cells slots) (hx : p.tables.exec = Jvm.exec) {pc : Nat} (pc' : Nat) {Ls : Array Slot} {S : List Value} {k : Fin 4} {v : Value} (hd : decode c.code pc = .ok (.aload_n k, 1)) (hl : Ls[k.val]? = some (.val v)) (hv : v.isRef = true) (h : own_Gs p e below Φ (T.setTop (mkF m pc' Ls (v :: S)))) (hp : pc + 1 = pc' := by rfl) : own_Gs p e below Φ (T.setTop (mkF m pc Ls (S))) := by
  subst hp; exact own_st (fun t k => XS.aloadN X.here hx rfl hd hl hv k) h
theorem own_aload {Φ : Outcome → State → Prop} (X : Stand p l e R s m args below meth c T locs cells slots) (hx : p.tables.exec = Jvm.exec) {pc : Nat} (pc' : Nat) {Ls : Array Slot} {S : List Value} {k : Nat} {v : Value} (hd : decode c.code pc = .ok (.aload k, 2)) (hl : Ls[k]? = some (.val v)) (hv : v.isRef = true) (h : own_Gs p e below Φ (T.setTop (mkF m pc' Ls (v :: S)))) (hp : pc + 2 = pc' := by rfl) : own_Gs p e below Φ (T.setTop (mkF m pc Ls (S))) := by
  subst hp; exact own_st (fun t k => XS.aload X.here hx rfl hd hl hv k) h
theorem own_istoreN {Φ : Outcome → State → Prop} (X : Stand p l e R s m args below meth c T locs cells slots) (hx : p.tables.exec = Jvm.exec) {pc : Nat} (pc' : Nat) {Ls : Array Slot} {S : List Value} {k : Fin 4} {v : Int32} (l' : Array Slot) (hd : decode c.code pc = .ok (.istore_n k, 1)) (hl : storeLocals Ls k.val (.int v) = some l') (h : own_Gs p e below Φ (T.setTop (mkF m pc' l' (S)))) (hp : pc + 1 = pc' := by rfl) : own_Gs p e below Φ (T.setTop (mkF m pc Ls (.int v :: S))) := by
  subst hp; exact own_st (fun t k => XS.istoreN X.here hx rfl hd rfl hl k) h
theorem own_istore {Φ : Outcome → State → Prop} (X : Stand p l e R s m args below meth c T locs cells slots) (hx : p.tables.exec = Jvm.exec) {pc : Nat} (pc' : Nat) {Ls : Array Slot} {S : List Value} {k : Nat} {v : Int32} (l' : Array Slot) (hd : decode c.code pc = .ok (.istore k, 2)) (hl : storeLocals Ls k (.int v) = some l') (h : own_Gs p e below Φ (T.setTop (mkF m pc' l' (S)))) (hp : pc + 2 = pc' := by rfl) : own_Gs p e below Φ (T.setTop (mkF m pc Ls (.int v :: S))) := by
  subst hp; exact own_st (fun t k => XS.istore X.here hx rfl hd rfl hl k) h
theorem own_lstoreN {Φ : Outcome → State → Prop} (X : Stand p l e R s m args below meth c T locs cells slots) (hx : p.tables.exec = Jvm.exec) {pc : Nat} (pc' : Nat) {Ls : Array Slot} {S : List Value} {k : Fin 4} {v : Int64} (l' : Array Slot) (hd : decode c.code pc = .ok (.lstore_n k, 1)) (hl : storeLocals Ls k.val (.long v) = some l') (h : own_Gs p e below Φ (T.setTop (mkF m pc' l' (S)))) (hp : pc + 1 = pc' := by rfl) : own_Gs p e below Φ (T.setTop (mkF m pc Ls (.long v :: S))) := by
  subst hp; exact own_st (fun t k => XS.lstoreN X.here hx rfl hd rfl hl k) h
theorem own_lstore {Φ : Outcome → State → Prop} (X : Stand p l e R s m args below meth c T locs cells slots) (hx : p.tables.exec = Jvm.exec) {pc : Nat} (pc' : Nat) {Ls : Array Slot} {S : List Value} {k : Nat} {v : Int64} (l' : Array Slot) (hd : decode c.code pc = .ok (.lstore k, 2)) (hl : storeLocals Ls k (.long v) = some l') (h : own_Gs p e below Φ (T.setTop (mkF m pc' l' (S)))) (hp : pc + 2 = pc' := by rfl) : own_Gs p e below Φ (T.setTop (mkF m pc Ls (.long v :: S))) := by
  subst hp; exact own_st (fun t k => XS.lstore X.here hx rfl hd rfl hl k) h
theorem own_astoreN {Φ : Outcome → State → Prop} (X : Stand p l e R s m args below meth c T locs cells slots) (hx : p.tables.exec = Jvm.exec) {pc : Nat} (pc' : Nat) {Ls : Array Slot} {S : List Value} {k : Fin 4} {v : Value} (l' : Array Slot) (hd : decode c.code pc = .ok (.astore_n k, 1)) (hv : v.isRef = true) (hl : storeLocals Ls k.val v = some l') (h : own_Gs p e below Φ (T.setTop (mkF m pc' l' (S)))) (hp : pc + 1 = pc' := by rfl) : own_Gs p e below Φ (T.setTop (mkF m pc Ls (v :: S))) := by
  subst hp; exact own_st (fun t k => XS.astoreN X.here hx rfl hd rfl hv hl k) h
theorem own_astore {Φ : Outcome → State → Prop} (X : Stand p l e R s m args below meth c T locs cells slots) (hx : p.tables.exec = Jvm.exec) {pc : Nat} (pc' : Nat) {Ls : Array Slot} {S : List Value} {k : Nat} {v : Value} (l' : Array Slot) (hd : decode c.code pc = .ok (.astore k, 2)) (hv : v.isRef = true) (hl : storeLocals Ls k v = some l') (h : own_Gs p e below Φ (T.setTop (mkF m pc' l' (S)))) (hp : pc + 2 = pc' := by rfl) : own_Gs p e below Φ (T.setTop (mkF m pc Ls (v :: S))) := by
  subst hp; exact own_st (fun t k => XS.astore X.here hx rfl hd rfl hv hl k) h
theorem own_iconst {Φ : Outcome → State → Prop} (X : Stand p l e R s m args below meth c T locs cells slots) (hx : p.tables.exec = Jvm.exec) {pc : Nat} (pc' : Nat) {Ls : Array Slot} {S : List Value} {i : Int} (z : Int32) (hd : decode c.code pc = .ok (.iconst i, 1)) (hz : Int32.ofInt i = z) (h : own_Gs p e below Φ (T.setTop (mkF m pc' Ls (.int z :: S)))) (hp : pc + 1 = pc' := by rfl) : own_Gs p e below Φ (T.setTop (mkF m pc Ls (S))) := by
  subst hp; exact own_st (fun t k => XS.iconst X.here hx rfl hd (hz ▸ k)) h
theorem own_bipush {Φ : Outcome → State → Prop} (X : Stand p l e R s m args below meth c T locs cells slots) (hx : p.tables.exec = Jvm.exec) {pc : Nat} (pc' : Nat) {Ls : Array Slot} {S : List Value} {i : Int} (z : Int32) (hd : decode c.code pc = .ok (.bipush i, 2)) (hz : (Int8.ofInt i).toInt32 = z) (h : own_Gs p e below Φ (T.setTop (mkF m pc' Ls (.int z :: S)))) (hp : pc + 2 = pc' := by rfl) : own_Gs p e below Φ (T.setTop (mkF m pc Ls (S))) := by
  subst hp; exact own_st (fun t k => XS.bipush X.here hx rfl hd (hz ▸ k)) h
theorem own_sipush {Φ : Outcome → State → Prop} (X : Stand p l e R s m args below meth c T locs cells slots) (hx : p.tables.exec = Jvm.exec) {pc : Nat} (pc' : Nat) {Ls : Array Slot} {S : List Value} {i : Int} (z : Int32) (hd : decode c.code pc = .ok (.sipush i, 3)) (hz : (Int16.ofInt i).toInt32 = z) (h : own_Gs p e below Φ (T.setTop (mkF m pc' Ls (.int z :: S)))) (hp : pc + 3 = pc' := by rfl) : own_Gs p e below Φ (T.setTop (mkF m pc Ls (S))) := by
  subst hp; exact own_st (fun t k => XS.sipush X.here hx rfl hd (hz ▸ k)) h
theorem own_lconst {Φ : Outcome → State → Prop} (X : Stand p l e R s m args below meth c T locs cells slots) (hx : p.tables.exec = Jvm.exec) {pc : Nat} (pc' : Nat) {Ls : Array Slot} {S : List Value} {i : Fin 2} (z : Int64) (hd : decode c.code pc = .ok (.lconst i, 1)) (hz : Int64.ofNat i = z) (h : own_Gs p e below Φ (T.setTop (mkF m pc' Ls (.long z :: S)))) (hp : pc + 1 = pc' := by rfl) : own_Gs p e below Φ (T.setTop (mkF m pc Ls (S))) := by
  subst hp; exact own_st (fun t k => XS.lconst X.here hx rfl hd (hz ▸ k)) h
theorem own_aconstNull {Φ : Outcome → State → Prop} (X : Stand p l e R s m args below meth c T locs cells slots) (hx : p.tables.exec = Jvm.exec) {pc : Nat} (pc' : Nat) {Ls : Array Slot} {S : List Value}  (hd : decode c.code pc = .ok (.aconst_null, 1)) (h : own_Gs p e below Φ (T.setTop (mkF m pc' Ls (.null :: S)))) (hp : pc + 1 = pc' := by rfl) : own_Gs p e below Φ (T.setTop (mkF m pc Ls (S))) := by
  subst hp; exact own_st (fun t k => XS.aconstNull X.here hx rfl hd k) h
theorem own_iadd {Φ : Outcome → State → Prop} (X : Stand p l e R s m args below meth c T locs cells slots) (hx : p.tables.exec = Jvm.exec) {pc : Nat} (pc' : Nat) {Ls : Array Slot} {S : List Value} {x y : Int32} (hd : decode c.code pc = .ok (.iadd, 1)) (h : own_Gs p e below Φ (T.setTop (mkF m pc' Ls (.int (x + y) :: S)))) (hp : pc + 1 = pc' := by rfl) : own_Gs p e below Φ (T.setTop (mkF m pc Ls (.int y :: .int x :: S))) := by
  subst hp; exact own_st (fun t k => XS.iadd X.here hx rfl hd rfl k) h
theorem own_ladd {Φ : Outcome → State → Prop} (X : Stand p l e R s m args below meth c T locs cells slots) (hx : p.tables.exec = Jvm.exec) {pc : Nat} (pc' : Nat) {Ls : Array Slot} {S : List Value} {x y : Int64} (hd : decode c.code pc = .ok (.ladd, 1)) (h : own_Gs p e below Φ (T.setTop (mkF m pc' Ls (.long (x + y) :: S)))) (hp : pc + 1 = pc' := by rfl) : own_Gs p e below Φ (T.setTop (mkF m pc Ls (.long y :: .long x :: S))) := by
  subst hp; exact own_st (fun t k => XS.ladd X.here hx rfl hd rfl k) h
theorem own_isub {Φ : Outcome → State → Prop} (X : Stand p l e R s m args below meth c T locs cells slots) (hx : p.tables.exec = Jvm.exec) {pc : Nat} (pc' : Nat) {Ls : Array Slot} {S : List Value} {x y : Int32} (hd : decode c.code pc = .ok (.isub, 1)) (h : own_Gs p e below Φ (T.setTop (mkF m pc' Ls (.int (x - y) :: S)))) (hp : pc + 1 = pc' := by rfl) : own_Gs p e below Φ (T.setTop (mkF m pc Ls (.int y :: .int x :: S))) := by
  subst hp; exact own_st (fun t k => XS.isub X.here hx rfl hd rfl k) h
theorem own_lsub {Φ : Outcome → State → Prop} (X : Stand p l e R s m args below meth c T locs cells slots) (hx : p.tables.exec = Jvm.exec) {pc : Nat} (pc' : Nat) {Ls : Array Slot} {S : List Value} {x y : Int64} (hd : decode c.code pc = .ok (.lsub, 1)) (h : own_Gs p e below Φ (T.setTop (mkF m pc' Ls (.long (x - y) :: S)))) (hp : pc + 1 = pc' := by rfl) : own_Gs p e below Φ (T.setTop (mkF m pc Ls (.long y :: .long x :: S))) := by
  subst hp; exact own_st (fun t k => XS.lsub X.here hx rfl hd rfl k) h
theorem own_imul {Φ : Outcome → State → Prop} (X : Stand p l e R s m args below meth c T locs cells slots) (hx : p.tables.exec = Jvm.exec) {pc : Nat} (pc' : Nat) {Ls : Array Slot} {S : List Value} {x y : Int32} (hd : decode c.code pc = .ok (.imul, 1)) (h : own_Gs p e below Φ (T.setTop (mkF m pc' Ls (.int (x * y) :: S)))) (hp : pc + 1 = pc' := by rfl) : own_Gs p e below Φ (T.setTop (mkF m pc Ls (.int y :: .int x :: S))) := by
  subst hp; exact own_st (fun t k => XS.imul X.here hx rfl hd rfl k) h
theorem own_lmul {Φ : Outcome → State → Prop} (X : Stand p l e R s m args below meth c T locs cells slots) (hx : p.tables.exec = Jvm.exec) {pc : Nat} (pc' : Nat) {Ls : Array Slot} {S : List Value} {x y : Int64} (hd : decode c.code pc = .ok (.lmul, 1)) (h : own_Gs p e below Φ (T.setTop (mkF m pc' Ls (.long (x * y) :: S)))) (hp : pc + 1 = pc' := by rfl) : own_Gs p e below Φ (T.setTop (mkF m pc Ls (.long y :: .long x :: S))) := by
  subst hp; exact own_st (fun t k => XS.lmul X.here hx rfl hd rfl k) h
theorem own_iand {Φ : Outcome → State → Prop} (X : Stand p l e R s m args below meth c T locs cells slots) (hx : p.tables.exec = Jvm.exec) {pc : Nat} (pc' : Nat) {Ls : Array Slot} {S : List Value} {x y : Int32} (hd : decode c.code pc = .ok (.iand, 1)) (h : own_Gs p e below Φ (T.setTop (mkF m pc' Ls (.int (x &&& y) :: S)))) (hp : pc + 1 = pc' := by rfl) : own_Gs p e below Φ (T.setTop (mkF m pc Ls (.int y :: .int x :: S))) := by
  subst hp; exact own_st (fun t k => XS.iand X.here hx rfl hd rfl k) h
theorem own_land {Φ : Outcome → State → Prop} (X : Stand p l e R s m args below meth c T locs cells slots) (hx : p.tables.exec = Jvm.exec) {pc : Nat} (pc' : Nat) {Ls : Array Slot} {S : List Value} {x y : Int64} (hd : decode c.code pc = .ok (.land, 1)) (h : own_Gs p e below Φ (T.setTop (mkF m pc' Ls (.long (x &&& y) :: S)))) (hp : pc + 1 = pc' := by rfl) : own_Gs p e below Φ (T.setTop (mkF m pc Ls (.long y :: .long x :: S))) := by
  subst hp; exact own_st (fun t k => XS.land X.here hx rfl hd rfl k) h
theorem own_ior {Φ : Outcome → State → Prop} (X : Stand p l e R s m args below meth c T locs cells slots) (hx : p.tables.exec = Jvm.exec) {pc : Nat} (pc' : Nat) {Ls : Array Slot} {S : List Value} {x y : Int32} (hd : decode c.code pc = .ok (.ior, 1)) (h : own_Gs p e below Φ (T.setTop (mkF m pc' Ls (.int (x ||| y) :: S)))) (hp : pc + 1 = pc' := by rfl) : own_Gs p e below Φ (T.setTop (mkF m pc Ls (.int y :: .int x :: S))) := by
  subst hp; exact own_st (fun t k => XS.ior X.here hx rfl hd rfl k) h
theorem own_lor {Φ : Outcome → State → Prop} (X : Stand p l e R s m args below meth c T locs cells slots) (hx : p.tables.exec = Jvm.exec) {pc : Nat} (pc' : Nat) {Ls : Array Slot} {S : List Value} {x y : Int64} (hd : decode c.code pc = .ok (.lor, 1)) (h : own_Gs p e below Φ (T.setTop (mkF m pc' Ls (.long (x ||| y) :: S)))) (hp : pc + 1 = pc' := by rfl) : own_Gs p e below Φ (T.setTop (mkF m pc Ls (.long y :: .long x :: S))) := by
  subst hp; exact own_st (fun t k => XS.lor X.here hx rfl hd rfl k) h
theorem own_ixor {Φ : Outcome → State → Prop} (X : Stand p l e R s m args below meth c T locs cells slots) (hx : p.tables.exec = Jvm.exec) {pc : Nat} (pc' : Nat) {Ls : Array Slot} {S : List Value} {x y : Int32} (hd : decode c.code pc = .ok (.ixor, 1)) (h : own_Gs p e below Φ (T.setTop (mkF m pc' Ls (.int (x ^^^ y) :: S)))) (hp : pc + 1 = pc' := by rfl) : own_Gs p e below Φ (T.setTop (mkF m pc Ls (.int y :: .int x :: S))) := by
  subst hp; exact own_st (fun t k => XS.ixor X.here hx rfl hd rfl k) h
theorem own_lxor {Φ : Outcome → State → Prop} (X : Stand p l e R s m args below meth c T locs cells slots) (hx : p.tables.exec = Jvm.exec) {pc : Nat} (pc' : Nat) {Ls : Array Slot} {S : List Value} {x y : Int64} (hd : decode c.code pc = .ok (.lxor, 1)) (h : own_Gs p e below Φ (T.setTop (mkF m pc' Ls (.long (x ^^^ y) :: S)))) (hp : pc + 1 = pc' := by rfl) : own_Gs p e below Φ (T.setTop (mkF m pc Ls (.long y :: .long x :: S))) := by
  subst hp; exact own_st (fun t k => XS.lxor X.here hx rfl hd rfl k) h
theorem own_idiv {Φ : Outcome → State → Prop} (X : Stand p l e R s m args below meth c T locs cells slots) (hx : p.tables.exec = Jvm.exec) {pc : Nat} (pc' : Nat) {Ls : Array Slot} {S : List Value} {x y : Int32} (hd : decode c.code pc = .ok (.idiv, 1)) (hy : y ≠ 0) (h : own_Gs p e below Φ (T.setTop (mkF m pc' Ls (.int (x / y) :: S)))) (hp : pc + 1 = pc' := by rfl) : own_Gs p e below Φ (T.setTop (mkF m pc Ls (.int y :: .int x :: S))) := by
  subst hp; exact own_st (fun t k => XS.idiv X.here hx rfl hd rfl hy k) h
theorem own_ldiv {Φ : Outcome → State → Prop} (X : Stand p l e R s m args below meth c T locs cells slots) (hx : p.tables.exec = Jvm.exec) {pc : Nat} (pc' : Nat) {Ls : Array Slot} {S : List Value} {x y : Int64} (hd : decode c.code pc = .ok (.ldiv, 1)) (hy : y ≠ 0) (h : own_Gs p e below Φ (T.setTop (mkF m pc' Ls (.long (x / y) :: S)))) (hp : pc + 1 = pc' := by rfl) : own_Gs p e below Φ (T.setTop (mkF m pc Ls (.long y :: .long x :: S))) := by
  subst hp; exact own_st (fun t k => XS.ldiv X.here hx rfl hd rfl hy k) h
theorem own_irem {Φ : Outcome → State → Prop} (X : Stand p l e R s m args below meth c T locs cells slots) (hx : p.tables.exec = Jvm.exec) {pc : Nat} (pc' : Nat) {Ls : Array Slot} {S : List Value} {x y : Int32} (hd : decode c.code pc = .ok (.irem, 1)) (hy : y ≠ 0) (h : own_Gs p e below Φ (T.setTop (mkF m pc' Ls (.int (x % y) :: S)))) (hp : pc + 1 = pc' := by rfl) : own_Gs p e below Φ (T.setTop (mkF m pc Ls (.int y :: .int x :: S))) := by
  subst hp; exact own_st (fun t k => iremM X hx rfl hd rfl hy k) h
theorem own_lrem {Φ : Outcome → State → Prop} (X : Stand p l e R s m args below meth c T locs cells slots) (hx : p.tables.exec = Jvm.exec) {pc : Nat} (pc' : Nat) {Ls : Array Slot} {S : List Value} {x y : Int64} (hd : decode c.code pc = .ok (.lrem, 1)) (hy : y ≠ 0) (h : own_Gs p e below Φ (T.setTop (mkF m pc' Ls (.long (x % y) :: S)))) (hp : pc + 1 = pc' := by rfl) : own_Gs p e below Φ (T.setTop (mkF m pc Ls (.long y :: .long x :: S))) := by
  subst hp; exact own_st (fun t k => XS.lrem X.here hx rfl hd rfl hy (by rw [lrem_mod]; exact k)) h
theorem own_ishl {Φ : Outcome → State → Prop} (X : Stand p l e R s m args below meth c T locs cells slots) (hx : p.tables.exec = Jvm.exec) {pc : Nat} (pc' : Nat) {Ls : Array Slot} {S : List Value} {x y : Int32} (hd : decode c.code pc = .ok (.ishl, 1)) (h : own_Gs p e below Φ (T.setTop (mkF m pc' Ls (.int (x <<< (y &&& 31)) :: S)))) (hp : pc + 1 = pc' := by rfl) : own_Gs p e below Φ (T.setTop (mkF m pc Ls (.int y :: .int x :: S))) := by
  subst hp; exact own_st (fun t k => XS.ishl X.here hx rfl hd rfl k) h
theorem own_ishr {Φ : Outcome → State → Prop} (X : Stand p l e R s m args below meth c T locs cells slots) (hx : p.tables.exec = Jvm.exec) {pc : Nat} (pc' : Nat) {Ls : Array Slot} {S : List Value} {x y : Int32} (hd : decode c.code pc = .ok (.ishr, 1)) (h : own_Gs p e below Φ (T.setTop (mkF m pc' Ls (.int (x >>> (y &&& 31)) :: S)))) (hp : pc + 1 = pc' := by rfl) : own_Gs p e below Φ (T.setTop (mkF m pc Ls (.int y :: .int x :: S))) := by
  subst hp; exact own_st (fun t k => XS.ishr X.here hx rfl hd rfl k) h
theorem own_iushr {Φ : Outcome → State → Prop} (X : Stand p l e R s m args below meth c T locs cells slots) (hx : p.tables.exec = Jvm.exec) {pc : Nat} (pc' : Nat) {Ls : Array Slot} {S : List Value} {x y : Int32} (hd : decode c.code pc = .ok (.iushr, 1)) (h : own_Gs p e below Φ (T.setTop (mkF m pc' Ls (.int ((x.toUInt32 >>> (y &&& 31).toUInt32).toInt32) :: S)))) (hp : pc + 1 = pc' := by rfl) : own_Gs p e below Φ (T.setTop (mkF m pc Ls (.int y :: .int x :: S))) := by
  subst hp; exact own_st (fun t k => XS.iushr X.here hx rfl hd rfl k) h
theorem own_lshl {Φ : Outcome → State → Prop} (X : Stand p l e R s m args below meth c T locs cells slots) (hx : p.tables.exec = Jvm.exec) {pc : Nat} (pc' : Nat) {Ls : Array Slot} {S : List Value} {x : Int64} {y : Int32} (hd : decode c.code pc = .ok (.lshl, 1)) (h : own_Gs p e below Φ (T.setTop (mkF m pc' Ls (.long (x <<< (y &&& 0x3f).toInt64) :: S)))) (hp : pc + 1 = pc' := by rfl) : own_Gs p e below Φ (T.setTop (mkF m pc Ls (.int y :: .long x :: S))) := by
  subst hp; exact own_st (fun t k => XS.lshl X.here hx rfl hd rfl k) h
theorem own_lshr {Φ : Outcome → State → Prop} (X : Stand p l e R s m args below meth c T locs cells slots) (hx : p.tables.exec = Jvm.exec) {pc : Nat} (pc' : Nat) {Ls : Array Slot} {S : List Value} {x : Int64} {y : Int32} (hd : decode c.code pc = .ok (.lshr, 1)) (h : own_Gs p e below Φ (T.setTop (mkF m pc' Ls (.long (x >>> (y &&& 0x3f).toInt64) :: S)))) (hp : pc + 1 = pc' := by rfl) : own_Gs p e below Φ (T.setTop (mkF m pc Ls (.int y :: .long x :: S))) := by
  subst hp; exact own_st (fun t k => XS.lshr X.here hx rfl hd rfl k) h
theorem own_lushr {Φ : Outcome → State → Prop} (X : Stand p l e R s m args below meth c T locs cells slots) (hx : p.tables.exec = Jvm.exec) {pc : Nat} (pc' : Nat) {Ls : Array Slot} {S : List Value} {x : Int64} {y : Int32} (hd : decode c.code pc = .ok (.lushr, 1)) (h : own_Gs p e below Φ (T.setTop (mkF m pc' Ls (.long ((x.toUInt64 >>> (y &&& 0x3f).toInt64.toUInt64).toInt64) :: S)))) (hp : pc + 1 = pc' := by rfl) : own_Gs p e below Φ (T.setTop (mkF m pc Ls (.int y :: .long x :: S))) := by
  subst hp; exact own_st (fun t k => XS.lushr X.here hx rfl hd rfl k) h
theorem own_ineg {Φ : Outcome → State → Prop} (X : Stand p l e R s m args below meth c T locs cells slots) (hx : p.tables.exec = Jvm.exec) {pc : Nat} (pc' : Nat) {Ls : Array Slot} {S : List Value} {x : Int32} (hd : decode c.code pc = .ok (.ineg, 1)) (h : own_Gs p e below Φ (T.setTop (mkF m pc' Ls (.int (-x) :: S)))) (hp : pc + 1 = pc' := by rfl) : own_Gs p e below Φ (T.setTop (mkF m pc Ls (.int x :: S))) := by
  subst hp; exact own_st (fun t k => XS.ineg X.here hx rfl hd rfl k) h
theorem own_lneg {Φ : Outcome → State → Prop} (X : Stand p l e R s m args below meth c T locs cells slots) (hx : p.tables.exec = Jvm.exec) {pc : Nat} (pc' : Nat) {Ls : Array Slot} {S : List Value} {x : Int64} (hd : decode c.code pc = .ok (.lneg, 1)) (h : own_Gs p e below Φ (T.setTop (mkF m pc' Ls (.long (-x) :: S)))) (hp : pc + 1 = pc' := by rfl) : own_Gs p e below Φ (T.setTop (mkF m pc Ls (.long x :: S))) := by
  subst hp; exact own_st (fun t k => XS.lneg X.here hx rfl hd rfl k) h
theorem own_i2l {Φ : Outcome → State → Prop} (X : Stand p l e R s m args below meth c T locs cells slots) (hx : p.tables.exec = Jvm.exec) {pc : Nat} (pc' : Nat) {Ls : Array Slot} {S : List Value} {x : Int32} (hd : decode c.code pc = .ok (.i2l, 1)) (h : own_Gs p e below Φ (T.setTop (mkF m pc' Ls (.long (x.toInt64) :: S)))) (hp : pc + 1 = pc' := by rfl) : own_Gs p e below Φ (T.setTop (mkF m pc Ls (.int x :: S))) := by
  subst hp; exact own_st (fun t k => XS.i2l X.here hx rfl hd rfl k) h
theorem own_l2i {Φ : Outcome → State → Prop} (X : Stand p l e R s m args below meth c T locs cells slots) (hx : p.tables.exec = Jvm.exec) {pc : Nat} (pc' : Nat) {Ls : Array Slot} {S : List Value} {x : Int64} (hd : decode c.code pc = .ok (.l2i, 1)) (h : own_Gs p e below Φ (T.setTop (mkF m pc' Ls (.int (x.toInt32) :: S)))) (hp : pc + 1 = pc' := by rfl) : own_Gs p e below Φ (T.setTop (mkF m pc Ls (.long x :: S))) := by
  subst hp; exact own_st (fun t k => XS.l2i X.here hx rfl hd rfl k) h
theorem own_i2b {Φ : Outcome → State → Prop} (X : Stand p l e R s m args below meth c T locs cells slots) (hx : p.tables.exec = Jvm.exec) {pc : Nat} (pc' : Nat) {Ls : Array Slot} {S : List Value} {x : Int32} (hd : decode c.code pc = .ok (.i2b, 1)) (h : own_Gs p e below Φ (T.setTop (mkF m pc' Ls (.int (x.toInt8.toInt32) :: S)))) (hp : pc + 1 = pc' := by rfl) : own_Gs p e below Φ (T.setTop (mkF m pc Ls (.int x :: S))) := by
  subst hp; exact own_st (fun t k => XS.i2b X.here hx rfl hd rfl k) h
theorem own_i2s {Φ : Outcome → State → Prop} (X : Stand p l e R s m args below meth c T locs cells slots) (hx : p.tables.exec = Jvm.exec) {pc : Nat} (pc' : Nat) {Ls : Array Slot} {S : List Value} {x : Int32} (hd : decode c.code pc = .ok (.i2s, 1)) (h : own_Gs p e below Φ (T.setTop (mkF m pc' Ls (.int (x.toInt16.toInt32) :: S)))) (hp : pc + 1 = pc' := by rfl) : own_Gs p e below Φ (T.setTop (mkF m pc Ls (.int x :: S))) := by
  subst hp; exact own_st (fun t k => XS.i2s X.here hx rfl hd rfl k) h
theorem own_i2c {Φ : Outcome → State → Prop} (X : Stand p l e R s m args below meth c T locs cells slots) (hx : p.tables.exec = Jvm.exec) {pc : Nat} (pc' : Nat) {Ls : Array Slot} {S : List Value} {x : Int32} (hd : decode c.code pc = .ok (.i2c, 1)) (h : own_Gs p e below Φ (T.setTop (mkF m pc' Ls (.int (x.toUInt32.toUInt16.toUInt32.toInt32) :: S)))) (hp : pc + 1 = pc' := by rfl) : own_Gs p e below Φ (T.setTop (mkF m pc Ls (.int x :: S))) := by
  subst hp; exact own_st (fun t k => XS.i2c X.here hx rfl hd rfl k) h
theorem own_lcmp {Φ : Outcome → State → Prop} (X : Stand p l e R s m args below meth c T locs cells slots) (hx : p.tables.exec = Jvm.exec) {pc : Nat} (pc' : Nat) {Ls : Array Slot} {S : List Value} {x y : Int64} (hd : decode c.code pc = .ok (.lcmp, 1)) (h : own_Gs p e below Φ (T.setTop (mkF m pc' Ls (.int (lcmpW x y) :: S)))) (hp : pc + 1 = pc' := by rfl) : own_Gs p e below Φ (T.setTop (mkF m pc Ls (.long y :: .long x :: S))) := by
  subst hp; exact own_st (fun t k => XS.lcmp X.here hx rfl hd rfl k) h
theorem own_iinc {Φ : Outcome → State → Prop} (X : Stand p l e R s m args below meth c T locs cells slots) (hx : p.tables.exec = Jvm.exec) {pc : Nat} (pc' : Nat) {Ls : Array Slot} {S : List Value} {i : Nat} {cst : Int} {x : Int32} (z : Int32) (l' : Array Slot) (hd : decode c.code pc = .ok (.iinc i cst, 3)) (hl : Ls[i]? = some (.val (.int x))) (hz : Int32.ofInt cst = z) (hl' : storeLocals Ls i (.int (x + z)) = some l') (h : own_Gs p e below Φ (T.setTop (mkF m pc' l' (S)))) (hp : pc + 3 = pc' := by rfl) : own_Gs p e below Φ (T.setTop (mkF m pc Ls (S))) := by
  subst hp; exact own_st (fun t k => XS.iinc X.here hx rfl hd hl (hz ▸ hl') k) h
theorem own_dup {Φ : Outcome → State → Prop} (X : Stand p l e R s m args below meth c T locs cells slots) (hx : p.tables.exec = Jvm.exec) {pc : Nat} (pc' : Nat) {Ls : Array Slot} {S : List Value} {v : Value} (hd : decode c.code pc = .ok (.dup, 1)) (hc : v.category = 1) (h : own_Gs p e below Φ (T.setTop (mkF m pc' Ls (v :: v :: S)))) (hp : pc + 1 = pc' := by rfl) : own_Gs p e below Φ (T.setTop (mkF m pc Ls (v :: S))) := by
  subst hp; exact own_st (fun t k => XS.dup X.here hx rfl hd rfl hc k) h
theorem own_pop {Φ : Outcome → State → Prop} (X : Stand p l e R s m args below meth c T locs cells slots) (hx : p.tables.exec = Jvm.exec) {pc : Nat} (pc' : Nat) {Ls : Array Slot} {S : List Value} {v : Value} (hd : decode c.code pc = .ok (.pop, 1)) (hc : v.category = 1) (h : own_Gs p e below Φ (T.setTop (mkF m pc' Ls (S)))) (hp : pc + 1 = pc' := by rfl) : own_Gs p e below Φ (T.setTop (mkF m pc Ls (v :: S))) := by
  subst hp; exact own_st (fun t k => XS.pop X.here hx rfl hd rfl hc k) h
theorem own_dupX1 {Φ : Outcome → State → Prop} (X : Stand p l e R s m args below meth c T locs cells slots) (hx : p.tables.exec = Jvm.exec) {pc : Nat} (pc' : Nat) {Ls : Array Slot} {S : List Value} {v w : Value} (hd : decode c.code pc = .ok (.dup_x1, 1)) (hc : v.category = 1) (hc' : w.category = 1) (h : own_Gs p e below Φ (T.setTop (mkF m pc' Ls (v :: w :: v :: S)))) (hp : pc + 1 = pc' := by rfl) : own_Gs p e below Φ (T.setTop (mkF m pc Ls (v :: w :: S))) := by
  subst hp; exact own_st (fun t k => XS.dupX1 X.here hx rfl hd rfl hc hc' k) h
theorem own_dup2 {Φ : Outcome → State → Prop} (X : Stand p l e R s m args below meth c T locs cells slots) (hx : p.tables.exec = Jvm.exec) {pc : Nat} (pc' : Nat) {Ls : Array Slot} {S : List Value} {v w : Value} (hd : decode c.code pc = .ok (.dup2, 1)) (hc : v.category = 1) (hc' : w.category = 1) (h : own_Gs p e below Φ (T.setTop (mkF m pc' Ls (v :: w :: v :: w :: S)))) (hp : pc + 1 = pc' := by rfl) : own_Gs p e below Φ (T.setTop (mkF m pc Ls (v :: w :: S))) := by
  subst hp; exact own_st (fun t k => Jvm.Free.XT.dup2 X.here hx rfl hd rfl hc hc' k) h
theorem own_dup2L {Φ : Outcome → State → Prop} (X : Stand p l e R s m args below meth c T locs cells slots) (hx : p.tables.exec = Jvm.exec) {pc : Nat} (pc' : Nat) {Ls : Array Slot} {S : List Value} {x : Int64} (hd : decode c.code pc = .ok (.dup2, 1)) (h : own_Gs p e below Φ (T.setTop (mkF m pc' Ls (.long x :: .long x :: S)))) (hp : pc + 1 = pc' := by rfl) : own_Gs p e below Φ (T.setTop (mkF m pc Ls (.long x :: S))) := by
  subst hp; exact own_st (fun t k => Jvm.Free.XT.dup2L X.here hx rfl hd rfl k) h
theorem own_dloadN {Φ : Outcome → State → Prop} (X : Stand p l e R s m args below meth c T locs cells slots) (hx : p.tables.exec = Jvm.exec) {pc : Nat} (pc' : Nat) {Ls : Array Slot} {S : List Value} {k : Fin 4} {v : UInt64} (hd : decode c.code pc = .ok (.dload_n k, 1)) (hl : Ls[k.val]? = some (.val (.double v))) (h : own_Gs p e below Φ (T.setTop (mkF m pc' Ls (.double v :: S)))) (hp : pc + 1 = pc' := by rfl) : own_Gs p e below Φ (T.setTop (mkF m pc Ls (S))) := by
  subst hp; exact own_st (fun t k => XS.dloadN X.here hx rfl hd hl k) h
theorem own_dload {Φ : Outcome → State → Prop} (X : Stand p l e R s m args below meth c T locs cells slots) (hx : p.tables.exec = Jvm.exec) {pc : Nat} (pc' : Nat) {Ls : Array Slot} {S : List Value} {k : Nat} {v : UInt64} (hd : decode c.code pc = .ok (.dload k, 2)) (hl : Ls[k]? = some (.val (.double v))) (h : own_Gs p e below Φ (T.setTop (mkF m pc' Ls (.double v :: S)))) (hp : pc + 2 = pc' := by rfl) : own_Gs p e below Φ (T.setTop (mkF m pc Ls (S))) := by
  subst hp; exact own_st (fun t k => XS.dload X.here hx rfl hd hl k) h
theorem own_dstoreN {Φ : Outcome → State → Prop} (X : Stand p l e R s m args below meth c T locs cells slots) (hx : p.tables.exec = Jvm.exec) {pc : Nat} (pc' : Nat) {Ls : Array Slot} {S : List Value} {k : Fin 4} {v : UInt64} (l' : Array Slot) (hd : decode c.code pc = .ok (.dstore_n k, 1)) (hl : storeLocals Ls k.val (.double v) = some l') (h : own_Gs p e below Φ (T.setTop (mkF m pc' l' (S)))) (hp : pc + 1 = pc' := by rfl) : own_Gs p e below Φ (T.setTop (mkF m pc Ls (.double v :: S))) := by
  subst hp; exact own_st (fun t k => XS.dstoreN X.here hx rfl hd rfl hl k) h
theorem own_dstore {Φ : Outcome → State → Prop} (X : Stand p l e R s m args below meth c T locs cells slots) (hx : p.tables.exec = Jvm.exec) {pc : Nat} (pc' : Nat) {Ls : Array Slot} {S : List Value} {k : Nat} {v : UInt64} (l' : Array Slot) (hd : decode c.code pc = .ok (.dstore k, 2)) (hl : storeLocals Ls k (.double v) = some l') (h : own_Gs p e below Φ (T.setTop (mkF m pc' l' (S)))) (hp : pc + 2 = pc' := by rfl) : own_Gs p e below Φ (T.setTop (mkF m pc Ls (.double v :: S))) := by
  subst hp; exact own_st (fun t k => XS.dstore X.here hx rfl hd rfl hl k) h
theorem own_dconst0 {Φ : Outcome → State → Prop} (X : Stand p l e R s m args below meth c T locs cells slots) (hx : p.tables.exec = Jvm.exec) {pc : Nat} (pc' : Nat) {Ls : Array Slot} {S : List Value}  (hd : decode c.code pc = .ok (.dconst 0, 1)) (h : own_Gs p e below Φ (T.setTop (mkF m pc' Ls (.double FP.dconst0 :: S)))) (hp : pc + 1 = pc' := by rfl) : own_Gs p e below Φ (T.setTop (mkF m pc Ls (S))) := by
  subst hp; exact own_st (fun t k => XS.dconst0 X.here hx rfl hd rfl k) h
theorem own_dconst1 {Φ : Outcome → State → Prop} (X : Stand p l e R s m args below meth c T locs cells slots) (hx : p.tables.exec = Jvm.exec) {pc : Nat} (pc' : Nat) {Ls : Array Slot} {S : List Value}  (hd : decode c.code pc = .ok (.dconst 1, 1)) (h : own_Gs p e below Φ (T.setTop (mkF m pc' Ls (.double FP.dconst1 :: S)))) (hp : pc + 1 = pc' := by rfl) : own_Gs p e below Φ (T.setTop (mkF m pc Ls (S))) := by
  subst hp; exact own_st (fun t k => XS.dconst1 X.here hx rfl hd rfl k) h
theorem own_l2d {Φ : Outcome → State → Prop} (X : Stand p l e R s m args below meth c T locs cells slots) (hx : p.tables.exec = Jvm.exec) {pc : Nat} (pc' : Nat) {Ls : Array Slot} {S : List Value} {x : Int64} (hd : decode c.code pc = .ok (.l2d, 1)) (h : own_Gs p e below Φ (T.setTop (mkF m pc' Ls (.double (FP.l2d x) :: S)))) (hp : pc + 1 = pc' := by rfl) : own_Gs p e below Φ (T.setTop (mkF m pc Ls (.long x :: S))) := by
  subst hp; exact own_st (fun t k => XS.l2dS X.here hx rfl hd rfl rfl k) h
theorem own_i2d {Φ : Outcome → State → Prop} (X : Stand p l e R s m args below meth c T locs cells slots) (hx : p.tables.exec = Jvm.exec) {pc : Nat} (pc' : Nat) {Ls : Array Slot} {S : List Value} {x : Int32} (hd : decode c.code pc = .ok (.i2d, 1)) (h : own_Gs p e below Φ (T.setTop (mkF m pc' Ls (.double (FP.i2d x) :: S)))) (hp : pc + 1 = pc' := by rfl) : own_Gs p e below Φ (T.setTop (mkF m pc Ls (.int x :: S))) := by
  subst hp; exact own_st (fun t k => XS.i2dS X.here hx rfl hd rfl rfl k) h
theorem own_dneg {Φ : Outcome → State → Prop} (X : Stand p l e R s m args below meth c T locs cells slots) (hx : p.tables.exec = Jvm.exec) {pc : Nat} (pc' : Nat) {Ls : Array Slot} {S : List Value} {x : UInt64} (hd : decode c.code pc = .ok (.dneg, 1)) (h : own_Gs p e below Φ (T.setTop (mkF m pc' Ls (.double (FP.dneg x) :: S)))) (hp : pc + 1 = pc' := by rfl) : own_Gs p e below Φ (T.setTop (mkF m pc Ls (.double x :: S))) := by
  subst hp; exact own_st (fun t k => XS.dnegS X.here hx rfl hd rfl rfl k) h
theorem own_dadd {Φ : Outcome → State → Prop} (X : Stand p l e R s m args below meth c T locs cells slots) (hx : p.tables.exec = Jvm.exec) {pc : Nat} (pc' : Nat) {Ls : Array Slot} {S : List Value} {x y : UInt64} (hd : decode c.code pc = .ok (.dadd, 1)) (hn : Jvm.Free.Fl.NoNaN64 (FP.dadd x y)) (h : own_Gs p e below Φ (T.setTop (mkF m pc' Ls (.double (FP.dadd x y) :: S)))) (hp : pc + 1 = pc' := by rfl) : own_Gs p e below Φ (T.setTop (mkF m pc Ls (.double y :: .double x :: S))) := by
  subst hp; exact own_st (fun t k => XS.daddS X.here hx rfl hd rfl hn rfl k) h
theorem own_dsub {Φ : Outcome → State → Prop} (X : Stand p l e R s m args below meth c T locs cells slots) (hx : p.tables.exec = Jvm.exec) {pc : Nat} (pc' : Nat) {Ls : Array Slot} {S : List Value} {x y : UInt64} (hd : decode c.code pc = .ok (.dsub, 1)) (hn : Jvm.Free.Fl.NoNaN64 (FP.dsub x y)) (h : own_Gs p e below Φ (T.setTop (mkF m pc' Ls (.double (FP.dsub x y) :: S)))) (hp : pc + 1 = pc' := by rfl) : own_Gs p e below Φ (T.setTop (mkF m pc Ls (.double y :: .double x :: S))) := by
  subst hp; exact own_st (fun t k => XS.dsubS X.here hx rfl hd rfl hn rfl k) h
theorem own_dmul {Φ : Outcome → State → Prop} (X : Stand p l e R s m args below meth c T locs cells slots) (hx : p.tables.exec = Jvm.exec) {pc : Nat} (pc' : Nat) {Ls : Array Slot} {S : List Value} {x y : UInt64} (hd : decode c.code pc = .ok (.dmul, 1)) (hn : Jvm.Free.Fl.NoNaN64 (FP.dmul x y)) (h : own_Gs p e below Φ (T.setTop (mkF m pc' Ls (.double (FP.dmul x y) :: S)))) (hp : pc + 1 = pc' := by rfl) : own_Gs p e below Φ (T.setTop (mkF m pc Ls (.double y :: .double x :: S))) := by
  subst hp; exact own_st (fun t k => XS.dmulS X.here hx rfl hd rfl hn rfl k) h
theorem own_ddiv {Φ : Outcome → State → Prop} (X : Stand p l e R s m args below meth c T locs cells slots) (hx : p.tables.exec = Jvm.exec) {pc : Nat} (pc' : Nat) {Ls : Array Slot} {S : List Value} {x y : UInt64} (hd : decode c.code pc = .ok (.ddiv, 1)) (hn : Jvm.Free.Fl.NoNaN64 (FP.ddiv x y)) (h : own_Gs p e below Φ (T.setTop (mkF m pc' Ls (.double (FP.ddiv x y) :: S)))) (hp : pc + 1 = pc' := by rfl) : own_Gs p e below Φ (T.setTop (mkF m pc Ls (.double y :: .double x :: S))) := by
  subst hp; exact own_st (fun t k => XS.ddivS X.here hx rfl hd rfl hn rfl k) h
theorem own_dcmp {Φ : Outcome → State → Prop} (X : Stand p l e R s m args below meth c T locs cells slots) (hx : p.tables.exec = Jvm.exec) {pc : Nat} (pc' : Nat) {Ls : Array Slot} {S : List Value} {x y : UInt64} {o : CmpOp} (z : Int32) (hd : decode c.code pc = .ok (.dcmp o, 1)) (hz : cmpValue (FP.dcmp x y) o = z) (h : own_Gs p e below Φ (T.setTop (mkF m pc' Ls (.int z :: S)))) (hp : pc + 1 = pc' := by rfl) : own_Gs p e below Φ (T.setTop (mkF m pc Ls (.double y :: .double x :: S))) := by
  subst hp; exact own_st (fun t k => XS.dcmpS X.here hx rfl hd rfl hz k) h
theorem own_goto {Φ : Outcome → State → Prop} (X : Stand p l e R s m args below meth c T locs cells slots) (hx : p.tables.exec = Jvm.exec) {pc : Nat} (pc' : Nat) {Ls : Array Slot} {S : List Value} {o : Int}  (hd : decode c.code pc = .ok (.goto o, 3)) (h : own_Gs p e below Φ (T.setTop (mkF m pc' Ls S))) (hp : decide (0 ≤ (pc : Int) + o ∧ ((pc : Int) + o).toNat = pc') = true := by rfl) : own_Gs p e below Φ (T.setTop (mkF m pc Ls (S))) := by
  have q := of_decide_eq_true hp; exact own_st (fun t k => XS.goto X.here hx rfl (pc0 := pc) (pc' := pc') rfl hd q.1 q.2 k) h
theorem own_ifYes {Φ : Outcome → State → Prop} (X : Stand p l e R s m args below meth c T locs cells slots) (hx : p.tables.exec = Jvm.exec) {pc : Nat} (pc' : Nat) {Ls : Array Slot} {S : List Value} {o : Int} {cd : ClassFile.Cond} {x : Int32} (hd : decode c.code pc = .ok (.ifCond cd o, 3)) (hc : if_icmp.holds cd x 0 = true) (h : own_Gs p e below Φ (T.setTop (mkF m pc' Ls S))) (hp : decide (0 ≤ (pc : Int) + o ∧ ((pc : Int) + o).toNat = pc') = true := by rfl) : own_Gs p e below Φ (T.setTop (mkF m pc Ls (.int x :: S))) := by
  have q := of_decide_eq_true hp; exact own_st (fun t k => XS.ifYes X.here hx rfl (pc0 := pc) (pc' := pc') rfl hd rfl ((if0 _ _).trans hc) q.1 q.2 k) h
theorem own_ifNo {Φ : Outcome → State → Prop} (X : Stand p l e R s m args below meth c T locs cells slots) (hx : p.tables.exec = Jvm.exec) {pc : Nat} (pc' : Nat) {Ls : Array Slot} {S : List Value} {o : Int} {cd : ClassFile.Cond} {x : Int32} (hd : decode c.code pc = .ok (.ifCond cd o, 3)) (hc : if_icmp.holds cd x 0 = false) (h : own_Gs p e below Φ (T.setTop (mkF m pc' Ls S))) (hp : pc + 3 = pc' := by rfl) : own_Gs p e below Φ (T.setTop (mkF m pc Ls (.int x :: S))) := by
  subst hp; exact own_st (fun t k => XS.ifNo X.here hx rfl hd rfl ((if0 _ _).trans hc) k) h
theorem own_icmpYes {Φ : Outcome → State → Prop} (X : Stand p l e R s m args below meth c T locs cells slots) (hx : p.tables.exec = Jvm.exec) {pc : Nat} (pc' : Nat) {Ls : Array Slot} {S : List Value} {o : Int} {cd : ClassFile.Cond} {x y : Int32} (hd : decode c.code pc = .ok (.if_icmp cd o, 3)) (hc : if_icmp.holds cd x y = true) (h : own_Gs p e below Φ (T.setTop (mkF m pc' Ls S))) (hp : decide (0 ≤ (pc : Int) + o ∧ ((pc : Int) + o).toNat = pc') = true := by rfl) : own_Gs p e below Φ (T.setTop (mkF m pc Ls (.int y :: .int x :: S))) := by
  have q := of_decide_eq_true hp; exact own_st (fun t k => XS.icmpYes X.here hx rfl (pc0 := pc) (pc' := pc') rfl hd rfl hc q.1 q.2 k) h
theorem own_icmpNo {Φ : Outcome → State → Prop} (X : Stand p l e R s m args below meth c T locs cells slots) (hx : p.tables.exec = Jvm.exec) {pc : Nat} (pc' : Nat) {Ls : Array Slot} {S : List Value} {o : Int} {cd : ClassFile.Cond} {x y : Int32} (hd : decode c.code pc = .ok (.if_icmp cd o, 3)) (hc : if_icmp.holds cd x y = false) (h : own_Gs p e below Φ (T.setTop (mkF m pc' Ls S))) (hp : pc + 3 = pc' := by rfl) : own_Gs p e below Φ (T.setTop (mkF m pc Ls (.int y :: .int x :: S))) := by
  subst hp; exact own_st (fun t k => XS.icmpNo X.here hx rfl hd rfl hc k) h
theorem own_ifnullYes {Φ : Outcome → State → Prop} (X : Stand p l e R s m args below meth c T locs cells slots) (hx : p.tables.exec = Jvm.exec) {pc : Nat} (pc' : Nat) {Ls : Array Slot} {S : List Value} {o : Int}  (hd : decode c.code pc = .ok (.ifnull o, 3)) (h : own_Gs p e below Φ (T.setTop (mkF m pc' Ls S))) (hp : decide (0 ≤ (pc : Int) + o ∧ ((pc : Int) + o).toNat = pc') = true := by rfl) : own_Gs p e below Φ (T.setTop (mkF m pc Ls (.null :: S))) := by
  have q := of_decide_eq_true hp; exact own_st (fun t k => XS.ifnullYes X.here hx rfl (pc0 := pc) (pc' := pc') rfl hd rfl q.1 q.2 k) h
theorem own_ifnullNo {Φ : Outcome → State → Prop} (X : Stand p l e R s m args below meth c T locs cells slots) (hx : p.tables.exec = Jvm.exec) {pc : Nat} (pc' : Nat) {Ls : Array Slot} {S : List Value} {o : Int} {b : Addr} (hd : decode c.code pc = .ok (.ifnull o, 3)) (h : own_Gs p e below Φ (T.setTop (mkF m pc' Ls S))) (hp : pc + 3 = pc' := by rfl) : own_Gs p e below Φ (T.setTop (mkF m pc Ls (.ref b :: S))) := by
  subst hp; exact own_st (fun t k => XS.ifnullNo X.here hx rfl hd rfl k) h
theorem own_ifnonnullYes {Φ : Outcome → State → Prop} (X : Stand p l e R s m args below meth c T locs cells slots) (hx : p.tables.exec = Jvm.exec) {pc : Nat} (pc' : Nat) {Ls : Array Slot} {S : List Value} {o : Int} {b : Addr} (hd : decode c.code pc = .ok (.ifnonnull o, 3)) (h : own_Gs p e below Φ (T.setTop (mkF m pc' Ls S))) (hp : decide (0 ≤ (pc : Int) + o ∧ ((pc : Int) + o).toNat = pc') = true := by rfl) : own_Gs p e below Φ (T.setTop (mkF m pc Ls (.ref b :: S))) := by
  have q := of_decide_eq_true hp; exact own_st (fun t k => XS.ifnonnullYes X.here hx rfl (pc0 := pc) (pc' := pc') rfl hd rfl q.1 q.2 k) h
theorem own_ifnonnullNo {Φ : Outcome → State → Prop} (X : Stand p l e R s m args below meth c T locs cells slots) (hx : p.tables.exec = Jvm.exec) {pc : Nat} (pc' : Nat) {Ls : Array Slot} {S : List Value} {o : Int}  (hd : decode c.code pc = .ok (.ifnonnull o, 3)) (h : own_Gs p e below Φ (T.setTop (mkF m pc' Ls S))) (hp : pc + 3 = pc' := by rfl) : own_Gs p e below Φ (T.setTop (mkF m pc Ls (.null :: S))) := by
  subst hp; exact own_st (fun t k => XS.ifnonnullNo X.here hx rfl hd rfl k) h
theorem own_acmp {Φ : Outcome → State → Prop} (X : Stand p l e R s m args below meth c T locs cells slots) (hx : p.tables.exec = Jvm.exec) {pc : Nat} (pc' : Nat) {Ls : Array Slot} {S : List Value} {o : Int} {cd : ACond} {v w : Value} (same : Bool) (hd : decode c.code pc = .ok (.if_acmp cd o, 3)) (h1 : v.isRef = true) (h2 : w.isRef = true) (hq : decide (v = w) = same) (h : own_Gs p e below Φ (T.setTop (mkF m pc' Ls S))) (hp : decide (0 ≤ (pc : Int) + o ∧ pc' = if acV cd same = true then ((pc : Int) + o).toNat else pc + 3) = true := by rfl) : own_Gs p e below Φ (T.setTop (mkF m pc Ls (w :: v :: S))) := by
  have q := of_decide_eq_true hp; exact own_st (fun t k => Jvm.RoadKit.acmp (g := mkF m pc Ls (w :: v :: S)) X hx rfl h1 h2 (pc0 := pc) (pc' := pc') (same := same) rfl hd rfl hq q.1 q.2 k) h
theorem own_ldcI {Φ : Outcome → State → Prop} (X : Stand p l e R s m args below meth c T locs cells slots) (hx : p.tables.exec = Jvm.exec) {pc : Nat} (pc' : Nat) {Ls : Array Slot} {S : List Value} {own : String} {index : Nat} {v : Int32} (hown : s.vm.findClass own = some m.cls) (hw : (Jvm.Cond.constant own index v).before args s = true) (hd : decode c.code pc = .ok (.ldc index, 2)) (h : own_Gs p e below Φ (T.setTop (mkF m pc' Ls (.int v :: S)))) (hp : pc + 2 = pc' := by rfl) : own_Gs p e below Φ (T.setTop (mkF m pc Ls S)) := by
  subst hp; exact own_st (fun t k => X.ldcInt hx hown hw (g := mkF m pc Ls S) rfl hd _ k) h
theorem own_ldcwI {Φ : Outcome → State → Prop} (X : Stand p l e R s m args below meth c T locs cells slots) (hx : p.tables.exec = Jvm.exec) {pc : Nat} (pc' : Nat) {Ls : Array Slot} {S : List Value} {own : String} {index : Nat} {v : Int32} (hown : s.vm.findClass own = some m.cls) (hw : (Jvm.Cond.constant own index v).before args s = true) (hd : decode c.code pc = .ok (.ldc_w index, 3)) (h : own_Gs p e below Φ (T.setTop (mkF m pc' Ls (.int v :: S)))) (hp : pc + 3 = pc' := by rfl) : own_Gs p e below Φ (T.setTop (mkF m pc Ls S)) := by
  subst hp; exact own_st (fun t k => X.ldcwInt hx hown hw (g := mkF m pc Ls S) rfl hd _ k) h
theorem own_ldcL {Φ : Outcome → State → Prop} (X : Stand p l e R s m args below meth c T locs cells slots) (hx : p.tables.exec = Jvm.exec) {pc : Nat} (pc' : Nat) {Ls : Array Slot} {S : List Value} {own : String} {index : Nat} {v : Int64} (hown : s.vm.findClass own = some m.cls) (hw : (Jvm.Cond.constantLong own index v).before args s = true) (hd : decode c.code pc = .ok (.ldc2_w index, 3)) (h : own_Gs p e below Φ (T.setTop (mkF m pc' Ls (.long v :: S)))) (hp : pc + 3 = pc' := by rfl) : own_Gs p e below Φ (T.setTop (mkF m pc Ls S)) := by
  subst hp; exact own_st (fun t k => X.ldc2Long hx hown hw (g := mkF m pc Ls S) rfl hd _ k) h
theorem own_ldcD {Φ : Outcome → State → Prop} (X : Stand p l e R s m args below meth c T locs cells slots) (hx : p.tables.exec = Jvm.exec) {pc : Nat} (pc' : Nat) {Ls : Array Slot} {S : List Value} {own : String} {index : Nat} {v : UInt64} (hown : s.vm.findClass own = some m.cls) (hw : (Jvm.Cond.constantDouble own index v).before args s = true) (hd : decode c.code pc = .ok (.ldc2_w index, 3)) (h : own_Gs p e below Φ (T.setTop (mkF m pc' Ls (.double v :: S)))) (hp : pc + 3 = pc' := by rfl) : own_Gs p e below Φ (T.setTop (mkF m pc Ls S)) := by
  subst hp; exact own_st (fun t k => X.ldc2DoubleC hx hown hw (g := mkF m pc Ls S) rfl hd _ k) h
theorem own_pop2L {Φ : Outcome → State → Prop} (X : Stand p l e R s m args below meth c T locs cells slots) (hx : p.tables.exec = Jvm.exec) {pc : Nat} (pc' : Nat) {Ls : Array Slot} {S : List Value} {x : Int64} (hd : decode c.code pc = .ok (.pop2, 1)) (h : own_Gs p e below Φ (T.setTop (mkF m pc' Ls S))) (hp : pc + 1 = pc' := by rfl) : own_Gs p e below Φ (T.setTop (mkF m pc Ls (.long x :: S))) := by
  subst hp
  refine own_st (fun t k => ?_) h
  show Steps p.tables e below (T.setTop { method := m, pc := pc, locals := Ls, stack := .long x :: S, locked := none }) _
  jvm_step X.here [X.here.top, hx, hd, Value.category]
  exact k
-- end of steps
theorem own_leafI {z w : Int32} (h : z = w) : some (Value.int z) = some (Value.int w) := by rw [h]
theorem own_leafJ {z w : Int64} (h : z = w) : some (Value.long z) = some (Value.long w) := by rw [h]
theorem own_leafR {z w : Addr} (h : z = w) : some (Value.ref z) = some (Value.ref w) := by rw [h]
theorem own_selfsel {Z s : State} {a0 args : Array Value} {y : MethodName} {n : Nat} (hZ : Z.Warmed39 s.vm) (wi : (Jvm.Cond.instantiable y.cls n).before a0 Z = true) (wm : (Jvm.Cond.instanceMethod y).before a0 Z = true) (wp : (Jvm.Cond.privateMethod y).before a0 Z = true) (hy : y.cls ≠ "java/lang/invoke/MethodHandle" ∧ y.cls ≠ "java/lang/invoke/VarHandle") : (Jvm.Cond.selects y.cls y y).before args s = true := by
  have wi' : (Jvm.Cond.instantiable y.cls n).before args s = true := mvT hZ wi
  obtain ⟨c, k, h1, h2, h3, h4, h5, h6⟩ := Cond.instantiable_spec wi'
  exact selects_self_of_private h1 h2 (by simp only [Bool.or_eq_false_iff] at h4; exact h4.1) (Cond.privateMethod_at (mvP hZ wp (args := #[]))) (mvT hZ wm) hy
theorem own_sta {Z : State} {a0 : Array Value} {C n d K : String} (hx : (Jvm.Cond.exactly (Term.static C n d) K).value a0 Z none Z [] = some true) (hi : (Jvm.Cond.initializedFor C n d).before a0 Z = true ∨ ((Jvm.Cond.initialized C).before a0 Z = true ∧ (Jvm.Cond.laysStatic C n d).before a0 Z = true)) :
    ∃ a : Addr, (Term.static C n d).eval a0 Z none [] Z = some (.ref a) ∧ Sta Z Z.heap C n d (.ref a) ∧ Exa Z Z.heap a K := by
  obtain ⟨a, ha⟩ := exa_v hx
  exact ⟨a, ha, Sta.start ha hi, Exa.start ha hx⟩
theorem own_fldI {Z : State} {a0 : Array Value} {t : Term} {a : Addr} {C n d : String} {k : Int32} (ev : t.eval a0 Z none [] Z = some (.ref a)) (h : (Jvm.Cond.eq (Term.field t C n d) (Term.int k)).value a0 Z none Z [] = some true) : Fld Z Z.heap a C n d (.int k) := by
  refine Fld.start ?_
  rw [← fld_at (args := a0) (first := Z) (o := none) (idx := []) ev]
  obtain ⟨x, y, h1, h2, h3, h4⟩ := cmp_v (Or.inl h)
  rw [Term.int_eval] at h2
  cases h2
  obtain ⟨z, rfl⟩ := h4
  have q : (Jvm.Cond.eq (Term.field t C n d) (Term.int k)).value a0 Z none Z [] = some (decide (z = k)) := Cond.eq_ints h1 (Term.int_eval k)
  rw [h1, gotT q h]
end Own
/-! non-negative doubles: sign and size -/
def own_P (a : UInt64) : Prop := ∃ c q, FP.Core.val64 a = .fin false c q
theorem own_rr (f : FP.Core.Fmt) (s : Bool) (A B : Nat) (e : Int) : (∃ c q, FP.Core.roundRatio f s A B e = .fin s c q) ∨ FP.Core.roundRatio f s A B e = .inf s := by
  unfold FP.Core.roundRatio
  split
  · exact Or.inl ⟨_, _, rfl⟩
  · unfold FP.Core.roundAt FP.Core.settle FP.Core.bound
    split <;> split <;> first | exact Or.inl ⟨_, _, rfl⟩ | exact Or.inr rfl
theorem own_mkP {x : UInt64} (hf : Free.Fl.Fin64 x) {A B : Nat} {e : Int} (h : FP.Core.val64 x = FP.Core.roundRatio FP.Core.b64 false A B e) : own_P x := by
  rcases own_rr FP.Core.b64 false A B e with ⟨c, q, h1⟩ | h1
  · exact ⟨c, q, h.trans h1⟩
  · obtain ⟨s, c, q, h2⟩ := Free.Fl.fin64_core.mp hf
    rw [h, h1] at h2; cases h2
theorem own_addP {a b : UInt64} (ha : own_P a) (hb : own_P b) (hf : Free.Fl.Fin64 (FP.dadd a b)) : own_P (FP.dadd a b) := by
  obtain ⟨c, q, ha⟩ := ha
  obtain ⟨d, r, hb⟩ := hb
  have h := FP.Core.val64_dadd a b
  rw [ha, hb] at h
  have hs : FP.Core.sumSign false false (FP.Core.sumUnits false c q false d r (min q r)) = false := by
    have hn : ¬ FP.Core.sumUnits false c q false d r (min q r) < 0 := by
      show ¬ ((FP.Core.inUnits c q (min q r) : Int) + (FP.Core.inUnits d r (min q r) : Int)) < 0
      omega
    unfold FP.Core.sumSign
    split
    · rfl
    · simp only [decide_eq_false_iff_not]; exact hn
  simp only [FP.Core.exactSum, FP.Core.round, hs] at h
  exact own_mkP hf h
theorem own_mulP {a b : UInt64} (ha : own_P a) (hb : own_P b) (hf : Free.Fl.Fin64 (FP.dmul a b)) : own_P (FP.dmul a b) := by
  obtain ⟨c, q, ha⟩ := ha
  obtain ⟨d, r, hb⟩ := hb
  have h := FP.Core.val64_dmul a b
  rw [ha, hb] at h
  exact own_mkP hf h
theorem own_divP {a b : UInt64} (ha : own_P a) {d : Nat} {r : Int} (hb : FP.Core.val64 b = .fin false d r) (hd : d ≠ 0) (hf : Free.Fl.Fin64 (FP.ddiv a b)) : own_P (FP.ddiv a b) := by
  obtain ⟨c, q, ha⟩ := ha
  have h := FP.Core.val64_ddiv a b
  rw [ha, hb] at h
  simp only [FP.Core.quotient, if_neg hd] at h
  exact own_mkP hf h
theorem own_i2dP {v : Int32} (h : 0 ≤ v.toInt) : own_P (FP.i2d v) := by
  have h1 := FP.Core.val64_i2d v
  have h2 : decide (v.toInt < 0) = false := by simp only [decide_eq_false_iff_not]; omega
  simp only [FP.Core.ofInt, FP.Core.round, h2] at h1
  exact own_mkP ((Free.Fl.i2d_mag v).fin (by decide)) h1
theorem own_Pge {a : UInt64} (h : own_P a) : a.toNat < 2 ^ 63 := by
  have h1 := FP.Core.sign_bits (a := a) (s := false) (Or.inl h)
  simp at h1; omega
theorem own_Pnn {a : UInt64} (h : own_P a) : FP.Core.val64 a ≠ .nan := by
  obtain ⟨c, q, h⟩ := h; rw [h]; intro k; cases k

open FP.Core in
theorem own_quo {i j : Int} {X Y : UInt64} (hX : DInt i X) (hY : DInt j Y) (hj : 0 < j) : ∃ s, val64 (FP.ddiv X Y) = roundRatio b64 s i.natAbs j.natAbs 0 ∧ (i ≠ 0 → s = decide (i < 0)) := by
  unfold DInt at hX hY
  have h := val64_ddiv X Y
  generalize val64 X = a at *
  generalize val64 Y = b at *
  cases a with
  | nan => exact hX.elim
  | inf => exact hX.elim
  | fin s c q =>
  cases b with
  | nan => exact hY.elim
  | inf => exact hY.elim
  | fin t d r =>
  have hd : d ≠ 0 := fun k => by have := (whole_zero hY).mp k; omega
  have ht : t = false := by rw [whole_sign hY (by omega)]; simp only [decide_eq_false_iff_not]; omega
  subst ht
  simp only [quotient, if_neg hd] at h
  refine ⟨(s != false), h.trans (roundRatio_congr (Nat.pos_of_ne_zero hd) (by omega) ?_), fun k => by rw [whole_sign hX k]; simp⟩
  have e1 := whole_natAbs hX
  have e2 := whole_natAbs hY
  have ex : (q - r - 0).toNat + (-q).toNat + r.toNat = (0 - (q - r)).toNat + q.toNat + (-r).toNat := by omega
  generalize (q - r - 0).toNat = zp at *
  generalize (0 - (q - r)).toNat = zm at *
  generalize (-q).toNat = qm at *
  generalize q.toNat = qp at *
  generalize (-r).toNat = rm at *
  generalize r.toNat = rp at *
  generalize i.natAbs = I at *
  generalize j.natAbs = B at *
  have k : c * B * 2 ^ zp * (2 ^ qm * 2 ^ rp) = I * d * 2 ^ zm * (2 ^ qm * 2 ^ rp) := by
    calc c * B * 2 ^ zp * (2 ^ qm * 2 ^ rp) = c * B * 2 ^ (zp + qm + rp) := by rw [Nat.pow_add, Nat.pow_add]; ac_rfl
      _ = c * B * 2 ^ (zm + qp + rm) := by rw [ex]
      _ = (c * 2 ^ qp) * (B * 2 ^ rm) * 2 ^ zm := by rw [Nat.pow_add, Nat.pow_add]; ac_rfl
      _ = (I * 2 ^ qm) * (d * 2 ^ rp) * 2 ^ zm := by rw [e1, e2]
      _ = I * d * 2 ^ zm * (2 ^ qm * 2 ^ rp) := by ac_rfl
  exact Nat.eq_of_mul_eq_mul_right (Nat.mul_pos (Nat.two_pow_pos _) (Nat.two_pow_pos _)) k
/-- p is n / b, rounded -/
def own_R (n b : Int64) (p : UInt64) : Prop := ∃ s, FP.Core.val64 p = FP.Core.roundRatio FP.Core.b64 s n.toInt.natAbs b.toInt.natAbs 0 ∧ (n.toInt ≠ 0 → s = decide (n.toInt < 0))
theorem own_r0 {a : Int32} {b : Int64} (hb : 1 ≤ b.toInt ∧ b.toInt ≤ 65536) : own_R a.toInt64 b (FP.ddiv (FP.i2d a) (FP.l2d b)) := by
  have h1 := FP.Core.i2d_int a
  have h2 := FP.Core.l2d_int (a := b) (by omega)
  have h3 := own_quo h1 h2 (by omega)
  have e : a.toInt64.toInt = a.toInt := Int32.toInt_toInt64 a
  unfold own_R; rw [e]; exact h3
theorem own_nn1 {a : Int32} {b : Int64} (hb : 1 ≤ b.toInt ∧ b.toInt ≤ 65536) : Free.Fl.NoNaN64 (FP.ddiv (FP.i2d a) (FP.l2d b)) := by
  have hz : b ≠ 0 := fun k => by subst k; have := hb.1; simp at this
  exact ((RoadKit.ddiv_mag (K := 1056) (L := 1023) (Free.Fl.i2d_mag a) (RoadKit.l2d_big hz) (by decide) (by decide)).fin (by decide)).noNaN
theorem own_neg64 (a : Int32) : (-a.toInt64).toInt = -a.toInt := by
  have h1 := Int32.le_toInt a
  have h2 := Int32.toInt_lt a
  have e : a.toInt64.toInt = a.toInt := Int32.toInt_toInt64 a
  rw [Int64.toInt_neg, e]
  exact Int.bmod_eq_of_le (by omega) (by omega)
theorem own_S63 (n : Nat) : FP.Core.fieldS FP.Core.b64 n = n.testBit 63 := by
  unfold FP.Core.fieldS
  rw [Nat.div_div_eq_div_mul, Nat.testBit_eq_decide_div_mod_eq]
  show (n / (2 ^ 63) % 2 == 1) = _
  rfl
theorem own_dx (a : UInt64) : (FP.dneg a).toNat = a.toNat ^^^ 2 ^ 63 := by
  show (a ^^^ 0x8000000000000000).toNat = _
  rw [UInt64.toNat_xor]; rfl
theorem own_vneg (a : UInt64) : FP.Core.val64 (FP.dneg a) = FP.Core.negate (FP.Core.val64 a) := by
  have hm : FP.Core.mag FP.Core.b64 (FP.dneg a).toNat = FP.Core.mag FP.Core.b64 a.toNat := by
    rw [FP.Core.mag_toNat64, FP.Core.mag_toNat64, own_dx]
    apply Nat.eq_of_testBit_eq; intro i
    simp only [Nat.testBit_mod_two_pow, Nat.testBit_xor, Nat.testBit_two_pow]
    by_cases q : i < 63
    · have : ¬ 63 = i := by omega
      simp [q, this]
    · simp [q]
  have hs : FP.Core.fieldS FP.Core.b64 (FP.dneg a).toNat = !FP.Core.fieldS FP.Core.b64 a.toNat := by
    rw [own_S63, own_S63, own_dx, Nat.testBit_xor, Nat.testBit_two_pow_self]; simp
  unfold FP.Core.val64 FP.Core.decode
  simp only [FP.Core.fieldE_mag, FP.Core.fieldT_mag, hm, hs]
  by_cases h1 : FP.Core.mag FP.Core.b64 a.toNat / FP.Core.b64.tails = FP.Core.b64.exps - 1
  · by_cases h2 : FP.Core.mag FP.Core.b64 a.toNat % FP.Core.b64.tails = 0
    · rw [if_pos h1, if_pos h1, if_pos h2, if_pos h2]; rfl
    · rw [if_pos h1, if_pos h1, if_neg h2, if_neg h2]; rfl
  · by_cases h2 : FP.Core.mag FP.Core.b64 a.toNat / FP.Core.b64.tails = 0
    · rw [if_neg h1, if_neg h1, if_pos h2, if_pos h2]; rfl
    · rw [if_neg h1, if_neg h1, if_neg h2, if_neg h2]; rfl
theorem own_rn {a : Int32} {b : Int64} {p : UInt64} (h : own_R a.toInt64 b p) : own_R (-a.toInt64) b (FP.dneg p) := by
  obtain ⟨s, h, hs⟩ := h
  have e : a.toInt64.toInt = a.toInt := Int32.toInt_toInt64 a
  have k := own_vneg p
  rw [h, FP.Core.negate_roundRatio] at k
  rw [e] at k hs
  refine ⟨!s, ?_, ?_⟩
  · rw [own_neg64, Int.natAbs_neg]; exact k
  · rw [own_neg64]; intro z
    rw [hs (by omega)]
    by_cases q : a.toInt < 0
    · simp only [q, decide_true, Bool.not_true]; exact (decide_eq_false (by omega)).symm
    · simp only [q, decide_false, Bool.not_false]; exact (decide_eq_true (by omega)).symm
open FP.Core in
theorem own_Rnn {n b : Int64} {p : UInt64} (h : own_R n b p) : val64 p ≠ .nan := by
  obtain ⟨s, h, _⟩ := h; rw [h]; exact roundRatio_ne_nan _ _ _ _ _
open FP.Core in
theorem own_Rsg {n b : Int64} {p : UInt64} (h : own_R n b p) (hn : n.toInt ≠ 0) : n.toInt < 0 ↔ 2 ^ 63 ≤ p.toNat := by
  obtain ⟨s, h, hs⟩ := h
  have k := sign_bits (a := p) (s := s) (by rw [h]; exact own_rr _ _ _ _ _)
  rw [hs hn, decide_eq_true_iff] at k; exact k
theorem own_u0 : FP.Core.unitsOf FP.Core.b64 0 = 0 := by decide +kernel
theorem own_u1 : FP.Core.unitsOf FP.Core.b64 1 = 1 := by decide +kernel
theorem own_u2 : FP.Core.unitsOf FP.Core.b64 4607182418800017408 = 2 ^ 52 * 2 ^ 1022 := by decide +kernel
theorem own_u3 : FP.Core.unitsOf FP.Core.b64 4607182418800017409 = (2 ^ 52 + 1) * 2 ^ 1022 := by decide +kernel
theorem own_q : FP.Core.b64.qmin = -1074 := by decide +kernel
theorem own_iu (I : Nat) : FP.Core.inUnits I 0 (-1074) = I * (2 ^ 52 * 2 ^ 1022) := by
  unfold FP.Core.inUnits
  rw [show ((0 : Int) - -1074).toNat = 52 + 1022 from rfl, Nat.pow_add]
open FP.Core in
theorem own_Rle {n b : Int64} {p : UInt64} (h : own_R n b p) (hb : 1 ≤ b.toInt ∧ b.toInt ≤ 65536) (m : Nat) (hm : n.toInt.natAbs * (2 ^ 52 * 2 ^ 1022) ≤ unitsOf b64 m * b.toInt.natAbs) : p.toNat % 2 ^ 63 ≤ m := by
  obtain ⟨s, h, hs⟩ := h
  have k := mag_le good_b64 (s := s) (n := p.toNat) (m := m) (e0 := -1074) h (by omega) (by rw [own_q]; decide) (by decide) (by rw [own_iu, own_q]; simpa using hm)
  rwa [mag_toNat64] at k
open FP.Core in
theorem own_Rge {n b : Int64} {p : UInt64} (h : own_R n b p) (hb : 1 ≤ b.toInt ∧ b.toInt ≤ 65536) (m : Nat) (hi : m ≤ infBits b64) (hm : unitsOf b64 m * b.toInt.natAbs ≤ n.toInt.natAbs * (2 ^ 52 * 2 ^ 1022)) : m ≤ p.toNat % 2 ^ 63 := by
  obtain ⟨s, h, hs⟩ := h
  have k := mag_ge good_b64 (s := s) (n := p.toNat) (m := m) (e0 := -1074) h (by omega) (by rw [own_q]; decide) (by decide) hi (by rw [own_iu, own_q]; simpa using hm)
  rwa [mag_toNat64] at k
theorem own_k0 : FP.Core.dkey FP.dconst0 = 0 := by decide +kernel
theorem own_k1 : FP.Core.dkey FP.dconst1 = 4607182418800017408 := by decide +kernel
theorem own_v0 : FP.Core.val64 FP.dconst0 ≠ .nan := by decide +kernel
theorem own_v1 : FP.Core.val64 FP.dconst1 ≠ .nan := by decide +kernel
theorem own_cl {x : UInt64} (hx : FP.Core.val64 x ≠ .nan) : cmpValue (FP.dcmp x FP.dconst0) .l < 0 ↔ FP.Core.dkey x < 0 := by
  have h1 := FP.Core.dcmp_lt_key hx own_v0
  rw [own_k0] at h1
  rw [← h1]
  have h2 := mt (FP.Core.dcmp_none x FP.dconst0).mp (fun k => k.elim hx own_v0)
  show cmpValue (FP.Core.dcmp x FP.dconst0) .l < 0 ↔ _
  rcases h : FP.Core.dcmp x FP.dconst0 with _ | (_ | _ | _) <;> first | decide | exact absurd h h2
theorem own_cg {x : UInt64} (hx : FP.Core.val64 x ≠ .nan) : 0 < cmpValue (FP.dcmp x FP.dconst1) .g ↔ 4607182418800017408 < FP.Core.dkey x := by
  have h1 := FP.Core.dcmp_gt_key hx own_v1
  rw [own_k1] at h1
  rw [← h1]
  have h2 := mt (FP.Core.dcmp_none x FP.dconst1).mp (fun k => k.elim hx own_v1)
  show 0 < cmpValue (FP.Core.dcmp x FP.dconst1) .g ↔ _
  rcases h : FP.Core.dcmp x FP.dconst1 with _ | (_ | _ | _) <;> first | decide | exact absurd h h2
theorem own_p0 {n b : Int64} {p : UInt64} (h : own_R n b p) (hb : 1 ≤ b.toInt ∧ b.toInt ≤ 65536) (hn : n < 0) : cmpValue (FP.dcmp p FP.dconst0) .l < 0 := by
  rw [own_cl (own_Rnn h)]
  rw [Int64.lt_iff_toInt_lt] at hn
  simp only [Int64.toInt_zero] at hn
  have h1 := (own_Rsg h (by omega)).mp hn
  have h2 := own_Rge h hb 1 (by decide +kernel) (by
    rw [own_u1, Nat.one_mul]
    have q : 65536 ≤ 2 ^ 52 * 2 ^ 1022 := Nat.le_trans (by decide : 65536 ≤ 2 ^ 52) (Nat.le_mul_of_pos_right _ (Nat.two_pow_pos _))
    generalize (2 : Nat) ^ 52 * 2 ^ 1022 = K at *
    have : 1 * K ≤ n.toInt.natAbs * K := Nat.mul_le_mul_right _ (by omega)
    omega)
  have h3 := p.toNat_lt
  unfold FP.Core.dkey
  rw [if_pos h1]; omega
theorem own_p1 {n b : Int64} {p : UInt64} (h : own_R n b p) (hb : 1 ≤ b.toInt ∧ b.toInt ≤ 65536) (hn : ¬ n < 0) : ¬ cmpValue (FP.dcmp p FP.dconst0) .l < 0 := by
  rw [own_cl (own_Rnn h)]
  rw [Int64.lt_iff_toInt_lt] at hn
  simp only [Int64.toInt_zero] at hn
  unfold FP.Core.dkey
  by_cases z : n.toInt = 0
  · have h2 := own_Rle h hb 0 (by rw [z]; simp)
    have h3 := p.toNat_lt
    split <;> omega
  · have h1 := mt (own_Rsg h z).mpr hn
    rw [if_neg h1]; omega
theorem own_p2 {n b : Int64} {p : UInt64} (h : own_R n b p) (hb : 1 ≤ b.toInt ∧ b.toInt ≤ 65536) (hn : ¬ n < 0) (hl : ¬ b < n) : ¬ 0 < cmpValue (FP.dcmp p FP.dconst1) .g := by
  rw [own_cg (own_Rnn h)]
  rw [Int64.lt_iff_toInt_lt] at hn hl
  simp only [Int64.toInt_zero] at hn
  have h2 := own_Rle h hb 4607182418800017408 (by
    rw [own_u2, Nat.mul_comm]; exact Nat.mul_le_mul_left _ (by omega))
  have h3 := p.toNat_lt
  unfold FP.Core.dkey
  split <;> omega
theorem own_p3 {n b : Int64} {p : UInt64} (h : own_R n b p) (hb : 1 ≤ b.toInt ∧ b.toInt ≤ 65536) (hn : ¬ n < 0) (hl : b < n) : 0 < cmpValue (FP.dcmp p FP.dconst1) .g := by
  rw [own_cg (own_Rnn h)]
  rw [Int64.lt_iff_toInt_lt] at hn hl
  simp only [Int64.toInt_zero] at hn
  have h1 := mt (own_Rsg h (by omega)).mpr hn
  have h2 := own_Rge h hb 4607182418800017409 (by decide +kernel) (by
    rw [own_u3, ← Nat.mul_assoc, Nat.mul_right_comm]
    refine Nat.mul_le_mul_right _ ?_
    have e : (2 : Nat) ^ 52 = 4503599627370496 := by decide
    rw [e]; omega)
  unfold FP.Core.dkey
  rw [if_neg h1]; omega
theorem own_b1 (v : Int32) : 1 ≤ ((v &&& (65535 : Int32)).toInt64 + (1 : Int64)).toInt ∧ ((v &&& (65535 : Int32)).toInt64 + (1 : Int64)).toInt ≤ 65536 := by
  have h := c_mask v 65535 16 (by decide) (by decide)
  have e : (v &&& (65535 : Int32)).toInt64.toInt = (v &&& (65535 : Int32)).toInt := Int32.toInt_toInt64 _
  rw [Int64.toInt_add, e, show (1 : Int64).toInt = 1 from rfl, Int.bmod_eq_of_le (by omega) (by omega)]
  omega

theorem own_d1_0 : decode prog_50_method_3_code 0 = .ok (.dload_n 0, 1) := by decide +kernel
theorem own_d1_1 : decode prog_50_method_3_code 1 = .ok (.dconst 0, 1) := by decide +kernel
theorem own_d1_2 : decode prog_50_method_3_code 2 = .ok (.dcmp .l, 1) := by decide +kernel
theorem own_d1_3 : decode prog_50_method_3_code 3 = .ok (.ifCond .lt 13, 3) := by decide +kernel
theorem own_d1_16 : decode prog_50_method_3_code 16 = .ok (.iconst 0, 1) := by decide +kernel
theorem own_d1_17 : decode prog_50_method_3_code 17 = .ok (.ireturn, 1) := by decide +kernel
theorem own_pn0 : plainName "com/example/tallybound/tallybound/http/LinkFaults" = true := by first | (simp [plainName, overriddenIn]; done) | decide +kernel
theorem own_ef1a (m : MethodId) (x0 : UInt64) : entryFrame m #[(.double x0)] 2 = mkF m 0 #[.val (.double x0), .second] [] := by first | (simp [entryFrame, mkF, argsToLocals, Value.category]; done) | rfl
def own_Q1a (Z : State) (x0 : UInt64) (h0 : Heap) (n0 : Nat) (v : Option Value) (h : Heap) (L : List Loc) : Prop := v = some (.int (0 : Int32)) ∧ Fr n0 L ∧ h = h0
set_option maxRecDepth 65536 in
set_option maxHeartbeats 40000000 in
theorem own_rm1a (l : Launch) (Z : State) (a0 : Array Value) (hw : ∀ d ∈ tables_1, d.before a0 Z = true) (ws : List Jvm.Cond) (x0 : UInt64) (h0 : Heap) (n0 : Nat) (Z0 : n0 ≤ h0.size) (hz : cmpValue (FP.dcmp x0 FP.dconst0) .l < 0) :
    MetFree l (⟨"com/example/tallybound/tallybound/http/LinkFaults", "isProbability", "(D)Z"⟩ : MethodName) (head1 (Jvm.Cond.code (⟨"com/example/tallybound/tallybound/http/LinkFaults", "isProbability", "(D)Z"⟩ : MethodName) prog_50_method_3_code 2 (some .boolean) :: ws) ({ frames := 0, cells := 0, slots := 0, locals := 0 } : Room)) (fun a U => a = #[(.double x0)] ∧ Z.Warmed39 U.vm ∧ U.heap = h0) (fun _ _ _ _ _ => True) (fun _ U o U' => ∃ v L, o = .returned v ∧ own_Q1a Z x0 h0 n0 v U'.heap L ∧ FrameEnd U o U' L ({ frames := 0, cells := 0, slots := 0, locals := 0 } : Room).cells ({ frames := 0, cells := 0, slots := 0, locals := 0 } : Room).slots) := by
  refine MetFree.of_bodySF (plainFor_of_name own_pn0) hisR ?_
  intro p e s m args below meth c s₁ Bd hml0 hP hK
  obtain ⟨rfl, hZ, hh⟩ := hP
  have hx := Bd.exec
  have hby := Bd.bytes
  have hlk := Bd.notSynchronized
  have hrt := Bd.returns
  have hml : c.maxLocals = 2 := hml0
  have hown : s.vm.findClass "com/example/tallybound/tallybound/http/LinkFaults" = some m.cls := findClass_of_methodNamed Bd.named
  have hnm := (name_of_methodNamed Bd.named Bd.method).1
  have X0 : Stand p l e ({ frames := 0, cells := 0, slots := 0, locals := 0 } : Room) s m #[(.double x0)] below meth c s₁ [] 0 0 := Stand.of_body Bd
  have e0 : s₁.heap = h0 := by rw [← hh, Bd.state]; rfl
  have N0 := Fr.nil n0
  refine own_in (own_ef1a m x0) ?_
  refine own_dloadN X0 hx 1 (hb hby own_d1_0) rfl ?_
  refine own_dconst0 X0 hx 2 (hb hby own_d1_1) ?_
  refine own_dcmp X0 hx 3 (cmpValue (FP.dcmp x0 FP.dconst0) .l) (hb hby own_d1_2) rfl ?_
  refine own_ifYes X0 hx 16 (hb hby own_d1_3) (tlt (hz : (cmpValue (FP.dcmp x0 FP.dconst0) .l) < (0 : Int32))).1 ?_
  refine own_iconst X0 hx 17 (0 : Int32) (hb hby own_d1_16) rfl ?_
  exact own_retN (t := .boolean) (z := (0 : Int32)) (Q := own_Q1a Z x0 h0 n0) X0 hx hrt (by simp) (hb hby own_d1_17) hlk e0 ⟨rfl, N0, rfl⟩ (by decide) (by decide)
theorem own_d1_6 : decode prog_50_method_3_code 6 = .ok (.dload_n 0, 1) := by decide +kernel
theorem own_d1_7 : decode prog_50_method_3_code 7 = .ok (.dconst 1, 1) := by decide +kernel
theorem own_d1_8 : decode prog_50_method_3_code 8 = .ok (.dcmp .g, 1) := by decide +kernel
theorem own_d1_9 : decode prog_50_method_3_code 9 = .ok (.ifCond .gt 7, 3) := by decide +kernel
theorem own_d1_12 : decode prog_50_method_3_code 12 = .ok (.iconst 1, 1) := by decide +kernel
theorem own_d1_13 : decode prog_50_method_3_code 13 = .ok (.goto 4, 3) := by decide +kernel
theorem own_ef1b (m : MethodId) (x0 : UInt64) : entryFrame m #[(.double x0)] 2 = mkF m 0 #[.val (.double x0), .second] [] := by first | (simp [entryFrame, mkF, argsToLocals, Value.category]; done) | rfl
def own_Q1b (Z : State) (x0 : UInt64) (h0 : Heap) (n0 : Nat) (v : Option Value) (h : Heap) (L : List Loc) : Prop := v = some (.int (1 : Int32)) ∧ Fr n0 L ∧ h = h0
set_option maxRecDepth 65536 in
set_option maxHeartbeats 40000000 in
theorem own_rm1b (l : Launch) (Z : State) (a0 : Array Value) (hw : ∀ d ∈ tables_1, d.before a0 Z = true) (ws : List Jvm.Cond) (x0 : UInt64) (h0 : Heap) (n0 : Nat) (Z0 : n0 ≤ h0.size) (hz : ¬ cmpValue (FP.dcmp x0 FP.dconst0) .l < 0) (hm : ¬ 0 < cmpValue (FP.dcmp x0 FP.dconst1) .g) :
    MetFree l (⟨"com/example/tallybound/tallybound/http/LinkFaults", "isProbability", "(D)Z"⟩ : MethodName) (head1 (Jvm.Cond.code (⟨"com/example/tallybound/tallybound/http/LinkFaults", "isProbability", "(D)Z"⟩ : MethodName) prog_50_method_3_code 2 (some .boolean) :: ws) ({ frames := 0, cells := 0, slots := 0, locals := 0 } : Room)) (fun a U => a = #[(.double x0)] ∧ Z.Warmed39 U.vm ∧ U.heap = h0) (fun _ _ _ _ _ => True) (fun _ U o U' => ∃ v L, o = .returned v ∧ own_Q1b Z x0 h0 n0 v U'.heap L ∧ FrameEnd U o U' L ({ frames := 0, cells := 0, slots := 0, locals := 0 } : Room).cells ({ frames := 0, cells := 0, slots := 0, locals := 0 } : Room).slots) := by
  refine MetFree.of_bodySF (plainFor_of_name own_pn0) hisR ?_
  intro p e s m args below meth c s₁ Bd hml0 hP hK
  obtain ⟨rfl, hZ, hh⟩ := hP
  have hx := Bd.exec
  have hby := Bd.bytes
  have hlk := Bd.notSynchronized
  have hrt := Bd.returns
  have hml : c.maxLocals = 2 := hml0
  have hown : s.vm.findClass "com/example/tallybound/tallybound/http/LinkFaults" = some m.cls := findClass_of_methodNamed Bd.named
  have hnm := (name_of_methodNamed Bd.named Bd.method).1
  have X0 : Stand p l e ({ frames := 0, cells := 0, slots := 0, locals := 0 } : Room) s m #[(.double x0)] below meth c s₁ [] 0 0 := Stand.of_body Bd
  have e0 : s₁.heap = h0 := by rw [← hh, Bd.state]; rfl
  have N0 := Fr.nil n0
  refine own_in (own_ef1b m x0) ?_
  refine own_dloadN X0 hx 1 (hb hby own_d1_0) rfl ?_
  refine own_dconst0 X0 hx 2 (hb hby own_d1_1) ?_
  refine own_dcmp X0 hx 3 (cmpValue (FP.dcmp x0 FP.dconst0) .l) (hb hby own_d1_2) rfl ?_
  refine own_ifNo X0 hx 6 (hb hby own_d1_3) (flt (hz : ¬ ((cmpValue (FP.dcmp x0 FP.dconst0) .l) < (0 : Int32)))).1 ?_
  refine own_dloadN X0 hx 7 (hb hby own_d1_6) rfl ?_
  refine own_dconst1 X0 hx 8 (hb hby own_d1_7) ?_
  refine own_dcmp X0 hx 9 (cmpValue (FP.dcmp x0 FP.dconst1) .g) (hb hby own_d1_8) rfl ?_
  refine own_ifNo X0 hx 12 (hb hby own_d1_9) (flt (hm : ¬ ((0 : Int32) < (cmpValue (FP.dcmp x0 FP.dconst1) .g)))).2.2.1 ?_
  refine own_iconst X0 hx 13 (1 : Int32) (hb hby own_d1_12) rfl ?_
  refine own_goto X0 hx 17 (hb hby own_d1_13) ?_
  exact own_retN (t := .boolean) (z := (1 : Int32)) (Q := own_Q1b Z x0 h0 n0) X0 hx hrt (by simp) (hb hby own_d1_17) hlk e0 ⟨rfl, N0, rfl⟩ (by decide) (by decide)
theorem own_ef1c (m : MethodId) (x0 : UInt64) : entryFrame m #[(.double x0)] 2 = mkF m 0 #[.val (.double x0), .second] [] := by first | (simp [entryFrame, mkF, argsToLocals, Value.category]; done) | rfl
def own_Q1c (Z : State) (x0 : UInt64) (h0 : Heap) (n0 : Nat) (v : Option Value) (h : Heap) (L : List Loc) : Prop := v = some (.int (0 : Int32)) ∧ Fr n0 L ∧ h = h0
set_option maxRecDepth 65536 in
set_option maxHeartbeats 40000000 in
theorem own_rm1c (l : Launch) (Z : State) (a0 : Array Value) (hw : ∀ d ∈ tables_1, d.before a0 Z = true) (ws : List Jvm.Cond) (x0 : UInt64) (h0 : Heap) (n0 : Nat) (Z0 : n0 ≤ h0.size) (hz : ¬ cmpValue (FP.dcmp x0 FP.dconst0) .l < 0) (hm : 0 < cmpValue (FP.dcmp x0 FP.dconst1) .g) :
    MetFree l (⟨"com/example/tallybound/tallybound/http/LinkFaults", "isProbability", "(D)Z"⟩ : MethodName) (head1 (Jvm.Cond.code (⟨"com/example/tallybound/tallybound/http/LinkFaults", "isProbability", "(D)Z"⟩ : MethodName) prog_50_method_3_code 2 (some .boolean) :: ws) ({ frames := 0, cells := 0, slots := 0, locals := 0 } : Room)) (fun a U => a = #[(.double x0)] ∧ Z.Warmed39 U.vm ∧ U.heap = h0) (fun _ _ _ _ _ => True) (fun _ U o U' => ∃ v L, o = .returned v ∧ own_Q1c Z x0 h0 n0 v U'.heap L ∧ FrameEnd U o U' L ({ frames := 0, cells := 0, slots := 0, locals := 0 } : Room).cells ({ frames := 0, cells := 0, slots := 0, locals := 0 } : Room).slots) := by
  refine MetFree.of_bodySF (plainFor_of_name own_pn0) hisR ?_
  intro p e s m args below meth c s₁ Bd hml0 hP hK
  obtain ⟨rfl, hZ, hh⟩ := hP
  have hx := Bd.exec
  have hby := Bd.bytes
  have hlk := Bd.notSynchronized
  have hrt := Bd.returns
  have hml : c.maxLocals = 2 := hml0
  have hown : s.vm.findClass "com/example/tallybound/tallybound/http/LinkFaults" = some m.cls := findClass_of_methodNamed Bd.named
  have hnm := (name_of_methodNamed Bd.named Bd.method).1
  have X0 : Stand p l e ({ frames := 0, cells := 0, slots := 0, locals := 0 } : Room) s m #[(.double x0)] below meth c s₁ [] 0 0 := Stand.of_body Bd
  have e0 : s₁.heap = h0 := by rw [← hh, Bd.state]; rfl
  have N0 := Fr.nil n0
  refine own_in (own_ef1c m x0) ?_
  refine own_dloadN X0 hx 1 (hb hby own_d1_0) rfl ?_
  refine own_dconst0 X0 hx 2 (hb hby own_d1_1) ?_
  refine own_dcmp X0 hx 3 (cmpValue (FP.dcmp x0 FP.dconst0) .l) (hb hby own_d1_2) rfl ?_
  refine own_ifNo X0 hx 6 (hb hby own_d1_3) (flt (hz : ¬ ((cmpValue (FP.dcmp x0 FP.dconst0) .l) < (0 : Int32)))).1 ?_
  refine own_dloadN X0 hx 7 (hb hby own_d1_6) rfl ?_
  refine own_dconst1 X0 hx 8 (hb hby own_d1_7) ?_
  refine own_dcmp X0 hx 9 (cmpValue (FP.dcmp x0 FP.dconst1) .g) (hb hby own_d1_8) rfl ?_
  refine own_ifYes X0 hx 16 (hb hby own_d1_9) (tlt (hm : (0 : Int32) < (cmpValue (FP.dcmp x0 FP.dconst1) .g))).2.2.1 ?_
  refine own_iconst X0 hx 17 (0 : Int32) (hb hby own_d1_16) rfl ?_
  exact own_retN (t := .boolean) (z := (0 : Int32)) (Q := own_Q1c Z x0 h0 n0) X0 hx hrt (by simp) (hb hby own_d1_17) hlk e0 ⟨rfl, N0, rfl⟩ (by decide) (by decide)
theorem own_pn1 : plainName "com/example/tallybound/tallybound/http/LinkFaultsIsProbabilityPinLaw" = true := by first | (simp [plainName, overriddenIn]; done) | decide +kernel
theorem own_pd0 : parseMethodDescriptor "(D)Z" = some ⟨[.double], some .boolean⟩ := by decide +kernel
theorem own_ef0 (m : MethodId) (v0 : Int32) (v1 : Int32) (v2 : Int32) : entryFrame m #[(.int v0), (.int v1), (.int v2)] maxLocals = mkF m 0 #[.val (.int v0), .val (.int v1), .val (.int v2), .unset, .unset, .unset, .unset, .unset, .unset, .unset, .unset, .unset, .unset] [] := by first | (simp [entryFrame, mkF, argsToLocals, Value.category, maxLocals]; done) | rfl
def own_Q0 (Z : State) (v0 : Int32) (v1 : Int32) (v2 : Int32) (h0 : Heap) (n0 : Nat) (v : Option Value) (h : Heap) (L : List Loc) : Prop := v = some (.int (1 : Int32)) ∧ Fr n0 L
set_option maxRecDepth 65536 in
set_option maxHeartbeats 40000000 in
theorem own_rm0 (l : Launch) (Z : State) (a0 : Array Value) (hw : ∀ d ∈ tables_1, d.before a0 Z = true) (ws : List Jvm.Cond) (v0 : Int32) (v1 : Int32) (v2 : Int32) (h0 : Heap) (n0 : Nat) (Z0 : n0 ≤ h0.size)  :
    MetFree l x (head1 (Jvm.Cond.code x code maxLocals ret :: ws) room_1) (fun a U => a = #[(.int v0), (.int v1), (.int v2)] ∧ Z.Warmed39 U.vm ∧ U.heap = h0) (fun _ _ _ _ _ => True) (fun _ U o U' => ∃ v L, o = .returned v ∧ own_Q0 Z v0 v1 v2 h0 n0 v U'.heap L ∧ FrameEnd U o U' L room_1.cells room_1.slots) := by
  refine MetFree.of_bodySF (plainFor_of_name own_pn1) hisR ?_
  intro p e s m args below meth c s₁ Bd hml0 hP hK
  obtain ⟨rfl, hZ, hh⟩ := hP
  have hx := Bd.exec
  have hby := Bd.bytes
  have hlk := Bd.notSynchronized
  have hrt := Bd.returns
  have hml : c.maxLocals = 13 := hml0
  have hown : s.vm.findClass "com/example/tallybound/tallybound/http/LinkFaultsIsProbabilityPinLaw" = some m.cls := findClass_of_methodNamed Bd.named
  have hnm := (name_of_methodNamed Bd.named Bd.method).1
  have X0 : Stand p l e room_1 s m #[(.int v0), (.int v1), (.int v2)] below meth c s₁ [] 0 0 := Stand.of_body Bd
  have e0 : s₁.heap = h0 := by rw [← hh, Bd.state]; rfl
  have N0 := Fr.nil n0
  refine own_in (own_ef0 m v0 v1 v2) ?_
  refine own_iloadN X0 hx 1 (hb hby at_0) rfl ?_
  refine own_ldcI X0 hx 3 hown (mvT hZ (hw _ (List.mem_of_getElem? (i := 0) rfl))) (hb hby at_1) ?_
  refine own_iand X0 hx 4 (hb hby at_3) ?_
  refine own_i2l X0 hx 5 (hb hby at_4) ?_
  refine own_lconst X0 hx 6 (1 : Int64) (hb hby at_5) rfl ?_
  refine own_ladd X0 hx 7 (hb hby at_6) ?_
  have hb1 := own_b1 v1
  generalize (((v1 &&& (65535 : Int32)).toInt64) + (1 : Int64)) = bb at hb1 ⊢
  refine own_lstoreN X0 hx 8 #[.val (.int v0), .val (.int v1), .val (.int v2), .val (.long bb), .second, .unset, .unset, .unset, .unset, .unset, .unset, .unset, .unset] (hb hby at_7) rfl ?_
  refine own_iloadN X0 hx 9 (hb hby at_8) rfl ?_
  refine own_iconst X0 hx 10 (1 : Int32) (hb hby at_9) rfl ?_
  refine own_iand X0 hx 11 (hb hby at_10) ?_
  by_cases hc11_1 : (v2 &&& (1 : Int32)) = (0 : Int32)
  · refine own_ifYes X0 hx 18 (hb hby at_11) (teq hc11_1).1 ?_
    refine own_iconst X0 hx 19 (0 : Int32) (hb hby at_18) rfl ?_
    refine own_istore X0 hx 21 #[.val (.int v0), .val (.int v1), .val (.int v2), .val (.long bb), .second, .val (.int (0 : Int32)), .unset, .unset, .unset, .unset, .unset, .unset, .unset] (hb hby at_19) rfl ?_
    refine own_iloadN X0 hx 22 (hb hby at_21) rfl ?_
    refine own_i2d X0 hx 23 (hb hby at_22) ?_
    refine own_lloadN X0 hx 24 (hb hby at_23) rfl ?_
    refine own_l2d X0 hx 25 (hb hby at_24) ?_
    refine own_ddiv X0 hx 26 (hb hby at_25) (own_nn1 hb1) ?_
    have hR : own_R v0.toInt64 bb (FP.ddiv (FP.i2d v0) (FP.l2d bb)) := own_r0 hb1
    generalize (FP.ddiv (FP.i2d v0) (FP.l2d bb)) = xx at hR ⊢
    refine own_dstore X0 hx 28 #[.val (.int v0), .val (.int v1), .val (.int v2), .val (.long bb), .second, .val (.int (0 : Int32)), .val (.double xx), .second, .unset, .unset, .unset, .unset, .unset] (hb hby at_26) rfl ?_
    refine own_iload X0 hx 30 (hb hby at_28) rfl ?_
    refine own_ifYes X0 hx 39 (hb hby at_30) (teq (rfl : (0 : Int32) = (0 : Int32))).1 ?_
    refine own_dload X0 hx 41 (hb hby at_39) rfl ?_
    refine own_dstore X0 hx 43 #[.val (.int v0), .val (.int v1), .val (.int v2), .val (.long bb), .second, .val (.int (0 : Int32)), .val (.double xx), .second, .val (.double xx), .second, .unset, .unset, .unset] (hb hby at_41) rfl ?_
    refine own_iload X0 hx 45 (hb hby at_43) rfl ?_
    refine own_ifYes X0 hx 54 (hb hby at_45) (teq (rfl : (0 : Int32) = (0 : Int32))).1 ?_
    refine own_iloadN X0 hx 55 (hb hby at_54) rfl ?_
    refine own_i2l X0 hx 56 (hb hby at_55) ?_
    refine own_lstore X0 hx 58 #[.val (.int v0), .val (.int v1), .val (.int v2), .val (.long bb), .second, .val (.int (0 : Int32)), .val (.double xx), .second, .val (.double xx), .second, .val (.long (v0.toInt64)), .second, .unset] (hb hby at_56) rfl ?_
    refine own_lload X0 hx 60 (hb hby at_58) rfl ?_
    refine own_lconst X0 hx 61 (0 : Int64) (hb hby at_60) rfl ?_
    refine own_lcmp X0 hx 62 (hb hby at_61) ?_
    by_cases hc62_2 : (v0.toInt64) < (0 : Int64)
    · refine own_ifYes X0 hx 76 (hb hby at_62) (tlt ((lw_lt _ _).mpr hc62_2)).1 ?_
      refine own_iconst X0 hx 77 (0 : Int32) (hb hby at_76) rfl ?_
      refine own_istore X0 hx 79 #[.val (.int v0), .val (.int v1), .val (.int v2), .val (.long bb), .second, .val (.int (0 : Int32)), .val (.double xx), .second, .val (.double xx), .second, .val (.long (v0.toInt64)), .second, .val (.int (0 : Int32))] (hb hby at_77) rfl ?_
      refine own_dload X0 hx 81 (hb hby at_79) rfl ?_
      obtain ⟨_, _, ⟨T3, Lx3, kc3, nc3⟩, -, X3, ⟨Lc3, hQ3, lq3, yq3, zq3⟩, st3⟩ := Jvm.LawKit.callS X0 hx (y := (⟨"com/example/tallybound/tallybound/http/LinkFaults", "isProbability", "(D)Z"⟩ : MethodName)) hown (mvT hZ (hw _ (List.mem_of_getElem? (i := 1) rfl))) (mvT hZ (hw _ (List.mem_of_getElem? (i := 2) rfl))) (mvT hZ (hw _ (List.mem_of_getElem? (i := 3) rfl))) (mvT hZ (hw _ (List.mem_of_getElem? (i := 4) rfl))) (by decide) (backOf (W := 0) (own_rm1a l Z a0 hw [] xx h0 n0 Z0 (own_p0 hR hb1 hc62_2 : cmpValue (FP.dcmp xx FP.dconst0) .l < 0)) hZ (hw _ (List.mem_of_getElem? (i := 4) rfl)) (hw _ (List.mem_of_getElem? (i := 3) rfl)) (by decide) (by decide)) (g := (mkF m 81 #[.val (.int v0), .val (.int v1), .val (.int v2), .val (.long bb), .second, .val (.int (0 : Int32)), .val (.double xx), .second, .val (.double xx), .second, .val (.long (v0.toInt64)), .second, .val (.int (0 : Int32))] [(.double xx)])) rfl (by rw [hml]; rfl) (argsL := [(.double xx)]) (rest := []) (lenOf own_pd0 rfl) rfl (by show 2 * 0 + _ ≤ _; exact Nat.le_of_eq rfl) (hb hby at_81) (fun _ _ => ⟨rfl, e0, (by decide : 0 + 0 ≤ _), (by decide : 0 + 0 ≤ _)⟩)
      dsimp only [Pt.U, Pt.locs, Pt.cells, Pt.slots] at X3 lq3 yq3 zq3 st3 hQ3
      subst lq3 yq3 zq3
      obtain ⟨rfl, Nq3, eh3⟩ := hQ3
      have N3 := Fr.app N0 Nq3
      refine own_st (G' := T3.setTop (mkF m 84 #[.val (.int v0), .val (.int v1), .val (.int v2), .val (.long bb), .second, .val (.int (0 : Int32)), .val (.double xx), .second, .val (.double xx), .second, .val (.long (v0.toInt64)), .second, .val (.int (0 : Int32))] [(.int (0 : Int32))])) st3 ?_
      refine own_iload X3 hx 86 (hb hby at_84) rfl ?_
      refine own_icmpNo X3 hx 89 (hb hby at_86) (teq (rfl : (0 : Int32) = (0 : Int32))).2 ?_
      refine own_iconst X3 hx 90 (1 : Int32) (hb hby at_89) rfl ?_
      refine own_goto X3 hx 94 (hb hby at_90) ?_
      exact own_retN (t := .boolean) (z := (1 : Int32)) (Q := own_Q0 Z v0 v1 v2 h0 n0) X3 hx hrt (by simp) (hb hby at_94) hlk eh3 ⟨rfl, N3⟩ (by decide) (by decide)
    · refine own_ifNo X0 hx 65 (hb hby at_62) (flt (mt (lw_lt _ _).mp hc62_2)).1 ?_
      refine own_lload X0 hx 67 (hb hby at_65) rfl ?_
      refine own_lloadN X0 hx 68 (hb hby at_67) rfl ?_
      refine own_lcmp X0 hx 69 (hb hby at_68) ?_
      by_cases hc69_4 : bb < (v0.toInt64)
      · refine own_ifYes X0 hx 76 (hb hby at_69) (tlt ((lw_gt _ _).mpr hc69_4)).2.2.1 ?_
        refine own_iconst X0 hx 77 (0 : Int32) (hb hby at_76) rfl ?_
        refine own_istore X0 hx 79 #[.val (.int v0), .val (.int v1), .val (.int v2), .val (.long bb), .second, .val (.int (0 : Int32)), .val (.double xx), .second, .val (.double xx), .second, .val (.long (v0.toInt64)), .second, .val (.int (0 : Int32))] (hb hby at_77) rfl ?_
        refine own_dload X0 hx 81 (hb hby at_79) rfl ?_
        obtain ⟨_, _, ⟨T5, Lx5, kc5, nc5⟩, -, X5, ⟨Lc5, hQ5, lq5, yq5, zq5⟩, st5⟩ := Jvm.LawKit.callS X0 hx (y := (⟨"com/example/tallybound/tallybound/http/LinkFaults", "isProbability", "(D)Z"⟩ : MethodName)) hown (mvT hZ (hw _ (List.mem_of_getElem? (i := 1) rfl))) (mvT hZ (hw _ (List.mem_of_getElem? (i := 2) rfl))) (mvT hZ (hw _ (List.mem_of_getElem? (i := 3) rfl))) (mvT hZ (hw _ (List.mem_of_getElem? (i := 4) rfl))) (by decide) (backOf (W := 0) (own_rm1c l Z a0 hw [] xx h0 n0 Z0 (own_p1 hR hb1 hc62_2 : ¬ cmpValue (FP.dcmp xx FP.dconst0) .l < 0) (own_p3 hR hb1 hc62_2 hc69_4 : 0 < cmpValue (FP.dcmp xx FP.dconst1) .g)) hZ (hw _ (List.mem_of_getElem? (i := 4) rfl)) (hw _ (List.mem_of_getElem? (i := 3) rfl)) (by decide) (by decide)) (g := (mkF m 81 #[.val (.int v0), .val (.int v1), .val (.int v2), .val (.long bb), .second, .val (.int (0 : Int32)), .val (.double xx), .second, .val (.double xx), .second, .val (.long (v0.toInt64)), .second, .val (.int (0 : Int32))] [(.double xx)])) rfl (by rw [hml]; rfl) (argsL := [(.double xx)]) (rest := []) (lenOf own_pd0 rfl) rfl (by show 2 * 0 + _ ≤ _; exact Nat.le_of_eq rfl) (hb hby at_81) (fun _ _ => ⟨rfl, e0, (by decide : 0 + 0 ≤ _), (by decide : 0 + 0 ≤ _)⟩)
        dsimp only [Pt.U, Pt.locs, Pt.cells, Pt.slots] at X5 lq5 yq5 zq5 st5 hQ5
        subst lq5 yq5 zq5
        obtain ⟨rfl, Nq5, eh5⟩ := hQ5
        have N5 := Fr.app N0 Nq5
        refine own_st (G' := T5.setTop (mkF m 84 #[.val (.int v0), .val (.int v1), .val (.int v2), .val (.long bb), .second, .val (.int (0 : Int32)), .val (.double xx), .second, .val (.double xx), .second, .val (.long (v0.toInt64)), .second, .val (.int (0 : Int32))] [(.int (0 : Int32))])) st5 ?_
        refine own_iload X5 hx 86 (hb hby at_84) rfl ?_
        refine own_icmpNo X5 hx 89 (hb hby at_86) (teq (rfl : (0 : Int32) = (0 : Int32))).2 ?_
        refine own_iconst X5 hx 90 (1 : Int32) (hb hby at_89) rfl ?_
        refine own_goto X5 hx 94 (hb hby at_90) ?_
        exact own_retN (t := .boolean) (z := (1 : Int32)) (Q := own_Q0 Z v0 v1 v2 h0 n0) X5 hx hrt (by simp) (hb hby at_94) hlk eh5 ⟨rfl, N5⟩ (by decide) (by decide)
      · refine own_ifNo X0 hx 72 (hb hby at_69) (flt (mt (lw_gt _ _).mp hc69_4)).2.2.1 ?_
        refine own_iconst X0 hx 73 (1 : Int32) (hb hby at_72) rfl ?_
        refine own_goto X0 hx 77 (hb hby at_73) ?_
        refine own_istore X0 hx 79 #[.val (.int v0), .val (.int v1), .val (.int v2), .val (.long bb), .second, .val (.int (0 : Int32)), .val (.double xx), .second, .val (.double xx), .second, .val (.long (v0.toInt64)), .second, .val (.int (1 : Int32))] (hb hby at_77) rfl ?_
        refine own_dload X0 hx 81 (hb hby at_79) rfl ?_
        obtain ⟨_, _, ⟨T6, Lx6, kc6, nc6⟩, -, X6, ⟨Lc6, hQ6, lq6, yq6, zq6⟩, st6⟩ := Jvm.LawKit.callS X0 hx (y := (⟨"com/example/tallybound/tallybound/http/LinkFaults", "isProbability", "(D)Z"⟩ : MethodName)) hown (mvT hZ (hw _ (List.mem_of_getElem? (i := 1) rfl))) (mvT hZ (hw _ (List.mem_of_getElem? (i := 2) rfl))) (mvT hZ (hw _ (List.mem_of_getElem? (i := 3) rfl))) (mvT hZ (hw _ (List.mem_of_getElem? (i := 4) rfl))) (by decide) (backOf (W := 0) (own_rm1b l Z a0 hw [] xx h0 n0 Z0 (own_p1 hR hb1 hc62_2 : ¬ cmpValue (FP.dcmp xx FP.dconst0) .l < 0) (own_p2 hR hb1 hc62_2 hc69_4 : ¬ 0 < cmpValue (FP.dcmp xx FP.dconst1) .g)) hZ (hw _ (List.mem_of_getElem? (i := 4) rfl)) (hw _ (List.mem_of_getElem? (i := 3) rfl)) (by decide) (by decide)) (g := (mkF m 81 #[.val (.int v0), .val (.int v1), .val (.int v2), .val (.long bb), .second, .val (.int (0 : Int32)), .val (.double xx), .second, .val (.double xx), .second, .val (.long (v0.toInt64)), .second, .val (.int (1 : Int32))] [(.double xx)])) rfl (by rw [hml]; rfl) (argsL := [(.double xx)]) (rest := []) (lenOf own_pd0 rfl) rfl (by show 2 * 0 + _ ≤ _; exact Nat.le_of_eq rfl) (hb hby at_81) (fun _ _ => ⟨rfl, e0, (by decide : 0 + 0 ≤ _), (by decide : 0 + 0 ≤ _)⟩)
        dsimp only [Pt.U, Pt.locs, Pt.cells, Pt.slots] at X6 lq6 yq6 zq6 st6 hQ6
        subst lq6 yq6 zq6
        obtain ⟨rfl, Nq6, eh6⟩ := hQ6
        have N6 := Fr.app N0 Nq6
        refine own_st (G' := T6.setTop (mkF m 84 #[.val (.int v0), .val (.int v1), .val (.int v2), .val (.long bb), .second, .val (.int (0 : Int32)), .val (.double xx), .second, .val (.double xx), .second, .val (.long (v0.toInt64)), .second, .val (.int (1 : Int32))] [(.int (1 : Int32))])) st6 ?_
        refine own_iload X6 hx 86 (hb hby at_84) rfl ?_
        refine own_icmpNo X6 hx 89 (hb hby at_86) (teq (rfl : (1 : Int32) = (1 : Int32))).2 ?_
        refine own_iconst X6 hx 90 (1 : Int32) (hb hby at_89) rfl ?_
        refine own_goto X6 hx 94 (hb hby at_90) ?_
        exact own_retN (t := .boolean) (z := (1 : Int32)) (Q := own_Q0 Z v0 v1 v2 h0 n0) X6 hx hrt (by simp) (hb hby at_94) hlk eh6 ⟨rfl, N6⟩ (by decide) (by decide)
  · refine own_ifNo X0 hx 14 (hb hby at_11) (feq hc11_1).1 ?_
    refine own_iconst X0 hx 15 (1 : Int32) (hb hby at_14) rfl ?_
    refine own_goto X0 hx 19 (hb hby at_15) ?_
    refine own_istore X0 hx 21 #[.val (.int v0), .val (.int v1), .val (.int v2), .val (.long bb), .second, .val (.int (1 : Int32)), .unset, .unset, .unset, .unset, .unset, .unset, .unset] (hb hby at_19) rfl ?_
    refine own_iloadN X0 hx 22 (hb hby at_21) rfl ?_
    refine own_i2d X0 hx 23 (hb hby at_22) ?_
    refine own_lloadN X0 hx 24 (hb hby at_23) rfl ?_
    refine own_l2d X0 hx 25 (hb hby at_24) ?_
    refine own_ddiv X0 hx 26 (hb hby at_25) (own_nn1 hb1) ?_
    have hR : own_R v0.toInt64 bb (FP.ddiv (FP.i2d v0) (FP.l2d bb)) := own_r0 hb1
    generalize (FP.ddiv (FP.i2d v0) (FP.l2d bb)) = xx at hR ⊢
    refine own_dstore X0 hx 28 #[.val (.int v0), .val (.int v1), .val (.int v2), .val (.long bb), .second, .val (.int (1 : Int32)), .val (.double xx), .second, .unset, .unset, .unset, .unset, .unset] (hb hby at_26) rfl ?_
    refine own_iload X0 hx 30 (hb hby at_28) rfl ?_
    refine own_ifNo X0 hx 33 (hb hby at_30) (feq (by decide : ¬ ((1 : Int32) = (0 : Int32)))).1 ?_
    refine own_dload X0 hx 35 (hb hby at_33) rfl ?_
    refine own_dneg X0 hx 36 (hb hby at_35) ?_
    refine own_goto X0 hx 41 (hb hby at_36) ?_
    refine own_dstore X0 hx 43 #[.val (.int v0), .val (.int v1), .val (.int v2), .val (.long bb), .second, .val (.int (1 : Int32)), .val (.double xx), .second, .val (.double (FP.dneg xx)), .second, .unset, .unset, .unset] (hb hby at_41) rfl ?_
    refine own_iload X0 hx 45 (hb hby at_43) rfl ?_
    refine own_ifNo X0 hx 48 (hb hby at_45) (feq (by decide : ¬ ((1 : Int32) = (0 : Int32)))).1 ?_
    refine own_iloadN X0 hx 49 (hb hby at_48) rfl ?_
    refine own_i2l X0 hx 50 (hb hby at_49) ?_
    refine own_lneg X0 hx 51 (hb hby at_50) ?_
    refine own_goto X0 hx 56 (hb hby at_51) ?_
    refine own_lstore X0 hx 58 #[.val (.int v0), .val (.int v1), .val (.int v2), .val (.long bb), .second, .val (.int (1 : Int32)), .val (.double xx), .second, .val (.double (FP.dneg xx)), .second, .val (.long (-(v0.toInt64))), .second, .unset] (hb hby at_56) rfl ?_
    refine own_lload X0 hx 60 (hb hby at_58) rfl ?_
    refine own_lconst X0 hx 61 (0 : Int64) (hb hby at_60) rfl ?_
    refine own_lcmp X0 hx 62 (hb hby at_61) ?_
    by_cases hc62_7 : (-(v0.toInt64)) < (0 : Int64)
    · refine own_ifYes X0 hx 76 (hb hby at_62) (tlt ((lw_lt _ _).mpr hc62_7)).1 ?_
      refine own_iconst X0 hx 77 (0 : Int32) (hb hby at_76) rfl ?_
      refine own_istore X0 hx 79 #[.val (.int v0), .val (.int v1), .val (.int v2), .val (.long bb), .second, .val (.int (1 : Int32)), .val (.double xx), .second, .val (.double (FP.dneg xx)), .second, .val (.long (-(v0.toInt64))), .second, .val (.int (0 : Int32))] (hb hby at_77) rfl ?_
      refine own_dload X0 hx 81 (hb hby at_79) rfl ?_
      obtain ⟨_, _, ⟨T8, Lx8, kc8, nc8⟩, -, X8, ⟨Lc8, hQ8, lq8, yq8, zq8⟩, st8⟩ := Jvm.LawKit.callS X0 hx (y := (⟨"com/example/tallybound/tallybound/http/LinkFaults", "isProbability", "(D)Z"⟩ : MethodName)) hown (mvT hZ (hw _ (List.mem_of_getElem? (i := 1) rfl))) (mvT hZ (hw _ (List.mem_of_getElem? (i := 2) rfl))) (mvT hZ (hw _ (List.mem_of_getElem? (i := 3) rfl))) (mvT hZ (hw _ (List.mem_of_getElem? (i := 4) rfl))) (by decide) (backOf (W := 0) (own_rm1a l Z a0 hw [] (FP.dneg xx) h0 n0 Z0 (own_p0 (own_rn hR) hb1 hc62_7 : cmpValue (FP.dcmp (FP.dneg xx) FP.dconst0) .l < 0)) hZ (hw _ (List.mem_of_getElem? (i := 4) rfl)) (hw _ (List.mem_of_getElem? (i := 3) rfl)) (by decide) (by decide)) (g := (mkF m 81 #[.val (.int v0), .val (.int v1), .val (.int v2), .val (.long bb), .second, .val (.int (1 : Int32)), .val (.double xx), .second, .val (.double (FP.dneg xx)), .second, .val (.long (-(v0.toInt64))), .second, .val (.int (0 : Int32))] [(.double (FP.dneg xx))])) rfl (by rw [hml]; rfl) (argsL := [(.double (FP.dneg xx))]) (rest := []) (lenOf own_pd0 rfl) rfl (by show 2 * 0 + _ ≤ _; exact Nat.le_of_eq rfl) (hb hby at_81) (fun _ _ => ⟨rfl, e0, (by decide : 0 + 0 ≤ _), (by decide : 0 + 0 ≤ _)⟩)
      dsimp only [Pt.U, Pt.locs, Pt.cells, Pt.slots] at X8 lq8 yq8 zq8 st8 hQ8
      subst lq8 yq8 zq8
      obtain ⟨rfl, Nq8, eh8⟩ := hQ8
      have N8 := Fr.app N0 Nq8
      refine own_st (G' := T8.setTop (mkF m 84 #[.val (.int v0), .val (.int v1), .val (.int v2), .val (.long bb), .second, .val (.int (1 : Int32)), .val (.double xx), .second, .val (.double (FP.dneg xx)), .second, .val (.long (-(v0.toInt64))), .second, .val (.int (0 : Int32))] [(.int (0 : Int32))])) st8 ?_
      refine own_iload X8 hx 86 (hb hby at_84) rfl ?_
      refine own_icmpNo X8 hx 89 (hb hby at_86) (teq (rfl : (0 : Int32) = (0 : Int32))).2 ?_
      refine own_iconst X8 hx 90 (1 : Int32) (hb hby at_89) rfl ?_
      refine own_goto X8 hx 94 (hb hby at_90) ?_
      exact own_retN (t := .boolean) (z := (1 : Int32)) (Q := own_Q0 Z v0 v1 v2 h0 n0) X8 hx hrt (by simp) (hb hby at_94) hlk eh8 ⟨rfl, N8⟩ (by decide) (by decide)
    · refine own_ifNo X0 hx 65 (hb hby at_62) (flt (mt (lw_lt _ _).mp hc62_7)).1 ?_
      refine own_lload X0 hx 67 (hb hby at_65) rfl ?_
      refine own_lloadN X0 hx 68 (hb hby at_67) rfl ?_
      refine own_lcmp X0 hx 69 (hb hby at_68) ?_
      by_cases hc69_9 : bb < (-(v0.toInt64))
      · refine own_ifYes X0 hx 76 (hb hby at_69) (tlt ((lw_gt _ _).mpr hc69_9)).2.2.1 ?_
        refine own_iconst X0 hx 77 (0 : Int32) (hb hby at_76) rfl ?_
        refine own_istore X0 hx 79 #[.val (.int v0), .val (.int v1), .val (.int v2), .val (.long bb), .second, .val (.int (1 : Int32)), .val (.double xx), .second, .val (.double (FP.dneg xx)), .second, .val (.long (-(v0.toInt64))), .second, .val (.int (0 : Int32))] (hb hby at_77) rfl ?_
        refine own_dload X0 hx 81 (hb hby at_79) rfl ?_
        obtain ⟨_, _, ⟨T10, Lx10, kc10, nc10⟩, -, X10, ⟨Lc10, hQ10, lq10, yq10, zq10⟩, st10⟩ := Jvm.LawKit.callS X0 hx (y := (⟨"com/example/tallybound/tallybound/http/LinkFaults", "isProbability", "(D)Z"⟩ : MethodName)) hown (mvT hZ (hw _ (List.mem_of_getElem? (i := 1) rfl))) (mvT hZ (hw _ (List.mem_of_getElem? (i := 2) rfl))) (mvT hZ (hw _ (List.mem_of_getElem? (i := 3) rfl))) (mvT hZ (hw _ (List.mem_of_getElem? (i := 4) rfl))) (by decide) (backOf (W := 0) (own_rm1c l Z a0 hw [] (FP.dneg xx) h0 n0 Z0 (own_p1 (own_rn hR) hb1 hc62_7 : ¬ cmpValue (FP.dcmp (FP.dneg xx) FP.dconst0) .l < 0) (own_p3 (own_rn hR) hb1 hc62_7 hc69_9 : 0 < cmpValue (FP.dcmp (FP.dneg xx) FP.dconst1) .g)) hZ (hw _ (List.mem_of_getElem? (i := 4) rfl)) (hw _ (List.mem_of_getElem? (i := 3) rfl)) (by decide) (by decide)) (g := (mkF m 81 #[.val (.int v0), .val (.int v1), .val (.int v2), .val (.long bb), .second, .val (.int (1 : Int32)), .val (.double xx), .second, .val (.double (FP.dneg xx)), .second, .val (.long (-(v0.toInt64))), .second, .val (.int (0 : Int32))] [(.double (FP.dneg xx))])) rfl (by rw [hml]; rfl) (argsL := [(.double (FP.dneg xx))]) (rest := []) (lenOf own_pd0 rfl) rfl (by show 2 * 0 + _ ≤ _; exact Nat.le_of_eq rfl) (hb hby at_81) (fun _ _ => ⟨rfl, e0, (by decide : 0 + 0 ≤ _), (by decide : 0 + 0 ≤ _)⟩)
        dsimp only [Pt.U, Pt.locs, Pt.cells, Pt.slots] at X10 lq10 yq10 zq10 st10 hQ10
        subst lq10 yq10 zq10
        obtain ⟨rfl, Nq10, eh10⟩ := hQ10
        have N10 := Fr.app N0 Nq10
        refine own_st (G' := T10.setTop (mkF m 84 #[.val (.int v0), .val (.int v1), .val (.int v2), .val (.long bb), .second, .val (.int (1 : Int32)), .val (.double xx), .second, .val (.double (FP.dneg xx)), .second, .val (.long (-(v0.toInt64))), .second, .val (.int (0 : Int32))] [(.int (0 : Int32))])) st10 ?_
        refine own_iload X10 hx 86 (hb hby at_84) rfl ?_
        refine own_icmpNo X10 hx 89 (hb hby at_86) (teq (rfl : (0 : Int32) = (0 : Int32))).2 ?_
        refine own_iconst X10 hx 90 (1 : Int32) (hb hby at_89) rfl ?_
        refine own_goto X10 hx 94 (hb hby at_90) ?_
        exact own_retN (t := .boolean) (z := (1 : Int32)) (Q := own_Q0 Z v0 v1 v2 h0 n0) X10 hx hrt (by simp) (hb hby at_94) hlk eh10 ⟨rfl, N10⟩ (by decide) (by decide)
      · refine own_ifNo X0 hx 72 (hb hby at_69) (flt (mt (lw_gt _ _).mp hc69_9)).2.2.1 ?_
        refine own_iconst X0 hx 73 (1 : Int32) (hb hby at_72) rfl ?_
        refine own_goto X0 hx 77 (hb hby at_73) ?_
        refine own_istore X0 hx 79 #[.val (.int v0), .val (.int v1), .val (.int v2), .val (.long bb), .second, .val (.int (1 : Int32)), .val (.double xx), .second, .val (.double (FP.dneg xx)), .second, .val (.long (-(v0.toInt64))), .second, .val (.int (1 : Int32))] (hb hby at_77) rfl ?_
        refine own_dload X0 hx 81 (hb hby at_79) rfl ?_
        obtain ⟨_, _, ⟨T11, Lx11, kc11, nc11⟩, -, X11, ⟨Lc11, hQ11, lq11, yq11, zq11⟩, st11⟩ := Jvm.LawKit.callS X0 hx (y := (⟨"com/example/tallybound/tallybound/http/LinkFaults", "isProbability", "(D)Z"⟩ : MethodName)) hown (mvT hZ (hw _ (List.mem_of_getElem? (i := 1) rfl))) (mvT hZ (hw _ (List.mem_of_getElem? (i := 2) rfl))) (mvT hZ (hw _ (List.mem_of_getElem? (i := 3) rfl))) (mvT hZ (hw _ (List.mem_of_getElem? (i := 4) rfl))) (by decide) (backOf (W := 0) (own_rm1b l Z a0 hw [] (FP.dneg xx) h0 n0 Z0 (own_p1 (own_rn hR) hb1 hc62_7 : ¬ cmpValue (FP.dcmp (FP.dneg xx) FP.dconst0) .l < 0) (own_p2 (own_rn hR) hb1 hc62_7 hc69_9 : ¬ 0 < cmpValue (FP.dcmp (FP.dneg xx) FP.dconst1) .g)) hZ (hw _ (List.mem_of_getElem? (i := 4) rfl)) (hw _ (List.mem_of_getElem? (i := 3) rfl)) (by decide) (by decide)) (g := (mkF m 81 #[.val (.int v0), .val (.int v1), .val (.int v2), .val (.long bb), .second, .val (.int (1 : Int32)), .val (.double xx), .second, .val (.double (FP.dneg xx)), .second, .val (.long (-(v0.toInt64))), .second, .val (.int (1 : Int32))] [(.double (FP.dneg xx))])) rfl (by rw [hml]; rfl) (argsL := [(.double (FP.dneg xx))]) (rest := []) (lenOf own_pd0 rfl) rfl (by show 2 * 0 + _ ≤ _; exact Nat.le_of_eq rfl) (hb hby at_81) (fun _ _ => ⟨rfl, e0, (by decide : 0 + 0 ≤ _), (by decide : 0 + 0 ≤ _)⟩)
        dsimp only [Pt.U, Pt.locs, Pt.cells, Pt.slots] at X11 lq11 yq11 zq11 st11 hQ11
        subst lq11 yq11 zq11
        obtain ⟨rfl, Nq11, eh11⟩ := hQ11
        have N11 := Fr.app N0 Nq11
        refine own_st (G' := T11.setTop (mkF m 84 #[.val (.int v0), .val (.int v1), .val (.int v2), .val (.long bb), .second, .val (.int (1 : Int32)), .val (.double xx), .second, .val (.double (FP.dneg xx)), .second, .val (.long (-(v0.toInt64))), .second, .val (.int (1 : Int32))] [(.int (1 : Int32))])) st11 ?_
        refine own_iload X11 hx 86 (hb hby at_84) rfl ?_
        refine own_icmpNo X11 hx 89 (hb hby at_86) (teq (rfl : (1 : Int32) = (1 : Int32))).2 ?_
        refine own_iconst X11 hx 90 (1 : Int32) (hb hby at_89) rfl ?_
        refine own_goto X11 hx 94 (hb hby at_90) ?_
        exact own_retN (t := .boolean) (z := (1 : Int32)) (Q := own_Q0 Z v0 v1 v2 h0 n0) X11 hx hrt (by simp) (hb hby at_94) hlk eh11 ⟨rfl, N11⟩ (by decide) (by decide)
set_option maxRecDepth 65536 in
set_option maxHeartbeats 40000000 in
theorem own_comes {Post : Tables → Env → Array Value → State → Outcome → State → Prop} (hpost : ∀ tb e args s v u, (limb_1_1.after args s (.returned v) u = true ∧ limb_1_2.after args s (.returned v) u = true ∧ True) → FrameEnd s (.returned v) u (Jvm.fieldLocs frame_1_writes args s ++ Jvm.arrayLocs frame_1_arrays args s ++ Jvm.staticLocs frame_1_statics s) 0 0 → Post tb e args s (.returned v) u) :
    ArmFor flags0 classFile x code maxLocals ret World_1 tables_1 room_1 Calls_1 rest_1 Pre_1 Post := by
  intro l hfl _ _ p e ha hc hk s m args below hf hA hF happ hP
  obtain ⟨hcalls, hrest, hpre⟩ := hP
  obtain ⟨-, -, -, hnamed, -, -, -, hat⟩ := (Spec.applies_iff hf).mp happ
  obtain ⟨hg, hn⟩ := and_e (Cond.before_iff.mp (show (Jvm.Cond.and given_1 narrow_1).before args s = true from hpre))
  obtain ⟨g1, g2⟩ := and_e hg
  obtain ⟨g3, g4⟩ := and_e g2
  obtain ⟨g5, g6⟩ := and_e g4
  obtain ⟨w0, w1, w2, rfl⟩ : ∃ w0 w1 w2 : Value, args = #[w0, w1, w2] := by
    have hs : args.size = 3 := by simpa [Cond.value, given_1] using g1
    obtain ⟨L⟩ := args
    match L, hs with
    | [w0, w1, w2], _ => exact ⟨w0, w1, w2, rfl⟩
  have hw := fun d (hd : d ∈ tables_1) => atoms_spec (ws := Jvm.Cond.code x code maxLocals ret :: tables_1) hat d (List.mem_cons_of_mem _ hd)
  have hfit : Fit s := fun {y c} hc i hi => by
    obtain ⟨ha, rfl⟩ := Array.getElem?_eq_some_iff.mp hc
    have q := List.all_eq_true.mp ((Array.all_eq_true_iff_forall_mem.mp hF) _ (Array.getElem_mem ha)) i (List.mem_range.mpr hi)
    simpa [Array.getElem?_eq_getElem hi] using q
  obtain ⟨i0, ei0⟩ := is_v g3
  obtain rfl : w0 = (.int i0) := Option.some.inj ei0
  obtain ⟨i1, ei1⟩ := is_v g5
  obtain rfl : w1 = (.int i1) := Option.some.inj ei1
  obtain ⟨i2, ei2⟩ := is_v g6
  obtain rfl : w2 = (.int i2) := Option.some.inj ei2
  obtain ⟨n, o, h1, h2, h3, _, L, rfl, ⟨rfl, N⟩, hq⟩ := own_rm0 l s _ hw tables_1 i0 i1 i2 s.heap s.heap.size (Nat.le_refl _)  p e ha hc hk s m _ below hf ((Spec.applies_iff_loose hf).mp happ).1 ⟨rfl, State.Warmed39.refl s, rfl⟩ trivial
  refine ⟨n, _, h1, h2, h3, hpost _ _ _ _ _ _ ⟨Cond.after_iff.mpr rfl, Cond.after_iff.mpr (eq_i res_at (Term.int_eval (1)) rfl), trivial⟩ ⟨hq.1, hq.2.1, (hq.2.2.sift fun y hy => Or.inr (N y hy)).mono (by decide) (by decide)⟩⟩
theorem main_1_1 : Claimed_1_1 := own_comes fun _ _ _ _ _ _ h hF => ⟨h.1, hF⟩
theorem main_1_2 : Claimed_1_2 := own_comes fun _ _ _ _ _ _ h hF => ⟨h.2.1, hF⟩
end Jvm.Pilot.@@N@@
namespace Jvm.Pilot.@@N@@
open Jvm Jvm.ClassFile Sem Op Lib Jvm.Free Jvm.Stand Jvm.Pilot.@@N@@.Jvm.D
/-! MADE BY PROGRAM (witnessworld.py) out of the Statement's table words and the real class files: 9 classes; the members and pool entries that the words name. The judged class is class 1, her method 1. -/
namespace start1
open Jvm.ClassFile
def u (s : String) : CpInfo := .utf8 (stringToUtf16 s)
/-- a pool by its gaps: so many unusable entries, then the entry; so many at the end -/
def gap : Nat → List CpInfo → List CpInfo
  | 0, r => r
  | n + 1, r => .unusable :: gap n r
def poolList (es : List (Nat × CpInfo)) (last : Nat) : List CpInfo := es.foldr (fun e r => gap e.1 (e.2 :: r)) (gap last [])
def pool (es : List (Nat × CpInfo)) (last : Nat) : Array CpInfo := ⟨poolList es last⟩
def fileOf (pool : Array CpInfo) (this : Nat) (attrs : Array Attribute := #[]) (ms : Array MethodInfo := #[]) (fl : Nat := 33) (sup : Nat := 0) (ifs : Array Nat := #[]) (fds : Array FieldInfo := #[]) : ClassFile where
  minorVersion := 0
  majorVersion := 65
  constantPool := pool
  accessFlags := fl
  thisClass := this
  superClass := sup
  interfaces := ifs
  fields := fds
  methods := ms
  attributes := attrs
def plain (name : String) (sup : Option ClassId) : Class where
  name := name
  kind := .ordinary
  loader := none
  accessFlags := 33
  super := sup
  interfaces := #[]
  cf := none
  fields := #[]
  methods := #[]
  instanceTypes := #[]
  staticTypes := #[]
  resolved := #[]
  callSites := []
  init := .initialized
  statics := none
  mirror := none

def pool0 : Array CpInfo := pool [(5, u "<init>"), (0, u "()V"), (1, .class_ 10), (1, u "java/lang/Object")] 113

def k0m0 : Method := { name := "<init>", desc := "()V", sig := { parameters := [], returnType := none }, accessFlags := 1, code := none }
/-- java/lang/Object -/
def k0 : Class := { plain "java/lang/Object" none with
  accessFlags := 33
  interfaces := #[]
  cf := some (fileOf pool0 8 #[] #[{ accessFlags := 1, nameIndex := 5, descriptorIndex := 6, attributes := #[] }] 33 0 #[] #[])
  fields := #[]
  methods := #[k0m0]
  instanceTypes := #[]
  staticTypes := #[]
  resolved := Array.replicate 124 none
  statics := none }

def pool1 : Array CpInfo := pool [(2, .class_ 4), (1, u "java/lang/Object"), (0, u "<init>"), (0, u "()V"), (0, .integer 65535), (0, .methodref 9 10), (0, .class_ 11), (0, .nameAndType 12 13), (0, u "com/example/tallybound/tallybound/http/LinkFaults"), (0, u "isProbability"), (0, u "(D)Z"), (0, .class_ 15), (0, u "com/example/tallybound/tallybound/http/LinkFaultsIsProbabilityPinLaw"), (2, u "law"), (0, u "(III)Z")] 3

def k1m0 : Method := { name := "<init>", desc := "()V", sig := { parameters := [], returnType := none }, accessFlags := 1, code := none }
def k1c1 : Code := { maxStack := 4, maxLocals := 13, code := code, exceptionTable := #[], attributes := #[] }
def k1m1 : Method := { name := "law", desc := "(III)Z", sig := { parameters := [.int, .int, .int], returnType := some .boolean }, accessFlags := 9, code := some k1c1 }
/-- com/example/tallybound/tallybound/http/LinkFaultsIsProbabilityPinLaw -/
def k1 : Class := { plain "com/example/tallybound/tallybound/http/LinkFaultsIsProbabilityPinLaw" (some 0) with
  accessFlags := 49
  interfaces := #[]
  cf := some (fileOf pool1 14 #[] #[{ accessFlags := 1, nameIndex := 5, descriptorIndex := 6, attributes := #[] }, { accessFlags := 9, nameIndex := 18, descriptorIndex := 19, attributes := #[] }] 49 2 #[] #[])
  fields := #[]
  methods := #[k1m0, k1m1]
  instanceTypes := #[]
  staticTypes := #[]
  resolved := Array.replicate 23 none
  statics := none }

def pool2 : Array CpInfo := pool [(8, .class_ 10), (1, u "com/example/tallybound/tallybound/http/LinkFaults"), (2, .class_ 14), (0, u "java/lang/Object"), (2, u "isProbability"), (0, u "(D)Z"), (18, u "drop"), (0, u "D"), (2, u "repeat"), (2, u "minDelayMillis"), (0, u "J"), (2, u "maxDelayMillis"), (2, u "random"), (0, u "Ljava/util/Random;"), (8, u "CLEAN"), (0, u "Lcom/example/tallybound/tallybound/http/LinkFaults$Fate;"), (8, .class_ 72), (0, u "com/example/tallybound/tallybound/http/LinkFaults$Fate"), (15, u "NONE"), (0, u "Lcom/example/tallybound/tallybound/http/LinkFaults;"), (0, u "MAX_DELAY_MILLIS")] 32

def k2c0 : Code := { maxStack := 4, maxLocals := 2, code := prog_50_method_3_code, exceptionTable := #[], attributes := #[] }
def k2m0 : Method := { name := "isProbability", desc := "(D)Z", sig := { parameters := [.double], returnType := some .boolean }, accessFlags := 9, code := some k2c0 }
/-- com/example/tallybound/tallybound/http/LinkFaults -/
def k2 : Class := { plain "com/example/tallybound/tallybound/http/LinkFaults" (some 0) with
  accessFlags := 49
  interfaces := #[]
  cf := some (fileOf pool2 8 #[.nestMembers #[71]] #[{ accessFlags := 9, nameIndex := 17, descriptorIndex := 18, attributes := #[] }] 49 13 #[] #[{ accessFlags := 25, nameIndex := 88, descriptorIndex := 89, attributes := #[] }, { accessFlags := 25, nameIndex := 90, descriptorIndex := 45, attributes := #[] }, { accessFlags := 26, nameIndex := 61, descriptorIndex := 62, attributes := #[] }, { accessFlags := 18, nameIndex := 37, descriptorIndex := 38, attributes := #[] }, { accessFlags := 18, nameIndex := 41, descriptorIndex := 38, attributes := #[] }, { accessFlags := 18, nameIndex := 44, descriptorIndex := 45, attributes := #[] }, { accessFlags := 18, nameIndex := 48, descriptorIndex := 45, attributes := #[] }, { accessFlags := 18, nameIndex := 51, descriptorIndex := 52, attributes := #[] }])
  fields := #[{ name := "NONE", type := (.object "com/example/tallybound/tallybound/http/LinkFaults"), accessFlags := 25, slot := 0, constantValue := 0 }, { name := "MAX_DELAY_MILLIS", type := .long, accessFlags := 25, slot := 1, constantValue := 0 }, { name := "CLEAN", type := (.object "com/example/tallybound/tallybound/http/LinkFaults$Fate"), accessFlags := 26, slot := 2, constantValue := 0 }, { name := "drop", type := .double, accessFlags := 18, slot := 0, constantValue := 0 }, { name := "repeat", type := .double, accessFlags := 18, slot := 1, constantValue := 0 }, { name := "minDelayMillis", type := .long, accessFlags := 18, slot := 2, constantValue := 0 }, { name := "maxDelayMillis", type := .long, accessFlags := 18, slot := 3, constantValue := 0 }, { name := "random", type := (.object "java/util/Random"), accessFlags := 18, slot := 4, constantValue := 0 }]
  methods := #[k2m0]
  instanceTypes := #[.double, .double, .long, .long, (.object "java/util/Random")]
  staticTypes := #[(.object "com/example/tallybound/tallybound/http/LinkFaults"), .long, (.object "com/example/tallybound/tallybound/http/LinkFaults$Fate")]
  resolved := Array.replicate 123 none
  statics := none }

def pool3 : Array CpInfo := pool [(1, u "java/lang/Cloneable"), (0, .class_ 1), (0, u "java/lang/Object"), (0, .class_ 3)] 3

/-- java/lang/Cloneable -/
def k3 : Class := { plain "java/lang/Cloneable" (some 0) with
  accessFlags := 1537
  interfaces := #[]
  cf := some (fileOf pool3 2 #[] #[] 1537 4 #[] #[])
  fields := #[]
  methods := #[]
  instanceTypes := #[]
  staticTypes := #[]
  resolved := Array.replicate 8 none
  statics := none }

def pool4 : Array CpInfo := pool [(1, u "java/io/Serializable"), (0, .class_ 1), (0, u "java/lang/Object"), (0, .class_ 3)] 3

/-- java/io/Serializable -/
def k4 : Class := { plain "java/io/Serializable" (some 0) with
  accessFlags := 1537
  interfaces := #[]
  cf := some (fileOf pool4 2 #[] #[] 1537 4 #[] #[])
  fields := #[]
  methods := #[]
  instanceTypes := #[]
  staticTypes := #[]
  resolved := Array.replicate 8 none
  statics := none }

/-- the primitive byte -/
def k5 : Class := { plain "byte" none with kind := .primitive 'B', accessFlags := 0x411 }
/-- [B -/
def k6 : Class := { plain "[B" (some 0) with kind := .array 5 .byte, interfaces := #[3, 4], accessFlags := 1041 }

/-- the primitive int -/
def k7 : Class := { plain "int" none with kind := .primitive 'I', accessFlags := 0x411 }
/-- [I -/
def k8 : Class := { plain "[I" (some 0) with kind := .array 7 .int, interfaces := #[3, 4], accessFlags := 1041 }

def heap : Heap := #[]
def classes : Array Class := #[k0, k1, k2, k3, k4, k5, k6, k7, k8]
def interned : List (Array UInt16 × Addr) := []
def slotsUsed : Nat := 0
def theMethod : MethodId := ⟨1, 1⟩
def args0 : Array Value := #[.int 3, .int 5, .int 1]
def aboutOver (below : List Frame) : State where
  vm := { classes := classes, interned := interned.toArray }
  heap := heap
  slotsUsed := slotsUsed
  threads := #[{ frames := .invoking theMethod args0 :: below }]
def below0 : List Frame := [.native { method := ⟨0, 0⟩, args := #[] }]
def about1 : State := aboutOver below0
def p0 : Program := .bare "" "" ""
def e0 : Env := launch0.env 0 0 0
theorem w_frames : about1.frames = Frame.invoking theMethod args0 :: below0 := rfl
set_option maxRecDepth 65536 in
theorem w_args : argsFit about1.vm theMethod args0 = true := by decide +kernel
set_option maxRecDepth 65536 in
theorem w_heap : heapFits about1 = true := by decide +kernel
set_option maxRecDepth 65536 in
theorem w_runnable : about1.curStatus? = some .runnable := by decide +kernel
set_option maxRecDepth 65536 in
theorem w_alone : about1.alone = true := by decide +kernel
set_option maxRecDepth 65536 in
theorem w_named : about1.methodNamed? x = some theMethod := by decide +kernel
set_option maxRecDepth 65536 in
theorem w_hears : about1.hears theMethod below0 = true := by decide +kernel
set_option maxRecDepth 65536 in
theorem w_ripe : about1.ripe theMethod args0 below0 = true := by decide +kernel
theorem w_running : about1.status = .running := rfl
set_option maxRecDepth 65536 in
theorem w_room : about1.hasRoom e0.platform room_1 = true :=
  launch0.hasRoom_least _ room_1 (by decide +kernel) (by decide +kernel) (by decide +kernel) (by decide +kernel) (by decide +kernel) (by decide +kernel)
theorem allAtoms_all (ts : List Jvm.Cond) (a : Array Jvm.Value) (st : Jvm.State) : (allAtoms ts).before a st = ts.all (fun c => c.before a st) := by
  induction ts with
  | nil => rfl
  | cons c t ih =>
    show (Jvm.Cond.and c (allAtoms t)).before a st = _
    rw [Jvm.Cond.before_and, ih, List.all_cons]
def words1 : List Jvm.Cond := Jvm.Cond.code x code maxLocals ret :: tables_1
/-- a 'code' word, met by the world's own term for the bytes: nothing is compared byte by byte -/
theorem code_word {y : MethodName} {bytes : ByteArray} {mx : Nat} {rt : Option FieldType} {a : Array Value} {s : State} {m : MethodId} {meth : Method} {c : Code} (h1 : s.methodNamed? y = some m) (h2 : s.vm.method? m = some meth) (h3 : meth.code = some c) (h4 : c.code = bytes)
    (h5 : (c.maxLocals == mx && c.exceptionTable.isEmpty && decide (c.maxStack ≤ mostOperands) && decide (meth.sig.returnType = rt) && !meth.locks && decide (parseMethodDescriptor y.desc = some meth.sig)) = true) : (Jvm.Cond.code y bytes mx rt).before a s = true := by
  simp only [Bool.and_eq_true, beq_iff_eq, Bool.not_eq_true', decide_eq_true_eq] at h5
  obtain ⟨⟨⟨⟨⟨g1, g2⟩, g3⟩, g4⟩, g5⟩, g6⟩ := h5
  simp [Cond.before, Cond.holds, Cond.value, h1, h2, h3, h4, g1, g2, g3, g4, g5, g6]
def isCode : Jvm.Cond → Bool
  | .code _ _ _ _ => true
  | _ => false
theorem all_split {L : List Jvm.Cond} {P : Jvm.Cond → Bool} (h1 : L.all (fun c => isCode c || P c) = true) (h2 : ∀ c ∈ L.filter isCode, P c = true) : L.all P = true := by
  refine List.all_eq_true.mpr fun c hc => ?_
  have h := List.all_eq_true.mp h1 c hc
  rcases Bool.eq_false_or_eq_true (isCode c) with hi | hi
  · exact h2 c (List.mem_filter.mpr ⟨hc, hi⟩)
  · simpa [hi] using h
set_option maxRecDepth 65536 in
theorem w_c0 : (Jvm.Cond.code x code maxLocals ret).before args0 about1 = true := code_word (m := ⟨1, 1⟩) (meth := k1m1) (c := k1c1) (by decide +kernel) rfl rfl rfl (by decide +kernel)
set_option maxRecDepth 65536 in
theorem w_c1 : (Jvm.Cond.code ({ cls := "com/example/tallybound/tallybound/http/LinkFaults", name := "isProbability", desc := "(D)Z" } : Jvm.MethodName) prog_50_method_3_code (2 : Nat) (Option.some Jvm.ClassFile.FieldType.boolean)).before args0 about1 = true := code_word (m := ⟨2, 0⟩) (meth := k2m0) (c := k2c0) (by decide +kernel) rfl rfl rfl (by decide +kernel)
def codes1 : List Jvm.Cond := [Jvm.Cond.code x code maxLocals ret, Jvm.Cond.code ({ cls := "com/example/tallybound/tallybound/http/LinkFaults", name := "isProbability", desc := "(D)Z" } : Jvm.MethodName) prog_50_method_3_code (2 : Nat) (Option.some Jvm.ClassFile.FieldType.boolean)]
set_option maxRecDepth 65536 in
theorem codes_eq : words1.filter isCode = codes1 := rfl
theorem w_codes : ∀ c ∈ words1.filter isCode, c.before args0 about1 = true := by
  rw [codes_eq]
  intro c hc
  simp only [codes1, List.mem_cons, List.not_mem_nil, or_false] at hc
  rcases hc with rfl | rfl
  · exact w_c0
  · exact w_c1
set_option maxRecDepth 65536 in
theorem w_t1 : words1.all (fun c => isCode c || c.before args0 about1) = true := by decide +kernel
theorem w_tables : (allAtoms (Jvm.Cond.code x code maxLocals ret :: tables_1)).before args0 about1 = true := by
  rw [allAtoms_all]
  show words1.all (fun c => c.before args0 about1) = true
  refine all_split ?_ w_codes
  rw [w_t1]
set_option maxRecDepth 65536 in
theorem w_case : (Jvm.Cond.and given_1 narrow_1).before args0 about1 = true := by decide +kernel
theorem w_applies : (headSpec (Jvm.Cond.code x code maxLocals ret :: tables_1) room_1).applies x e0.platform about1 = true :=
  (Spec.applies_iff w_frames).mpr ⟨w_running, w_runnable, w_alone, w_named, w_hears, w_ripe, w_room, w_tables⟩
theorem atStart : AtStart classFile x code maxLocals ret World_1 tables_1 room_1 Calls_1 rest_1 Pre_1 launch0 p0 e0 about1 theMethod args0 below0 :=
  ⟨lists_1, trivial, launch0.admits_env _ _ _, launch0.least_env, fairChoices_fair.cas, fairChoices_fair.clock, w_frames, w_args, w_heap, w_applies, trivial, trivial, w_case⟩
end start1
theorem witness_1 : WitnessClaimed_1 := ⟨start1.p0, start1.e0, start1.about1, start1.theMethod, start1.args0, start1.below0, start1.atStart⟩
end Jvm.Pilot.@@N@@
