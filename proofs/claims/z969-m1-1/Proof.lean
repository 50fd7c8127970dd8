import JvmDerived
import JvmDerived.Pilot.@@N@@Statement
import JvmDerived.Pilot.@@N@@Code
set_option linter.unusedVariables false
set_option linter.unusedSimpArgs false
namespace Jvm.RoadKit
open Sem ClassFile Op Lib Jvm.Stand Jvm.Free Jvm.LawKit
section New
variable {p : Program} {l : Launch} {e : Env} {R : Room} {s : State} {m : MethodId} {args : Array Value} {below : List Frame} {meth : Method} {c : Code} {T : State} {locs : List Loc} {cells slots : Nat}
theorem retI (X : Stand p l e R s m args below meth c T locs cells slots) (hx : p.tables.exec = Jvm.exec) {pc : Nat} {Ls : Array Slot} {z : Int32} {rest : List Value} (hret : meth.sig.returnType = some .int) (hd : decode c.code pc = .ok (.ireturn, 1)) {fs : List Frame}
    (hl : ∀ (f : JFrame) (acts : List Action), f.method = m → f.locked = none → f.entered = [] → (doReturn e (T.setTop f) acts (some (.int z))).1 = T.setFrames fs) : Steps p.tables e below (T.setTop (mkF m pc Ls (.int z :: rest))) (T.setFrames fs) := by
  have hm' : T.vm.method? m = some meth := X.method'
  have hn : narrow .int (.int z) = .int z := rfl
  show Steps p.tables e below (T.setTop { method := m, pc := pc, locals := Ls, stack := _ :: rest, locked := none }) _
  jvm_step X.here [X.here.top, hx, hd, hm', hret, hn]
  first | (intro acts; rw [hl _ acts rfl rfl rfl]) | rw [hl _ _ rfl rfl rfl]
  exact Steps.refl _
end New
end Jvm.RoadKit
namespace Jvm.Pilot.@@N@@
open Jvm Jvm.ClassFile Sem Op Lib Jvm.Free Jvm.Stand Jvm.LawKit Jvm.RoadKit Bundle Jvm.Pilot.@@N@@.Jvm.D
section Own
variable {p : Program} {l : Launch} {e : Env} {R : Room} {s : State} {m : MethodId} {args : Array Value} {below : List Frame} {meth : Method} {c : Code} {T : State} {locs : List Loc} {cells slots : Nat}
/-- from the state G the run comes to an end with an outcome of which Φ holds -/
def own_Gs (p : Program) (e : Env) (below : List Frame) (Φ : Outcome → State → Prop) (G : State) : Prop :=
  ∃ (t : State) (o : Outcome), Steps p.tables e below G t ∧ t.status = .running ∧ Ended t below o ∧ Φ o t
theorem own_st {Φ : Outcome → State → Prop} {G G' : State} (k : ∀ t, Steps p.tables e below G' t → Steps p.tables e below G t) (h : own_Gs p e below Φ G') : own_Gs p e below Φ G := by
  obtain ⟨a, b, h1, h2⟩ := h
  exact ⟨a, b, k _ h1, h2⟩
/-- the list of what was written, with its name alone: long nested lists cost Lean dearly -/
theorem own_hide {n0 : Nat} (X : Stand p l e R s m args below meth c T locs cells slots) (N : Fr n0 locs) : ∃ L, Stand p l e R s m args below meth c T L cells slots ∧ Fr n0 L := ⟨locs, X, N⟩
theorem own_in {Φ : Outcome → State → Prop} {g g' : JFrame} (q : g = g') (h : own_Gs p e below Φ (T.setTop g')) : ∃ (t : State) (o : Outcome), Steps p.tables e below (T.setTop g) t ∧ t.status = .running ∧ Ended t below o ∧ Φ o t := by
  subst q; exact h
theorem own_ret (X : Stand p l e R s m args below meth c T locs cells slots) {v : Option Value} (hv : meth.sig.returnType = none → v = none) (hlk : meth.locks = false) {G : State}
    (k : ∀ fs, (∀ (f : JFrame) (acts : List Action), f.method = m → f.locked = none → f.entered = [] → (doReturn e (T.setTop f) acts v).1 = T.setFrames fs) → Steps p.tables e below G (T.setFrames fs))
    {Q : Option Value → Heap → List Loc → Prop} {h : Heap} (eT : T.heap = h) (hQ : Q v h locs) {cc ss : Nat} (hc : cells ≤ cc) (hs : slots ≤ ss) :
    own_Gs p e below (fun o t => ∃ v L, o = .returned v ∧ Q v t.heap L ∧ FrameEnd s o t L cc ss) G := by
  obtain ⟨fs, hr, hrun, hended, hW, hsame⟩ := X.leave (v := v) hv hlk
  subst eT
  exact ⟨_, _, k fs hr, hrun, hended, _, _, rfl, hQ, ⟨_, rfl⟩, hW, hsame.mono hc hs⟩
theorem own_retI (X : Stand p l e R s m args below meth c T locs cells slots) (hx : p.tables.exec = Jvm.exec) {pc : Nat} {Ls : Array Slot} {z : Int32} {rest : List Value} (hret : meth.sig.returnType = some .int) (hd : decode c.code pc = .ok (.ireturn, 1)) (hlk : meth.locks = false)
    {Q : Option Value → Heap → List Loc → Prop} {h : Heap} (eT : T.heap = h) (hQ : Q (some (.int z)) h locs) {cc ss : Nat} (hc : cells ≤ cc) (hs : slots ≤ ss) :
    own_Gs p e below (fun o t => ∃ v L, o = .returned v ∧ Q v t.heap L ∧ FrameEnd s o t L cc ss) (T.setTop (mkF m pc Ls (.int z :: rest))) :=
  own_ret X (fun h => by rw [hret] at h; cases h) hlk (fun fs hr => retI X hx hret hd hr) eT hQ hc hs
theorem own_retN (X : Stand p l e R s m args below meth c T locs cells slots) (hx : p.tables.exec = Jvm.exec) {pc : Nat} {Ls : Array Slot} {z : Int32} {t : FieldType} {rest : List Value} (hret : meth.sig.returnType = some t) (ht : t = .boolean ∨ t = .byte ∨ t = .char ∨ t = .short) (hd : decode c.code pc = .ok (.ireturn, 1)) (hlk : meth.locks = false)
    {Q : Option Value → Heap → List Loc → Prop} {h : Heap} (eT : T.heap = h) (hQ : Q (some (.int (nar t z))) h locs) {cc ss : Nat} (hc : cells ≤ cc) (hs : slots ≤ ss) :
    own_Gs p e below (fun o t => ∃ v L, o = .returned v ∧ Q v t.heap L ∧ FrameEnd s o t L cc ss) (T.setTop (mkF m pc Ls (.int z :: rest))) :=
  own_ret X (fun h => by rw [hret] at h; cases h) hlk (fun fs hr => retN X hx hret ht hd hr) eT hQ hc hs
theorem own_retL (X : Stand p l e R s m args below meth c T locs cells slots) (hx : p.tables.exec = Jvm.exec) {pc : Nat} {Ls : Array Slot} {z : Int64} {rest : List Value} (hret : meth.sig.returnType = some .long) (hd : decode c.code pc = .ok (.lreturn, 1)) (hlk : meth.locks = false)
    {Q : Option Value → Heap → List Loc → Prop} {h : Heap} (eT : T.heap = h) (hQ : Q (some (.long z)) h locs) {cc ss : Nat} (hc : cells ≤ cc) (hs : slots ≤ ss) :
    own_Gs p e below (fun o t => ∃ v L, o = .returned v ∧ Q v t.heap L ∧ FrameEnd s o t L cc ss) (T.setTop (mkF m pc Ls (.long z :: rest))) :=
  own_ret X (fun h => by rw [hret] at h; cases h) hlk (fun fs hr => retOut X hx hret rfl (Or.inr (Or.inl ⟨rfl, rfl, z, rfl⟩)) hd hr) eT hQ hc hs
theorem own_retD (X : Stand p l e R s m args below meth c T locs cells slots) (hx : p.tables.exec = Jvm.exec) {pc : Nat} {Ls : Array Slot} {z : UInt64} {rest : List Value} (hret : meth.sig.returnType = some .double) (hd : decode c.code pc = .ok (.dreturn, 1)) (hlk : meth.locks = false)
    {Q : Option Value → Heap → List Loc → Prop} {h : Heap} (eT : T.heap = h) (hQ : Q (some (.double z)) h locs) {cc ss : Nat} (hc : cells ≤ cc) (hs : slots ≤ ss) :
    own_Gs p e below (fun o t => ∃ v L, o = .returned v ∧ Q v t.heap L ∧ FrameEnd s o t L cc ss) (T.setTop (mkF m pc Ls (.double z :: rest))) :=
  own_ret X (fun h => by rw [hret] at h; cases h) hlk (fun fs hr => retOut X hx hret rfl (Or.inr (Or.inr (Or.inl ⟨rfl, rfl, z, rfl⟩))) hd hr) eT hQ hc hs
theorem own_retA (X : Stand p l e R s m args below meth c T locs cells slots) (hx : p.tables.exec = Jvm.exec) {pc : Nat} {Ls : Array Slot} {z : Value} {t : FieldType} {rest : List Value} (hret : meth.sig.returnType = some t) (ht : t.isReference = true) (hz : z.isRef = true) (hd : decode c.code pc = .ok (.areturn, 1)) (hlk : meth.locks = false)
    {Q : Option Value → Heap → List Loc → Prop} {h : Heap} (eT : T.heap = h) (hQ : Q (some z) h locs) {cc ss : Nat} (hc : cells ≤ cc) (hs : slots ≤ ss) :
    own_Gs p e below (fun o t => ∃ v L, o = .returned v ∧ Q v t.heap L ∧ FrameEnd s o t L cc ss) (T.setTop (mkF m pc Ls (z :: rest))) :=
  own_ret X (fun h => by rw [hret] at h; cases h) hlk (fun fs hr => retOut X hx hret (by cases t <;> first | rfl | (cases z <;> first | rfl | (simp [Value.isRef] at hz) | (simp [FieldType.isReference] at ht))) (Or.inr (Or.inr (Or.inr (Or.inr ⟨rfl, ht, hz⟩)))) hd hr) eT hQ hc hs
theorem own_retV (X : Stand p l e R s m args below meth c T locs cells slots) (hx : p.tables.exec = Jvm.exec) {pc : Nat} {Ls : Array Slot} (hret : meth.sig.returnType = none) (hd : decode c.code pc = .ok (.return_, 1)) (hlk : meth.locks = false)
    {Q : Option Value → Heap → List Loc → Prop} {h : Heap} (eT : T.heap = h) (hQ : Q none h locs) {cc ss : Nat} (hc : cells ≤ cc) (hs : slots ≤ ss) :
    own_Gs p e below (fun o t => ∃ v L, o = .returned v ∧ Q v t.heap L ∧ FrameEnd s o t L cc ss) (T.setTop (mkF m pc Ls [])) :=
  own_ret X (fun _ => rfl) hlk (fun fs hr => X.returnOut hx hret hd hr) eT hQ hc hs
theorem own_retNW {vm0 : Vm} {k0 : Nat} (X : Stand p l e R (s.setVm vm0) m args below meth c T locs cells slots) (hS : s.Since vm0 k0) {h : Heap} (hk : k0 ≤ h.size) (hx : p.tables.exec = Jvm.exec) {pc : Nat} {Ls : Array Slot} {z : Int32} {t : FieldType} {rest : List Value} (hret : meth.sig.returnType = some t) (ht : t = .boolean ∨ t = .byte ∨ t = .char ∨ t = .short) (hd : decode c.code pc = .ok (.ireturn, 1)) (hlk : meth.locks = false)
    {Q : Option Value → Heap → List Loc → Prop} (eT : T.heap = h) (hQ : Q (some (.int (nar t z))) h locs) {cc ss : Nat} (hc : cells ≤ cc) (hs : slots ≤ ss) :
    own_Gs p e below (fun o t => ∃ v L, o = .returned v ∧ Q v t.heap L ∧ ReturnedEndW s o t L cc ss) (T.setTop (mkF m pc Ls (.int z :: rest))) := by
  subst eT
  obtain ⟨fs, hr, hrun, hended, h1, h2, h3, h4⟩ := X.leaveW hS hk (v := some (.int (nar t z))) (fun h => by rw [hret] at h; cases h) hlk
  exact ⟨_, _, retN X hx hret ht hd hr, hrun, hended, _, _, rfl, hQ, h1, h2, h3, h4.mono hc hs⟩
theorem own_retVW {vm0 : Vm} {k0 : Nat} (X : Stand p l e R (s.setVm vm0) m args below meth c T locs cells slots) (hS : s.Since vm0 k0) {h : Heap} (hk : k0 ≤ h.size) (hx : p.tables.exec = Jvm.exec) {pc : Nat} {Ls : Array Slot} (hret : meth.sig.returnType = none) (hd : decode c.code pc = .ok (.return_, 1)) (hlk : meth.locks = false)
    {Q : Option Value → Heap → List Loc → Prop} (eT : T.heap = h) (hQ : Q none h locs) {cc ss : Nat} (hc : cells ≤ cc) (hs : slots ≤ ss) :
    own_Gs p e below (fun o t => ∃ v L, o = .returned v ∧ Q v t.heap L ∧ ReturnedEndW s o t L cc ss) (T.setTop (mkF m pc Ls [])) := by
  subst eT
  obtain ⟨fs, hr, hrun, hended, h1, h2, h3, h4⟩ := X.leaveW hS hk (v := none) (fun _ => rfl) hlk
  exact ⟨_, _, X.returnOut hx hret hd hr, hrun, hended, _, _, rfl, hQ, h1, h2, h3, h4.mono hc hs⟩
theorem own_wz {Z s : State} {vm : Vm} {k : Nat} (hZ : Z.Warmed39 s.vm) (hS : s.Since vm k) : Z.Warmed39 (s.setVm vm).vm := State.Warmed39.trans (t := s) hZ hS.1
theorem own_wo {s : State} {vm : Vm} {k : Nat} {own : String} {c : ClassId} (hS : s.Since vm k) (hown : s.vm.findClass own = some c) : (s.setVm vm).vm.findClass own = some c := by
  rw [show (s.setVm vm).vm = vm from rfl, hS.1.alike.findClass]; exact hown
theorem own_wf {s : State} {vm0 vm : Vm} {k0 n k : Nat} (hS : s.Since vm0 k0) (hk : k0 ≤ n) (h2 : (s.setVm vm0).Since vm k) (g : n ≤ k) : s.Since vm k := hS.trans h2 (Nat.le_trans hk g)
-- steps
theorem own_iloadN {Φ : Outcome → State → Prop} (X : Stand p l e R s m args below meth c T locs cells slots) (hx : p.tables.exec = Jvm.exec) {pc : Nat} (pc' : Nat) {Ls : Array Slot} {S : List Value} {k : Fin 4} {v : Int32} (hd : decode c.code pc = .ok (.iload_n k, 1)) (hl : Ls[k.val]? = some (.val (.int v))) (h : own_Gs p e below Φ (T.setTop (mkF m pc' Ls (.int v :: S)))) (hp : pc + 1 = pc' := by rfl) : own_Gs p e below Φ (T.setTop (mkF m pc Ls (S))) := by
  subst hp; exact own_st (fun t k => XS.iloadN X.here hx rfl hd hl k) h
theorem own_iload {Φ : Outcome → State → Prop} (X : Stand p l e R s m args below meth c T locs cells slots) (hx : p.tables.exec = Jvm.exec) {pc : Nat} (pc' : Nat) {Ls : Array Slot} {S : List Value} {k : Nat} {v : Int32} (hd : decode c.code pc = .ok (.iload k, 2)) (hl : Ls[k]? = some (.val (.int v))) (h : own_Gs p e below Φ (T.setTop (mkF m pc' Ls (.int v :: S)))) (hp : pc + 2 = pc' := by rfl) : own_Gs p e below Φ (T.setTop (mkF m pc Ls (S))) := by
  subst hp; exact own_st (fun t k => XS.iload X.here hx rfl hd hl k) h
theorem own_lloadN {Φ : Outcome → State → Prop} (X : Stand p l e R s m args below meth c T locs cells slots) (hx : p.tables.exec = Jvm.exec) {pc : Nat} (pc' : Nat) {Ls : Array Slot} {S : List Value} {k : Fin 4} {v : Int64} (hd : decode c.code pc = .ok (.lload_n k, 1)) (hl : Ls[k.val]? = some (.val (.long v))) (h : own_Gs p e below Φ (T.setTop (mkF m pc' Ls (.long v :: S)))) (hp : pc + 1 = pc' := by rfl) : own_Gs p e below Φ (T.setTop (mkF m pc Ls (S))) := by
  subst hp; exact own_st (fun t k => XS.lloadN X.here hx rfl hd hl k) h
theorem own_lload {Φ : Outcome → State → Prop} (X : Stand p l e R s m args below meth c T locs cells slots) (hx : p.tables.exec = Jvm.exec) {pc : Nat} (pc' : Nat) {Ls : Array Slot} {S : List Value} {k : Nat} {v : Int64} (hd : decode c.code pc = .ok (.lload k, 2)) (hl : Ls[k]? = some (.val (.long v))) (h : own_Gs p e below Φ (T.setTop (mkF m pc' Ls (.long v :: S)))) (hp : pc + 2 = pc' := by rfl) : own_Gs p e below Φ (T.setTop (mkF m pc Ls (S))) := by
  subst hp; exact own_st (fun t k => XS.lload X.here hx rfl hd hl k) h
theorem own_aloadN {Φ : Outcome → State → Prop} (X : Stand p l e R s m args below meth c T locs cells slots) (hx : p.tables.exec = Jvm.exec) {pc : Nat} (pc' : Nat) {Ls : Array Slot} {S : List Value} {k : Fin 4} {v : Value} (hd : decode c.code pc = .ok (.aload_n k, 1)) (hl : Ls[k.val]? = some (.val v)) (hv : v.isRef = true) (h : own_Gs p e below Φ (T.setTop (mkF m pc' Ls (v :: S)))) (hp : pc + 1 = pc' := by rfl) : own_Gs p e below Φ (T.setTop (mkF m pc Ls (S))) := by
  subst hp; exact own_st (fun t k => XS.aloadN X.here hx rfl hd hl hv k) h
theorem own_aload {Φ : Outcome → State → Prop} (X : Stand p l e R s m args below meth c T locs cells slots) (hx : p.tables.exec = Jvm.exec) {pc : Nat} (pc' : Nat) {Ls : Array Slot} {S : List Value} {k : Nat} {v : Value} (hd : decode c.code pc = .ok (.aload k, 2)) (hl : Ls[k]? = some (.val v)) (hv : v.isRef = true) (h : own_Gs p e below Φ (T.setTop (mkF m pc' Ls (v :: S)))) (hp : pc + 2 = pc' := by rfl) : own_Gs p e below Φ (T.setTop (mkF m pc Ls (S))) := by
  subst hp; exact own_st (fun t k => XS.aload X.here hx rfl hd hl hv k) h
theorem own_istoreN {Φ : Outcome → State → Prop} (X : Stand p l e R s m args below meth c T locs cells slots) (hx : p.tables.exec = Jvm.exec) {pc : Nat} (pc' : Nat) {Ls : Array Slot} {S : List Value} {k : Fin 4} {v : Int32} (l' : Array Slot) (hd : decode c.code pc = .ok (.istore_n k, 1)) (hl : storeLocals Ls k.val (.int v) = some l') (h : own_Gs p e below Φ (T.setTop (mkF m pc' l' (S)))) (hp : pc + 1 = pc' := by rfl) : own_Gs p e below Φ (T.setTop (mkF m pc Ls (.int v :: S))) := by
  subst hp; exact own_st (fun t k => XS.istoreN X.here hx rfl hd rfl hl k) h
theorem own_istore {Φ : Outcome → State → Prop} (X : Stand p l e R s m args below meth c T locs cells slots) (hx : p.tables.exec = Jvm.exec) {pc : Nat} (pc' : Nat) {Ls : Array Slot} {S : List Value} {k : Nat} {v : Int32} (l' : Array Slot) (hd : decode c.code pc = .ok (.istore k, 2)) (hl : storeLocals Ls k (.int v) = some l') (h : own_Gs p e below Φ (T.setTop (mkF m pc' l' (S)))) (hp : pc + 2 = pc' := by rfl) : own_Gs p e below Φ (T.setTop (mkF m pc Ls (.int v :: S))) := by
  subst hp; exact own_st (fun t k => XS.istore X.here hx rfl hd rfl hl k) h
theorem own_lstoreN {Φ : Outcome → State → Prop} (X : Stand p l e R s m args below meth c T locs cells slots) (hx : p.tables.exec = Jvm.exec) {pc : Nat} (pc' : Nat) {Ls : Array Slot} {S : List Value} {k : Fin 4} {v : Int64} (l' : Array Slot) (hd : decode c.code pc = .ok (.lstore_n k, 1)) (hl : storeLocals Ls k.val (.long v) = some l') (h : own_Gs p e below Φ (T.setTop (mkF m pc' l' (S)))) (hp : pc + 1 = pc' := by rfl) : own_Gs p e below Φ (T.setTop (mkF m pc Ls (.long v :: S))) := by
  subst hp; exact own_st (fun t k => XS.lstoreN X.here hx rfl hd rfl hl k) h
theorem own_lstore {Φ : Outcome → State → Prop} (X : Stand p l e R s m args below meth c T locs cells slots) (hx : p.tables.exec = Jvm.exec) {pc : Nat} (pc' : Nat) {Ls : Array Slot} {S : List Value} {k : Nat} {v : Int64} (l' : Array Slot) (hd : decode c.code pc = .ok (.lstore k, 2)) (hl : storeLocals Ls k (.long v) = some l') (h : own_Gs p e below Φ (T.setTop (mkF m pc' l' (S)))) (hp : pc + 2 = pc' := by rfl) : own_Gs p e below Φ (T.setTop (mkF m pc Ls (.long v :: S))) := by
  subst hp; exact own_st (fun t k => XS.lstore X.here hx rfl hd rfl hl k) h
theorem own_astoreN {Φ : Outcome → State → Prop} (X : Stand p l e R s m args below meth c T locs cells slots) (hx : p.tables.exec = Jvm.exec) {pc : Nat} (pc' : Nat) {Ls : Array Slot} {S : List Value} {k : Fin 4} {v : Value} (l' : Array Slot) (hd : decode c.code pc = .ok (.astore_n k, 1)) (hv : v.isRef = true) (hl : storeLocals Ls k.val v = some l') (h : own_Gs p e below Φ (T.setTop (mkF m pc' l' (S)))) (hp : pc + 1 = pc' := by rfl) : own_Gs p e below Φ (T.setTop (mkF m pc Ls (v :: S))) := by
  subst hp; exact own_st (fun t k => XS.astoreN X.here hx rfl hd rfl hv hl k) h
theorem own_astore {Φ : Outcome → State → Prop} (X : Stand p l e R s m args below meth c T locs cells slots) (hx : p.tables.exec = Jvm.exec) {pc : Nat} (pc' : Nat) {Ls : Array Slot} {S : List Value} {k : Nat} {v : Value} (l' : Array Slot) (hd : decode c.code pc = .ok (.astore k, 2)) (hv : v.isRef = true) (hl : storeLocals Ls k v = some l') (h : own_Gs p e below Φ (T.setTop (mkF m pc' l' (S)))) (hp : pc + 2 = pc' := by rfl) : own_Gs p e below Φ (T.setTop (mkF m pc Ls (v :: S))) := by
  subst hp; exact own_st (fun t k => XS.astore X.here hx rfl hd rfl hv hl k) h
theorem own_iconst {Φ : Outcome → State → Prop} (X : Stand p l e R s m args below meth c T locs cells slots) (hx : p.tables.exec = Jvm.exec) {pc : Nat} (pc' : Nat) {Ls : Array Slot} {S : List Value} {i : Int} (z : Int32) (hd : decode c.code pc = .ok (.iconst i, 1)) (hz : Int32.ofInt i = z) (h : own_Gs p e below Φ (T.setTop (mkF m pc' Ls (.int z :: S)))) (hp : pc + 1 = pc' := by rfl) : own_Gs p e below Φ (T.setTop (mkF m pc Ls (S))) := by
  subst hp; exact own_st (fun t k => XS.iconst X.here hx rfl hd (hz ▸ k)) h
theorem own_bipush {Φ : Outcome → State → Prop} (X : Stand p l e R s m args below meth c T locs cells slots) (hx : p.tables.exec = Jvm.exec) {pc : Nat} (pc' : Nat) {Ls : Array Slot} {S : List Value} {i : Int} (z : Int32) (hd : decode c.code pc = .ok (.bipush i, 2)) (hz : (Int8.ofInt i).toInt32 = z) (h : own_Gs p e below Φ (T.setTop (mkF m pc' Ls (.int z :: S)))) (hp : pc + 2 = pc' := by rfl) : own_Gs p e below Φ (T.setTop (mkF m pc Ls (S))) := by
  subst hp; exact own_st (fun t k => XS.bipush X.here hx rfl hd (hz ▸ k)) h
theorem own_sipush {Φ : Outcome → State → Prop} (X : Stand p l e R s m args below meth c T locs cells slots) (hx : p.tables.exec = Jvm.exec) {pc : Nat} (pc' : Nat) {Ls : Array Slot} {S : List Value} {i : Int} (z : Int32) (hd : decode c.code pc = .ok (.sipush i, 3)) (hz : (Int16.ofInt i).toInt32 = z) (h : own_Gs p e below Φ (T.setTop (mkF m pc' Ls (.int z :: S)))) (hp : pc + 3 = pc' := by rfl) : own_Gs p e below Φ (T.setTop (mkF m pc Ls (S))) := by
  subst hp; exact own_st (fun t k => XS.sipush X.here hx rfl hd (hz ▸ k)) h
theorem own_lconst {Φ : Outcome → State → Prop} (X : Stand p l e R s m args below meth c T locs cells slots) (hx : p.tables.exec = Jvm.exec) {pc : Nat} (pc' : Nat) {Ls : Array Slot} {S : List Value} {i : Fin 2} (z : Int64) (hd : decode c.code pc = .ok (.lconst i, 1)) (hz : Int64.ofNat i = z) (h : own_Gs p e below Φ (T.setTop (mkF m pc' Ls (.long z :: S)))) (hp : pc + 1 = pc' := by rfl) : own_Gs p e below Φ (T.setTop (mkF m pc Ls (S))) := by
  subst hp; exact own_st (fun t k => XS.lconst X.here hx rfl hd (hz ▸ k)) h
theorem own_aconstNull {Φ : Outcome → State → Prop} (X : Stand p l e R s m args below meth c T locs cells slots) (hx : p.tables.exec = Jvm.exec) {pc : Nat} (pc' : Nat) {Ls : Array Slot} {S : List Value}  (hd : decode c.code pc = .ok (.aconst_null, 1)) (h : own_Gs p e below Φ (T.setTop (mkF m pc' Ls (.null :: S)))) (hp : pc + 1 = pc' := by rfl) : own_Gs p e below Φ (T.setTop (mkF m pc Ls (S))) := by
  subst hp; exact own_st (fun t k => XS.aconstNull X.here hx rfl hd k) h
theorem own_iadd {Φ : Outcome → State → Prop} (X : Stand p l e R s m args below meth c T locs cells slots) (hx : p.tables.exec = Jvm.exec) {pc : Nat} (pc' : Nat) {Ls : Array Slot} {S : List Value} {x y : Int32} (hd : decode c.code pc = .ok (.iadd, 1)) (h : own_Gs p e below Φ (T.setTop (mkF m pc' Ls (.int (x + y) :: S)))) (hp : pc + 1 = pc' := by rfl) : own_Gs p e below Φ (T.setTop (mkF m pc Ls (.int y :: .int x :: S))) := by
  subst hp; exact own_st (fun t k => XS.iadd X.here hx rfl hd rfl k) h
theorem own_ladd {Φ : Outcome → State → Prop} (X : Stand p l e R s m args below meth c T locs cells slots) (hx : p.tables.exec = Jvm.exec) {pc : Nat} (pc' : Nat) {Ls : Array Slot} {S : List Value} {x y : Int64} (hd : decode c.code pc = .ok (.ladd, 1)) (h : own_Gs p e below Φ (T.setTop (mkF m pc' Ls (.long (x + y) :: S)))) (hp : pc + 1 = pc' := by rfl) : own_Gs p e below Φ (T.setTop (mkF m pc Ls (.long y :: .long x :: S))) := by
  subst hp; exact own_st (fun t k => XS.ladd X.here hx rfl hd rfl k) h
theorem own_isub {Φ : Outcome → State → Prop} (X : Stand p l e R s m args below meth c T locs cells slots) (hx : p.tables.exec = Jvm.exec) {pc : Nat} (pc' : Nat) {Ls : Array Slot} {S : List Value} {x y : Int32} (hd : decode c.code pc = .ok (.isub, 1)) (h : own_Gs p e below Φ (T.setTop (mkF m pc' Ls (.int (x - y) :: S)))) (hp : pc + 1 = pc' := by rfl) : own_Gs p e below Φ (T.setTop (mkF m pc Ls (.int y :: .int x :: S))) := by
  subst hp; exact own_st (fun t k => XS.isub X.here hx rfl hd rfl k) h
theorem own_lsub {Φ : Outcome → State → Prop} (X : Stand p l e R s m args below meth c T locs cells slots) (hx : p.tables.exec = Jvm.exec) {pc : Nat} (pc' : Nat) {Ls : Array Slot} {S : List Value} {x y : Int64} (hd : decode c.code pc = .ok (.lsub, 1)) (h : own_Gs p e below Φ (T.setTop (mkF m pc' Ls (.long (x - y) :: S)))) (hp : pc + 1 = pc' := by rfl) : own_Gs p e below Φ (T.setTop (mkF m pc Ls (.long y :: .long x :: S))) := by
  subst hp; exact own_st (fun t k => XS.lsub X.here hx rfl hd rfl k) h
theorem own_imul {Φ : Outcome → State → Prop} (X : Stand p l e R s m args below meth c T locs cells slots) (hx : p.tables.exec = Jvm.exec) {pc : Nat} (pc' : Nat) {Ls : Array Slot} {S : List Value} {x y : Int32} (hd : decode c.code pc = .ok (.imul, 1)) (h : own_Gs p e below Φ (T.setTop (mkF m pc' Ls (.int (x * y) :: S)))) (hp : pc + 1 = pc' := by rfl) : own_Gs p e below Φ (T.setTop (mkF m pc Ls (.int y :: .int x :: S))) := by
  subst hp; exact own_st (fun t k => XS.imul X.here hx rfl hd rfl k) h
theorem own_lmul {Φ : Outcome → State → Prop} (X : Stand p l e R s m args below meth c T locs cells slots) (hx : p.tables.exec = Jvm.exec) {pc : Nat} (pc' : Nat) {Ls : Array Slot} {S : List Value} {x y : Int64} (hd : decode c.code pc = .ok (.lmul, 1)) (h : own_Gs p e below Φ (T.setTop (mkF m pc' Ls (.long (x * y) :: S)))) (hp : pc + 1 = pc' := by rfl) : own_Gs p e below Φ (T.setTop (mkF m pc Ls (.long y :: .long x :: S))) := by
  subst hp; exact own_st (fun t k => XS.lmul X.here hx rfl hd rfl k) h
theorem own_iand {Φ : Outcome → State → Prop} (X : Stand p l e R s m args below meth c T locs cells slots) (hx : p.tables.exec = Jvm.exec) {pc : Nat} (pc' : Nat) {Ls : Array Slot} {S : List Value} {x y : Int32} (hd : decode c.code pc = .ok (.iand, 1)) (h : own_Gs p e below Φ (T.setTop (mkF m pc' Ls (.int (x &&& y) :: S)))) (hp : pc + 1 = pc' := by rfl) : own_Gs p e below Φ (T.setTop (mkF m pc Ls (.int y :: .int x :: S))) := by
  subst hp; exact own_st (fun t k => XS.iand X.here hx rfl hd rfl k) h
theorem own_land {Φ : Outcome → State → Prop} (X : Stand p l e R s m args below meth c T locs cells slots) (hx : p.tables.exec = Jvm.exec) {pc : Nat} (pc' : Nat) {Ls : Array Slot} {S : List Value} {x y : Int64} (hd : decode c.code pc = .ok (.land, 1)) (h : own_Gs p e below Φ (T.setTop (mkF m pc' Ls (.long (x &&& y) :: S)))) (hp : pc + 1 = pc' := by rfl) : own_Gs p e below Φ (T.setTop (mkF m pc Ls (.long y :: .long x :: S))) := by
  subst hp; exact own_st (fun t k => XS.land X.here hx rfl hd rfl k) h
theorem own_ior {Φ : Outcome → State → Prop} (X : Stand p l e R s m args below meth c T locs cells slots) (hx : p.tables.exec = Jvm.exec) {pc : Nat} (pc' : Nat) {Ls : Array Slot} {S : List Value} {x y : Int32} (hd : decode c.code pc = .ok (.ior, 1)) (h : own_Gs p e below Φ (T.setTop (mkF m pc' Ls (.int (x ||| y) :: S)))) (hp : pc + 1 = pc' := by rfl) : own_Gs p e below Φ (T.setTop (mkF m pc Ls (.int y :: .int x :: S))) := by
  subst hp; exact own_st (fun t k => XS.ior X.here hx rfl hd rfl k) h
theorem own_lor {Φ : Outcome → State → Prop} (X : Stand p l e R s m args below meth c T locs cells slots) (hx : p.tables.exec = Jvm.exec) {pc : Nat} (pc' : Nat) {Ls : Array Slot} {S : List Value} {x y : Int64} (hd : decode c.code pc = .ok (.lor, 1)) (h : own_Gs p e below Φ (T.setTop (mkF m pc' Ls (.long (x ||| y) :: S)))) (hp : pc + 1 = pc' := by rfl) : own_Gs p e below Φ (T.setTop (mkF m pc Ls (.long y :: .long x :: S))) := by
  subst hp; exact own_st (fun t k => XS.lor X.here hx rfl hd rfl k) h
theorem own_ixor {Φ : Outcome → State → Prop} (X : Stand p l e R s m args below meth c T locs cells slots) (hx : p.tables.exec = Jvm.exec) {pc : Nat} (pc' : Nat) {Ls : Array Slot} {S : List Value} {x y : Int32} (hd : decode c.code pc = .ok (.ixor, 1)) (h : own_Gs p e below Φ (T.setTop (mkF m pc' Ls (.int (x ^^^ y) :: S)))) (hp : pc + 1 = pc' := by rfl) : own_Gs p e below Φ (T.setTop (mkF m pc Ls (.int y :: .int x :: S))) := by
  subst hp; exact own_st (fun t k => XS.ixor X.here hx rfl hd rfl k) h
theorem own_lxor {Φ : Outcome → State → Prop} (X : Stand p l e R s m args below meth c T locs cells slots) (hx : p.tables.exec = Jvm.exec) {pc : Nat} (pc' : Nat) {Ls : Array Slot} {S : List Value} {x y : Int64} (hd : decode c.code pc = .ok (.lxor, 1)) (h : own_Gs p e below Φ (T.setTop (mkF m pc' Ls (.long (x ^^^ y) :: S)))) (hp : pc + 1 = pc' := by rfl) : own_Gs p e below Φ (T.setTop (mkF m pc Ls (.long y :: .long x :: S))) := by
  subst hp; exact own_st (fun t k => XS.lxor X.here hx rfl hd rfl k) h
theorem own_idiv {Φ : Outcome → State → Prop} (X : Stand p l e R s m args below meth c T locs cells slots) (hx : p.tables.exec = Jvm.exec) {pc : Nat} (pc' : Nat) {Ls : Array Slot} {S : List Value} {x y : Int32} (hd : decode c.code pc = .ok (.idiv, 1)) (hy : y ≠ 0) (h : own_Gs p e below Φ (T.setTop (mkF m pc' Ls (.int (x / y) :: S)))) (hp : pc + 1 = pc' := by rfl) : own_Gs p e below Φ (T.setTop (mkF m pc Ls (.int y :: .int x :: S))) := by
  subst hp; exact own_st (fun t k => XS.idiv X.here hx rfl hd rfl hy k) h
theorem own_ldiv {Φ : Outcome → State → Prop} (X : Stand p l e R s m args below meth c T locs cells slots) (hx : p.tables.exec = Jvm.exec) {pc : Nat} (pc' : Nat) {Ls : Array Slot} {S : List Value} {x y : Int64} (hd : decode c.code pc = .ok (.ldiv, 1)) (hy : y ≠ 0) (h : own_Gs p e below Φ (T.setTop (mkF m pc' Ls (.long (x / y) :: S)))) (hp : pc + 1 = pc' := by rfl) : own_Gs p e below Φ (T.setTop (mkF m pc Ls (.long y :: .long x :: S))) := by
  subst hp; exact own_st (fun t k => XS.ldiv X.here hx rfl hd rfl hy k) h
theorem own_irem {Φ : Outcome → State → Prop} (X : Stand p l e R s m args below meth c T locs cells slots) (hx : p.tables.exec = Jvm.exec) {pc : Nat} (pc' : Nat) {Ls : Array Slot} {S : List Value} {x y : Int32} (hd : decode c.code pc = .ok (.irem, 1)) (hy : y ≠ 0) (h : own_Gs p e below Φ (T.setTop (mkF m pc' Ls (.int (x % y) :: S)))) (hp : pc + 1 = pc' := by rfl) : own_Gs p e below Φ (T.setTop (mkF m pc Ls (.int y :: .int x :: S))) := by
  subst hp; exact own_st (fun t k => iremM X hx rfl hd rfl hy k) h
theorem own_lrem {Φ : Outcome → State → Prop} (X : Stand p l e R s m args below meth c T locs cells slots) (hx : p.tables.exec = Jvm.exec) {pc : Nat} (pc' : Nat) {Ls : Array Slot} {S : List Value} {x y : Int64} (hd : decode c.code pc = .ok (.lrem, 1)) (hy : y ≠ 0) (h : own_Gs p e below Φ (T.setTop (mkF m pc' Ls (.long (x % y) :: S)))) (hp : pc + 1 = pc' := by rfl) : own_Gs p e below Φ (T.setTop (mkF m pc Ls (.long y :: .long x :: S))) := by
  subst hp; exact own_st (fun t k => XS.lrem X.here hx rfl hd rfl hy (by rw [lrem_mod]; exact k)) h
theorem own_ishl {Φ : Outcome → State → Prop} (X : Stand p l e R s m args below meth c T locs cells slots) (hx : p.tables.exec = Jvm.exec) {pc : Nat} (pc' : Nat) {Ls : Array Slot} {S : List Value} {x y : Int32} (hd : decode c.code pc = .ok (.ishl, 1)) (h : own_Gs p e below Φ (T.setTop (mkF m pc' Ls (.int (x <<< (y &&& 31)) :: S)))) (hp : pc + 1 = pc' := by rfl) : own_Gs p e below Φ (T.setTop (mkF m pc Ls (.int y :: .int x :: S))) := by
  subst hp; exact own_st (fun t k => XS.ishl X.here hx rfl hd rfl k) h
theorem own_ishr {Φ : Outcome → State → Prop} (X : Stand p l e R s m args below meth c T locs cells slots) (hx : p.tables.exec = Jvm.exec) {pc : Nat} (pc' : Nat) {Ls : Array Slot} {S : List Value} {x y : Int32} (hd : decode c.code pc = .ok (.ishr, 1)) (h : own_Gs p e below Φ (T.setTop (mkF m pc' Ls (.int (x >>> (y &&& 31)) :: S)))) (hp : pc + 1 = pc' := by rfl) : own_Gs p e below Φ (T.setTop (mkF m pc Ls (.int y :: .int x :: S))) := by
  subst hp; exact own_st (fun t k => XS.ishr X.here hx rfl hd rfl k) h
theorem own_iushr {Φ : Outcome → State → Prop} (X : Stand p l e R s m args below meth c T locs cells slots) (hx : p.tables.exec = Jvm.exec) {pc : Nat} (pc' : Nat) {Ls : Array Slot} {S : List Value} {x y : Int32} (hd : decode c.code pc = .ok (.iushr, 1)) (h : own_Gs p e below Φ (T.setTop (mkF m pc' Ls (.int ((x.toUInt32 >>> (y &&& 31).toUInt32).toInt32) :: S)))) (hp : pc + 1 = pc' := by rfl) : own_Gs p e below Φ (T.setTop (mkF m pc Ls (.int y :: .int x :: S))) := by
  subst hp; exact own_st (fun t k => XS.iushr X.here hx rfl hd rfl k) h
theorem own_lshl {Φ : Outcome → State → Prop} (X : Stand p l e R s m args below meth c T locs cells slots) (hx : p.tables.exec = Jvm.exec) {pc : Nat} (pc' : Nat) {Ls : Array Slot} {S : List Value} {x : Int64} {y : Int32} (hd : decode c.code pc = .ok (.lshl, 1)) (h : own_Gs p e below Φ (T.setTop (mkF m pc' Ls (.long (x <<< (y &&& 0x3f).toInt64) :: S)))) (hp : pc + 1 = pc' := by rfl) : own_Gs p e below Φ (T.setTop (mkF m pc Ls (.int y :: .long x :: S))) := by
  subst hp; exact own_st (fun t k => XS.lshl X.here hx rfl hd rfl k) h
theorem own_lshr {Φ : Outcome → State → Prop} (X : Stand p l e R s m args below meth c T locs cells slots) (hx : p.tables.exec = Jvm.exec) {pc : Nat} (pc' : Nat) {Ls : Array Slot} {S : List Value} {x : Int64} {y : Int32} (hd : decode c.code pc = .ok (.lshr, 1)) (h : own_Gs p e below Φ (T.setTop (mkF m pc' Ls (.long (x >>> (y &&& 0x3f).toInt64) :: S)))) (hp : pc + 1 = pc' := by rfl) : own_Gs p e below Φ (T.setTop (mkF m pc Ls (.int y :: .long x :: S))) := by
  subst hp; exact own_st (fun t k => XS.lshr X.here hx rfl hd rfl k) h
theorem own_lushr {Φ : Outcome → State → Prop} (X : Stand p l e R s m args below meth c T locs cells slots) (hx : p.tables.exec = Jvm.exec) {pc : Nat} (pc' : Nat) {Ls : Array Slot} {S : List Value} {x : Int64} {y : Int32} (hd : decode c.code pc = .ok (.lushr, 1)) (h : own_Gs p e below Φ (T.setTop (mkF m pc' Ls (.long ((x.toUInt64 >>> (y &&& 0x3f).toInt64.toUInt64).toInt64) :: S)))) (hp : pc + 1 = pc' := by rfl) : own_Gs p e below Φ (T.setTop (mkF m pc Ls (.int y :: .long x :: S))) := by
  subst hp; exact own_st (fun t k => XS.lushr X.here hx rfl hd rfl k) h
theorem own_ineg {Φ : Outcome → State → Prop} (X : Stand p l e R s m args below meth c T locs cells slots) (hx : p.tables.exec = Jvm.exec) {pc : Nat} (pc' : Nat) {Ls : Array Slot} {S : List Value} {x : Int32} (hd : decode c.code pc = .ok (.ineg, 1)) (h : own_Gs p e below Φ (T.setTop (mkF m pc' Ls (.int (-x) :: S)))) (hp : pc + 1 = pc' := by rfl) : own_Gs p e below Φ (T.setTop (mkF m pc Ls (.int x :: S))) := by
  subst hp; exact own_st (fun t k => XS.ineg X.here hx rfl hd rfl k) h
theorem own_lneg {Φ : Outcome → State → Prop} (X : Stand p l e R s m args below meth c T locs cells slots) (hx : p.tables.exec = Jvm.exec) {pc : Nat} (pc' : Nat) {Ls : Array Slot} {S : List Value} {x : Int64} (hd : decode c.code pc = .ok (.lneg, 1)) (h : own_Gs p e below Φ (T.setTop (mkF m pc' Ls (.long (-x) :: S)))) (hp : pc + 1 = pc' := by rfl) : own_Gs p e below Φ (T.setTop (mkF m pc Ls (.long x :: S))) := by
  subst hp; exact own_st (fun t k => XS.lneg X.here hx rfl hd rfl k) h
theorem own_i2l {Φ : Outcome → State → Prop} (X : Stand p l e R s m args below meth c T locs cells slots) (hx : p.tables.exec = Jvm.exec) {pc : Nat} (pc' : Nat) {Ls : Array Slot} {S : List Value} {x : Int32} (hd : decode c.code pc = .ok (.i2l, 1)) (h : own_Gs p e below Φ (T.setTop (mkF m pc' Ls (.long (x.toInt64) :: S)))) (hp : pc + 1 = pc' := by rfl) : own_Gs p e below Φ (T.setTop (mkF m pc Ls (.int x :: S))) := by
  subst hp; exact own_st (fun t k => XS.i2l X.here hx rfl hd rfl k) h
theorem own_l2i {Φ : Outcome → State → Prop} (X : Stand p l e R s m args below meth c T locs cells slots) (hx : p.tables.exec = Jvm.exec) {pc : Nat} (pc' : Nat) {Ls : Array Slot} {S : List Value} {x : Int64} (hd : decode c.code pc = .ok (.l2i, 1)) (h : own_Gs p e below Φ (T.setTop (mkF m pc' Ls (.int (x.toInt32) :: S)))) (hp : pc + 1 = pc' := by rfl) : own_Gs p e below Φ (T.setTop (mkF m pc Ls (.long x :: S))) := by
  subst hp; exact own_st (fun t k => XS.l2i X.here hx rfl hd rfl k) h
theorem own_i2b {Φ : Outcome → State → Prop} (X : Stand p l e R s m args below meth c T locs cells slots) (hx : p.tables.exec = Jvm.exec) {pc : Nat} (pc' : Nat) {Ls : Array Slot} {S : List Value} {x : Int32} (hd : decode c.code pc = .ok (.i2b, 1)) (h : own_Gs p e below Φ (T.setTop (mkF m pc' Ls (.int (x.toInt8.toInt32) :: S)))) (hp : pc + 1 = pc' := by rfl) : own_Gs p e below Φ (T.setTop (mkF m pc Ls (.int x :: S))) := by
  subst hp; exact own_st (fun t k => XS.i2b X.here hx rfl hd rfl k) h
theorem own_i2s {Φ : Outcome → State → Prop} (X : Stand p l e R s m args below meth c T locs cells slots) (hx : p.tables.exec = Jvm.exec) {pc : Nat} (pc' : Nat) {Ls : Array Slot} {S : List Value} {x : Int32} (hd : decode c.code pc = .ok (.i2s, 1)) (h : own_Gs p e below Φ (T.setTop (mkF m pc' Ls (.int (x.toInt16.toInt32) :: S)))) (hp : pc + 1 = pc' := by rfl) : own_Gs p e below Φ (T.setTop (mkF m pc Ls (.int x :: S))) := by
  subst hp; exact own_st (fun t k => XS.i2s X.here hx rfl hd rfl k) h
theorem own_i2c {Φ : Outcome → State → Prop} (X : Stand p l e R s m args below meth c T locs cells slots) (hx : p.tables.exec = Jvm.exec) {pc : Nat} (pc' : Nat) {Ls : Array Slot} {S : List Value} {x : Int32} (hd : decode c.code pc = .ok (.i2c, 1)) (h : own_Gs p e below Φ (T.setTop (mkF m pc' Ls (.int (x.toUInt32.toUInt16.toUInt32.toInt32) :: S)))) (hp : pc + 1 = pc' := by rfl) : own_Gs p e below Φ (T.setTop (mkF m pc Ls (.int x :: S))) := by
  subst hp; exact own_st (fun t k => XS.i2c X.here hx rfl hd rfl k) h
theorem own_lcmp {Φ : Outcome → State → Prop} (X : Stand p l e R s m args below meth c T locs cells slots) (hx : p.tables.exec = Jvm.exec) {pc : Nat} (pc' : Nat) {Ls : Array Slot} {S : List Value} {x y : Int64} (hd : decode c.code pc = .ok (.lcmp, 1)) (h : own_Gs p e below Φ (T.setTop (mkF m pc' Ls (.int (lcmpW x y) :: S)))) (hp : pc + 1 = pc' := by rfl) : own_Gs p e below Φ (T.setTop (mkF m pc Ls (.long y :: .long x :: S))) := by
  subst hp; exact own_st (fun t k => XS.lcmp X.here hx rfl hd rfl k) h
theorem own_iinc {Φ : Outcome → State → Prop} (X : Stand p l e R s m args below meth c T locs cells slots) (hx : p.tables.exec = Jvm.exec) {pc : Nat} (pc' : Nat) {Ls : Array Slot} {S : List Value} {i : Nat} {cst : Int} {x : Int32} (z : Int32) (l' : Array Slot) (hd : decode c.code pc = .ok (.iinc i cst, 3)) (hl : Ls[i]? = some (.val (.int x))) (hz : Int32.ofInt cst = z) (hl' : storeLocals Ls i (.int (x + z)) = some l') (h : own_Gs p e below Φ (T.setTop (mkF m pc' l' (S)))) (hp : pc + 3 = pc' := by rfl) : own_Gs p e below Φ (T.setTop (mkF m pc Ls (S))) := by
  subst hp; exact own_st (fun t k => XS.iinc X.here hx rfl hd hl (hz ▸ hl') k) h
theorem own_dup {Φ : Outcome → State → Prop} (X : Stand p l e R s m args below meth c T locs cells slots) (hx : p.tables.exec = Jvm.exec) {pc : Nat} (pc' : Nat) {Ls : Array Slot} {S : List Value} {v : Value} (hd : decode c.code pc = .ok (.dup, 1)) (hc : v.category = 1) (h : own_Gs p e below Φ (T.setTop (mkF m pc' Ls (v :: v :: S)))) (hp : pc + 1 = pc' := by rfl) : own_Gs p e below Φ (T.setTop (mkF m pc Ls (v :: S))) := by
  subst hp; exact own_st (fun t k => XS.dup X.here hx rfl hd rfl hc k) h
theorem own_pop {Φ : Outcome → State → Prop} (X : Stand p l e R s m args below meth c T locs cells slots) (hx : p.tables.exec = Jvm.exec) {pc : Nat} (pc' : Nat) {Ls : Array Slot} {S : List Value} {v : Value} (hd : decode c.code pc = .ok (.pop, 1)) (hc : v.category = 1) (h : own_Gs p e below Φ (T.setTop (mkF m pc' Ls (S)))) (hp : pc + 1 = pc' := by rfl) : own_Gs p e below Φ (T.setTop (mkF m pc Ls (v :: S))) := by
  subst hp; exact own_st (fun t k => XS.pop X.here hx rfl hd rfl hc k) h
theorem own_dupX1 {Φ : Outcome → State → Prop} (X : Stand p l e R s m args below meth c T locs cells slots) (hx : p.tables.exec = Jvm.exec) {pc : Nat} (pc' : Nat) {Ls : Array Slot} {S : List Value} {v w : Value} (hd : decode c.code pc = .ok (.dup_x1, 1)) (hc : v.category = 1) (hc' : w.category = 1) (h : own_Gs p e below Φ (T.setTop (mkF m pc' Ls (v :: w :: v :: S)))) (hp : pc + 1 = pc' := by rfl) : own_Gs p e below Φ (T.setTop (mkF m pc Ls (v :: w :: S))) := by
  subst hp; exact own_st (fun t k => XS.dupX1 X.here hx rfl hd rfl hc hc' k) h
theorem own_dup2 {Φ : Outcome → State → Prop} (X : Stand p l e R s m args below meth c T locs cells slots) (hx : p.tables.exec = Jvm.exec) {pc : Nat} (pc' : Nat) {Ls : Array Slot} {S : List Value} {v w : Value} (hd : decode c.code pc = .ok (.dup2, 1)) (hc : v.category = 1) (hc' : w.category = 1) (h : own_Gs p e below Φ (T.setTop (mkF m pc' Ls (v :: w :: v :: w :: S)))) (hp : pc + 1 = pc' := by rfl) : own_Gs p e below Φ (T.setTop (mkF m pc Ls (v :: w :: S))) := by
  subst hp; exact own_st (fun t k => Jvm.Free.XT.dup2 X.here hx rfl hd rfl hc hc' k) h
theorem own_dup2L {Φ : Outcome → State → Prop} (X : Stand p l e R s m args below meth c T locs cells slots) (hx : p.tables.exec = Jvm.exec) {pc : Nat} (pc' : Nat) {Ls : Array Slot} {S : List Value} {x : Int64} (hd : decode c.code pc = .ok (.dup2, 1)) (h : own_Gs p e below Φ (T.setTop (mkF m pc' Ls (.long x :: .long x :: S)))) (hp : pc + 1 = pc' := by rfl) : own_Gs p e below Φ (T.setTop (mkF m pc Ls (.long x :: S))) := by
  subst hp; exact own_st (fun t k => Jvm.Free.XT.dup2L X.here hx rfl hd rfl k) h
theorem own_dloadN {Φ : Outcome → State → Prop} (X : Stand p l e R s m args below meth c T locs cells slots) (hx : p.tables.exec = Jvm.exec) {pc : Nat} (pc' : Nat) {Ls : Array Slot} {S : List Value} {k : Fin 4} {v : UInt64} (hd : decode c.code pc = .ok (.dload_n k, 1)) (hl : Ls[k.val]? = some (.val (.double v))) (h : own_Gs p e below Φ (T.setTop (mkF m pc' Ls (.double v :: S)))) (hp : pc + 1 = pc' := by rfl) : own_Gs p e below Φ (T.setTop (mkF m pc Ls (S))) := by
  subst hp; exact own_st (fun t k => XS.dloadN X.here hx rfl hd hl k) h
theorem own_dload {Φ : Outcome → State → Prop} (X : Stand p l e R s m args below meth c T locs cells slots) (hx : p.tables.exec = Jvm.exec) {pc : Nat} (pc' : Nat) {Ls : Array Slot} {S : List Value} {k : Nat} {v : UInt64} (hd : decode c.code pc = .ok (.dload k, 2)) (hl : Ls[k]? = some (.val (.double v))) (h : own_Gs p e below Φ (T.setTop (mkF m pc' Ls (.double v :: S)))) (hp : pc + 2 = pc' := by rfl) : own_Gs p e below Φ (T.setTop (mkF m pc Ls (S))) := by
  subst hp; exact own_st (fun t k => XS.dload X.here hx rfl hd hl k) h
theorem own_dstoreN {Φ : Outcome → State → Prop} (X : Stand p l e R s m args below meth c T locs cells slots) (hx : p.tables.exec = Jvm.exec) {pc : Nat} (pc' : Nat) {Ls : Array Slot} {S : List Value} {k : Fin 4} {v : UInt64} (l' : Array Slot) (hd : decode c.code pc = .ok (.dstore_n k, 1)) (hl : storeLocals Ls k.val (.double v) = some l') (h : own_Gs p e below Φ (T.setTop (mkF m pc' l' (S)))) (hp : pc + 1 = pc' := by rfl) : own_Gs p e below Φ (T.setTop (mkF m pc Ls (.double v :: S))) := by
  subst hp; exact own_st (fun t k => XS.dstoreN X.here hx rfl hd rfl hl k) h
theorem own_dstore {Φ : Outcome → State → Prop} (X : Stand p l e R s m args below meth c T locs cells slots) (hx : p.tables.exec = Jvm.exec) {pc : Nat} (pc' : Nat) {Ls : Array Slot} {S : List Value} {k : Nat} {v : UInt64} (l' : Array Slot) (hd : decode c.code pc = .ok (.dstore k, 2)) (hl : storeLocals Ls k (.double v) = some l') (h : own_Gs p e below Φ (T.setTop (mkF m pc' l' (S)))) (hp : pc + 2 = pc' := by rfl) : own_Gs p e below Φ (T.setTop (mkF m pc Ls (.double v :: S))) := by
  subst hp; exact own_st (fun t k => XS.dstore X.here hx rfl hd rfl hl k) h
theorem own_dconst0 {Φ : Outcome → State → Prop} (X : Stand p l e R s m args below meth c T locs cells slots) (hx : p.tables.exec = Jvm.exec) {pc : Nat} (pc' : Nat) {Ls : Array Slot} {S : List Value}  (hd : decode c.code pc = .ok (.dconst 0, 1)) (h : own_Gs p e below Φ (T.setTop (mkF m pc' Ls (.double FP.dconst0 :: S)))) (hp : pc + 1 = pc' := by rfl) : own_Gs p e below Φ (T.setTop (mkF m pc Ls (S))) := by
  subst hp; exact own_st (fun t k => XS.dconst0 X.here hx rfl hd rfl k) h
theorem own_dconst1 {Φ : Outcome → State → Prop} (X : Stand p l e R s m args below meth c T locs cells slots) (hx : p.tables.exec = Jvm.exec) {pc : Nat} (pc' : Nat) {Ls : Array Slot} {S : List Value}  (hd : decode c.code pc = .ok (.dconst 1, 1)) (h : own_Gs p e below Φ (T.setTop (mkF m pc' Ls (.double FP.dconst1 :: S)))) (hp : pc + 1 = pc' := by rfl) : own_Gs p e below Φ (T.setTop (mkF m pc Ls (S))) := by
  subst hp; exact own_st (fun t k => XS.dconst1 X.here hx rfl hd rfl k) h
theorem own_l2d {Φ : Outcome → State → Prop} (X : Stand p l e R s m args below meth c T locs cells slots) (hx : p.tables.exec = Jvm.exec) {pc : Nat} (pc' : Nat) {Ls : Array Slot} {S : List Value} {x : Int64} (hd : decode c.code pc = .ok (.l2d, 1)) (h : own_Gs p e below Φ (T.setTop (mkF m pc' Ls (.double (FP.l2d x) :: S)))) (hp : pc + 1 = pc' := by rfl) : own_Gs p e below Φ (T.setTop (mkF m pc Ls (.long x :: S))) := by
  subst hp; exact own_st (fun t k => XS.l2dS X.here hx rfl hd rfl rfl k) h
theorem own_i2d {Φ : Outcome → State → Prop} (X : Stand p l e R s m args below meth c T locs cells slots) (hx : p.tables.exec = Jvm.exec) {pc : Nat} (pc' : Nat) {Ls : Array Slot} {S : List Value} {x : Int32} (hd : decode c.code pc = .ok (.i2d, 1)) (h : own_Gs p e below Φ (T.setTop (mkF m pc' Ls (.double (FP.i2d x) :: S)))) (hp : pc + 1 = pc' := by rfl) : own_Gs p e below Φ (T.setTop (mkF m pc Ls (.int x :: S))) := by
  subst hp; exact own_st (fun t k => XS.i2dS X.here hx rfl hd rfl rfl k) h
theorem own_dneg {Φ : Outcome → State → Prop} (X : Stand p l e R s m args below meth c T locs cells slots) (hx : p.tables.exec = Jvm.exec) {pc : Nat} (pc' : Nat) {Ls : Array Slot} {S : List Value} {x : UInt64} (hd : decode c.code pc = .ok (.dneg, 1)) (h : own_Gs p e below Φ (T.setTop (mkF m pc' Ls (.double (FP.dneg x) :: S)))) (hp : pc + 1 = pc' := by rfl) : own_Gs p e below Φ (T.setTop (mkF m pc Ls (.double x :: S))) := by
  subst hp; exact own_st (fun t k => XS.dnegS X.here hx rfl hd rfl rfl k) h
theorem own_dadd {Φ : Outcome → State → Prop} (X : Stand p l e R s m args below meth c T locs cells slots) (hx : p.tables.exec = Jvm.exec) {pc : Nat} (pc' : Nat) {Ls : Array Slot} {S : List Value} {x y : UInt64} (hd : decode c.code pc = .ok (.dadd, 1)) (hn : Jvm.Free.Fl.NoNaN64 (FP.dadd x y)) (h : own_Gs p e below Φ (T.setTop (mkF m pc' Ls (.double (FP.dadd x y) :: S)))) (hp : pc + 1 = pc' := by rfl) : own_Gs p e below Φ (T.setTop (mkF m pc Ls (.double y :: .double x :: S))) := by
  subst hp; exact own_st (fun t k => XS.daddS X.here hx rfl hd rfl hn rfl k) h
theorem own_dsub {Φ : Outcome → State → Prop} (X : Stand p l e R s m args below meth c T locs cells slots) (hx : p.tables.exec = Jvm.exec) {pc : Nat} (pc' : Nat) {Ls : Array Slot} {S : List Value} {x y : UInt64} (hd : decode c.code pc = .ok (.dsub, 1)) (hn : Jvm.Free.Fl.NoNaN64 (FP.dsub x y)) (h : own_Gs p e below Φ (T.setTop (mkF m pc' Ls (.double (FP.dsub x y) :: S)))) (hp : pc + 1 = pc' := by rfl) : own_Gs p e below Φ (T.setTop (mkF m pc Ls (.double y :: .double x :: S))) := by
  subst hp; exact own_st (fun t k => XS.dsubS X.here hx rfl hd rfl hn rfl k) h
theorem own_dmul {Φ : Outcome → State → Prop} (X : Stand p l e R s m args below meth c T locs cells slots) (hx : p.tables.exec = Jvm.exec) {pc : Nat} (pc' : Nat) {Ls : Array Slot} {S : List Value} {x y : UInt64} (hd : decode c.code pc = .ok (.dmul, 1)) (hn : Jvm.Free.Fl.NoNaN64 (FP.dmul x y)) (h : own_Gs p e below Φ (T.setTop (mkF m pc' Ls (.double (FP.dmul x y) :: S)))) (hp : pc + 1 = pc' := by rfl) : own_Gs p e below Φ (T.setTop (mkF m pc Ls (.double y :: .double x :: S))) := by
  subst hp; exact own_st (fun t k => XS.dmulS X.here hx rfl hd rfl hn rfl k) h
theorem own_ddiv {Φ : Outcome → State → Prop} (X : Stand p l e R s m args below meth c T locs cells slots) (hx : p.tables.exec = Jvm.exec) {pc : Nat} (pc' : Nat) {Ls : Array Slot} {S : List Value} {x y : UInt64} (hd : decode c.code pc = .ok (.ddiv, 1)) (hn : Jvm.Free.Fl.NoNaN64 (FP.ddiv x y)) (h : own_Gs p e below Φ (T.setTop (mkF m pc' Ls (.double (FP.ddiv x y) :: S)))) (hp : pc + 1 = pc' := by rfl) : own_Gs p e below Φ (T.setTop (mkF m pc Ls (.double y :: .double x :: S))) := by
  subst hp; exact own_st (fun t k => XS.ddivS X.here hx rfl hd rfl hn rfl k) h
theorem own_dcmp {Φ : Outcome → State → Prop} (X : Stand p l e R s m args below meth c T locs cells slots) (hx : p.tables.exec = Jvm.exec) {pc : Nat} (pc' : Nat) {Ls : Array Slot} {S : List Value} {x y : UInt64} {o : CmpOp} (z : Int32) (hd : decode c.code pc = .ok (.dcmp o, 1)) (hz : cmpValue (FP.dcmp x y) o = z) (h : own_Gs p e below Φ (T.setTop (mkF m pc' Ls (.int z :: S)))) (hp : pc + 1 = pc' := by rfl) : own_Gs p e below Φ (T.setTop (mkF m pc Ls (.double y :: .double x :: S))) := by
  subst hp; exact own_st (fun t k => XS.dcmpS X.here hx rfl hd rfl hz k) h
theorem own_goto {Φ : Outcome → State → Prop} (X : Stand p l e R s m args below meth c T locs cells slots) (hx : p.tables.exec = Jvm.exec) {pc : Nat} (pc' : Nat) {Ls : Array Slot} {S : List Value} {o : Int}  (hd : decode c.code pc = .ok (.goto o, 3)) (h : own_Gs p e below Φ (T.setTop (mkF m pc' Ls S))) (hp : decide (0 ≤ (pc : Int) + o ∧ ((pc : Int) + o).toNat = pc') = true := by rfl) : own_Gs p e below Φ (T.setTop (mkF m pc Ls (S))) := by
  have q := of_decide_eq_true hp; exact own_st (fun t k => XS.goto X.here hx rfl (pc0 := pc) (pc' := pc') rfl hd q.1 q.2 k) h
theorem own_ifYes {Φ : Outcome → State → Prop} (X : Stand p l e R s m args below meth c T locs cells slots) (hx : p.tables.exec = Jvm.exec) {pc : Nat} (pc' : Nat) {Ls : Array Slot} {S : List Value} {o : Int} {cd : ClassFile.Cond} {x : Int32} (hd : decode c.code pc = .ok (.ifCond cd o, 3)) (hc : if_icmp.holds cd x 0 = true) (h : own_Gs p e below Φ (T.setTop (mkF m pc' Ls S))) (hp : decide (0 ≤ (pc : Int) + o ∧ ((pc : Int) + o).toNat = pc') = true := by rfl) : own_Gs p e below Φ (T.setTop (mkF m pc Ls (.int x :: S))) := by
  have q := of_decide_eq_true hp; exact own_st (fun t k => XS.ifYes X.here hx rfl (pc0 := pc) (pc' := pc') rfl hd rfl ((if0 _ _).trans hc) q.1 q.2 k) h
theorem own_ifNo {Φ : Outcome → State → Prop} (X : Stand p l e R s m args below meth c T locs cells slots) (hx : p.tables.exec = Jvm.exec) {pc : Nat} (pc' : Nat) {Ls : Array Slot} {S : List Value} {o : Int} {cd : ClassFile.Cond} {x : Int32} (hd : decode c.code pc = .ok (.ifCond cd o, 3)) (hc : if_icmp.holds cd x 0 = false) (h : own_Gs p e below Φ (T.setTop (mkF m pc' Ls S))) (hp : pc + 3 = pc' := by rfl) : own_Gs p e below Φ (T.setTop (mkF m pc Ls (.int x :: S))) := by
  subst hp; exact own_st (fun t k => XS.ifNo X.here hx rfl hd rfl ((if0 _ _).trans hc) k) h
theorem own_icmpYes {Φ : Outcome → State → Prop} (X : Stand p l e R s m args below meth c T locs cells slots) (hx : p.tables.exec = Jvm.exec) {pc : Nat} (pc' : Nat) {Ls : Array Slot} {S : List Value} {o : Int} {cd : ClassFile.Cond} {x y : Int32} (hd : decode c.code pc = .ok (.if_icmp cd o, 3)) (hc : if_icmp.holds cd x y = true) (h : own_Gs p e below Φ (T.setTop (mkF m pc' Ls S))) (hp : decide (0 ≤ (pc : Int) + o ∧ ((pc : Int) + o).toNat = pc') = true := by rfl) : own_Gs p e below Φ (T.setTop (mkF m pc Ls (.int y :: .int x :: S))) := by
  have q := of_decide_eq_true hp; exact own_st (fun t k => XS.icmpYes X.here hx rfl (pc0 := pc) (pc' := pc') rfl hd rfl hc q.1 q.2 k) h
theorem own_icmpNo {Φ : Outcome → State → Prop} (X : Stand p l e R s m args below meth c T locs cells slots) (hx : p.tables.exec = Jvm.exec) {pc : Nat} (pc' : Nat) {Ls : Array Slot} {S : List Value} {o : Int} {cd : ClassFile.Cond} {x y : Int32} (hd : decode c.code pc = .ok (.if_icmp cd o, 3)) (hc : if_icmp.holds cd x y = false) (h : own_Gs p e below Φ (T.setTop (mkF m pc' Ls S))) (hp : pc + 3 = pc' := by rfl) : own_Gs p e below Φ (T.setTop (mkF m pc Ls (.int y :: .int x :: S))) := by
  subst hp; exact own_st (fun t k => XS.icmpNo X.here hx rfl hd rfl hc k) h
theorem own_ifnullYes {Φ : Outcome → State → Prop} (X : Stand p l e R s m args below meth c T locs cells slots) (hx : p.tables.exec = Jvm.exec) {pc : Nat} (pc' : Nat) {Ls : Array Slot} {S : List Value} {o : Int}  (hd : decode c.code pc = .ok (.ifnull o, 3)) (h : own_Gs p e below Φ (T.setTop (mkF m pc' Ls S))) (hp : decide (0 ≤ (pc : Int) + o ∧ ((pc : Int) + o).toNat = pc') = true := by rfl) : own_Gs p e below Φ (T.setTop (mkF m pc Ls (.null :: S))) := by
  have q := of_decide_eq_true hp; exact own_st (fun t k => XS.ifnullYes X.here hx rfl (pc0 := pc) (pc' := pc') rfl hd rfl q.1 q.2 k) h
theorem own_ifnullNo {Φ : Outcome → State → Prop} (X : Stand p l e R s m args below meth c T locs cells slots) (hx : p.tables.exec = Jvm.exec) {pc : Nat} (pc' : Nat) {Ls : Array Slot} {S : List Value} {o : Int} {b : Addr} (hd : decode c.code pc = .ok (.ifnull o, 3)) (h : own_Gs p e below Φ (T.setTop (mkF m pc' Ls S))) (hp : pc + 3 = pc' := by rfl) : own_Gs p e below Φ (T.setTop (mkF m pc Ls (.ref b :: S))) := by
  subst hp; exact own_st (fun t k => XS.ifnullNo X.here hx rfl hd rfl k) h
theorem own_ifnonnullYes {Φ : Outcome → State → Prop} (X : Stand p l e R s m args below meth c T locs cells slots) (hx : p.tables.exec = Jvm.exec) {pc : Nat} (pc' : Nat) {Ls : Array Slot} {S : List Value} {o : Int} {b : Addr} (hd : decode c.code pc = .ok (.ifnonnull o, 3)) (h : own_Gs p e below Φ (T.setTop (mkF m pc' Ls S))) (hp : decide (0 ≤ (pc : Int) + o ∧ ((pc : Int) + o).toNat = pc') = true := by rfl) : own_Gs p e below Φ (T.setTop (mkF m pc Ls (.ref b :: S))) := by
  have q := of_decide_eq_true hp; exact own_st (fun t k => XS.ifnonnullYes X.here hx rfl (pc0 := pc) (pc' := pc') rfl hd rfl q.1 q.2 k) h
theorem own_ifnonnullNo {Φ : Outcome → State → Prop} (X : Stand p l e R s m args below meth c T locs cells slots) (hx : p.tables.exec = Jvm.exec) {pc : Nat} (pc' : Nat) {Ls : Array Slot} {S : List Value} {o : Int}  (hd : decode c.code pc = .ok (.ifnonnull o, 3)) (h : own_Gs p e below Φ (T.setTop (mkF m pc' Ls S))) (hp : pc + 3 = pc' := by rfl) : own_Gs p e below Φ (T.setTop (mkF m pc Ls (.null :: S))) := by
  subst hp; exact own_st (fun t k => XS.ifnonnullNo X.here hx rfl hd rfl k) h
theorem own_acmp {Φ : Outcome → State → Prop} (X : Stand p l e R s m args below meth c T locs cells slots) (hx : p.tables.exec = Jvm.exec) {pc : Nat} (pc' : Nat) {Ls : Array Slot} {S : List Value} {o : Int} {cd : ACond} {v w : Value} (same : Bool) (hd : decode c.code pc = .ok (.if_acmp cd o, 3)) (h1 : v.isRef = true) (h2 : w.isRef = true) (hq : decide (v = w) = same) (h : own_Gs p e below Φ (T.setTop (mkF m pc' Ls S))) (hp : decide (0 ≤ (pc : Int) + o ∧ pc' = if acV cd same = true then ((pc : Int) + o).toNat else pc + 3) = true := by rfl) : own_Gs p e below Φ (T.setTop (mkF m pc Ls (w :: v :: S))) := by
  have q := of_decide_eq_true hp; exact own_st (fun t k => Jvm.RoadKit.acmp (g := mkF m pc Ls (w :: v :: S)) X hx rfl h1 h2 (pc0 := pc) (pc' := pc') (same := same) rfl hd rfl hq q.1 q.2 k) h
theorem own_ldcI {Φ : Outcome → State → Prop} (X : Stand p l e R s m args below meth c T locs cells slots) (hx : p.tables.exec = Jvm.exec) {pc : Nat} (pc' : Nat) {Ls : Array Slot} {S : List Value} {own : String} {index : Nat} {v : Int32} (hown : s.vm.findClass own = some m.cls) (hw : (Jvm.Cond.constant own index v).before args s = true) (hd : decode c.code pc = .ok (.ldc index, 2)) (h : own_Gs p e below Φ (T.setTop (mkF m pc' Ls (.int v :: S)))) (hp : pc + 2 = pc' := by rfl) : own_Gs p e below Φ (T.setTop (mkF m pc Ls S)) := by
  subst hp; exact own_st (fun t k => X.ldcInt hx hown hw (g := mkF m pc Ls S) rfl hd _ k) h
theorem own_ldcwI {Φ : Outcome → State → Prop} (X : Stand p l e R s m args below meth c T locs cells slots) (hx : p.tables.exec = Jvm.exec) {pc : Nat} (pc' : Nat) {Ls : Array Slot} {S : List Value} {own : String} {index : Nat} {v : Int32} (hown : s.vm.findClass own = some m.cls) (hw : (Jvm.Cond.constant own index v).before args s = true) (hd : decode c.code pc = .ok (.ldc_w index, 3)) (h : own_Gs p e below Φ (T.setTop (mkF m pc' Ls (.int v :: S)))) (hp : pc + 3 = pc' := by rfl) : own_Gs p e below Φ (T.setTop (mkF m pc Ls S)) := by
  subst hp; exact own_st (fun t k => X.ldcwInt hx hown hw (g := mkF m pc Ls S) rfl hd _ k) h
theorem own_ldcL {Φ : Outcome → State → Prop} (X : Stand p l e R s m args below meth c T locs cells slots) (hx : p.tables.exec = Jvm.exec) {pc : Nat} (pc' : Nat) {Ls : Array Slot} {S : List Value} {own : String} {index : Nat} {v : Int64} (hown : s.vm.findClass own = some m.cls) (hw : (Jvm.Cond.constantLong own index v).before args s = true) (hd : decode c.code pc = .ok (.ldc2_w index, 3)) (h : own_Gs p e below Φ (T.setTop (mkF m pc' Ls (.long v :: S)))) (hp : pc + 3 = pc' := by rfl) : own_Gs p e below Φ (T.setTop (mkF m pc Ls S)) := by
  subst hp; exact own_st (fun t k => X.ldc2Long hx hown hw (g := mkF m pc Ls S) rfl hd _ k) h
theorem own_ldcD {Φ : Outcome → State → Prop} (X : Stand p l e R s m args below meth c T locs cells slots) (hx : p.tables.exec = Jvm.exec) {pc : Nat} (pc' : Nat) {Ls : Array Slot} {S : List Value} {own : String} {index : Nat} {v : UInt64} (hown : s.vm.findClass own = some m.cls) (hw : (Jvm.Cond.constantDouble own index v).before args s = true) (hd : decode c.code pc = .ok (.ldc2_w index, 3)) (h : own_Gs p e below Φ (T.setTop (mkF m pc' Ls (.double v :: S)))) (hp : pc + 3 = pc' := by rfl) : own_Gs p e below Φ (T.setTop (mkF m pc Ls S)) := by
  subst hp; exact own_st (fun t k => X.ldc2DoubleC hx hown hw (g := mkF m pc Ls S) rfl hd _ k) h
theorem own_pop2L {Φ : Outcome → State → Prop} (X : Stand p l e R s m args below meth c T locs cells slots) (hx : p.tables.exec = Jvm.exec) {pc : Nat} (pc' : Nat) {Ls : Array Slot} {S : List Value} {x : Int64} (hd : decode c.code pc = .ok (.pop2, 1)) (h : own_Gs p e below Φ (T.setTop (mkF m pc' Ls S))) (hp : pc + 1 = pc' := by rfl) : own_Gs p e below Φ (T.setTop (mkF m pc Ls (.long x :: S))) := by
  subst hp
  refine own_st (fun t k => ?_) h
  show Steps p.tables e below (T.setTop { method := m, pc := pc, locals := Ls, stack := .long x :: S, locked := none }) _
  jvm_step X.here [X.here.top, hx, hd, Value.category]
  exact k
-- end of steps
theorem own_leafI {z w : Int32} (h : z = w) : some (Value.int z) = some (Value.int w) := by rw [h]
theorem own_leafJ {z w : Int64} (h : z = w) : some (Value.long z) = some (Value.long w) := by rw [h]
theorem own_leafR {z w : Addr} (h : z = w) : some (Value.ref z) = some (Value.ref w) := by rw [h]
theorem own_selfsel {Z s : State} {a0 args : Array Value} {y : MethodName} {n : Nat} (hZ : Z.Warmed39 s.vm) (wi : (Jvm.Cond.instantiable y.cls n).before a0 Z = true) (wm : (Jvm.Cond.instanceMethod y).before a0 Z = true) (wp : (Jvm.Cond.privateMethod y).before a0 Z = true) (hy : y.cls ≠ "java/lang/invoke/MethodHandle" ∧ y.cls ≠ "java/lang/invoke/VarHandle") : (Jvm.Cond.selects y.cls y y).before args s = true := by
  have wi' : (Jvm.Cond.instantiable y.cls n).before args s = true := mvT hZ wi
  obtain ⟨c, k, h1, h2, h3, h4, h5, h6⟩ := Cond.instantiable_spec wi'
  exact selects_self_of_private h1 h2 (by simp only [Bool.or_eq_false_iff] at h4; exact h4.1) (Cond.privateMethod_at (mvP hZ wp (args := #[]))) (mvT hZ wm) hy
theorem own_sta {Z : State} {a0 : Array Value} {C n d K : String} (hx : (Jvm.Cond.exactly (Term.static C n d) K).value a0 Z none Z [] = some true) (hi : (Jvm.Cond.initializedFor C n d).before a0 Z = true ∨ ((Jvm.Cond.initialized C).before a0 Z = true ∧ (Jvm.Cond.laysStatic C n d).before a0 Z = true)) :
    ∃ a : Addr, (Term.static C n d).eval a0 Z none [] Z = some (.ref a) ∧ Sta Z Z.heap C n d (.ref a) ∧ Exa Z Z.heap a K := by
  obtain ⟨a, ha⟩ := exa_v hx
  exact ⟨a, ha, Sta.start ha hi, Exa.start ha hx⟩
theorem own_fldI {Z : State} {a0 : Array Value} {t : Term} {a : Addr} {C n d : String} {k : Int32} (ev : t.eval a0 Z none [] Z = some (.ref a)) (h : (Jvm.Cond.eq (Term.field t C n d) (Term.int k)).value a0 Z none Z [] = some true) : Fld Z Z.heap a C n d (.int k) := by
  refine Fld.start ?_
  rw [← fld_at (args := a0) (first := Z) (o := none) (idx := []) ev]
  obtain ⟨x, y, h1, h2, h3, h4⟩ := cmp_v (Or.inl h)
  rw [Term.int_eval] at h2
  cases h2
  obtain ⟨z, rfl⟩ := h4
  have q : (Jvm.Cond.eq (Term.field t C n d) (Term.int k)).value a0 Z none Z [] = some (decide (z = k)) := Cond.eq_ints h1 (Term.int_eval k)
  rw [h1, gotT q h]
end Own
theorem own_nsno {Z : State} {a0 : Array Value} {C O K : String} {n : Nat} (w1 : (Jvm.Cond.superclass C O).before a0 Z = true) (w0 : (Jvm.Cond.noSuperclass O).before a0 Z = true) (wi : (Jvm.Cond.instantiable K n).before a0 Z = true) (h1 : C ≠ K) (h2 : O ≠ K) :
    ∃ c t, Z.vm.findClass C = some c ∧ Z.vm.findClass K = some t ∧ Z.vm.assignable c t = false := by
  obtain ⟨t, kt, g1, g2, g5, g6, -, -⟩ := Cond.instantiable_spec wi
  have g7 : kt.isInterface = false := by
    simp only [Bool.or_eq_false_iff] at g6; exact g6.1
  obtain ⟨o, ko, o1, o2, o3, -, -⟩ := Cond.noSuperclass_spec w0
  have ne0 := ids_ne o1 g1 h2
  have n0 : ∀ fuel, Z.vm.isSubclassAux fuel o t = false := fun fuel => by
    cases fuel with
    | zero => rfl
    | succ f => simp [Vm.isSubclassAux, ne0, o2, o3]
  obtain ⟨c, h0⟩ := found_sup w1
  obtain ⟨p, k, kp, q1, q2, q3, q4, q5, -, q7⟩ := Cond.superclass_spec h0 w1
  cases o1.symm.trans q1
  have ne := ids_ne h0 g1 h1
  have n3 : ∀ fuel, Z.vm.isSubclassAux fuel c t = false := fun fuel => by
    cases fuel with
    | zero => rfl
    | succ f => simp [Vm.isSubclassAux, ne, q2, q4, n0]
  refine ⟨c, t, h0, g1, ?_⟩
  show Z.vm.assignableAux (255 + 1) c t = false
  simp [Vm.assignableAux, ne, q2, g2, q5, g5, g7, Vm.isSubclass, n3]

/-! Strings of one or two known bytes -/
def own_sl (n x y : Int32) : List Value := if n = 1 then [.int x] else [.int x, .int y]
theorem own_sl1 (x y : Int32) : own_sl 1 x y = [.int x] := rfl
theorem own_sl2 (x y : Int32) : own_sl 2 x y = [.int x, .int y] := rfl
def own_B (x : Int32) : Prop := -128 ≤ x.toInt ∧ x.toInt ≤ 127
def own_N (n : Int32) : Prop := n = 1 ∨ n = 2
theorem own_bn (x : Int32) : own_B (nar .byte x) := by
  have h : (nar .byte x) = x.toInt8.toInt32 := rfl
  unfold own_B
  rw [h, Int8.toInt_toInt32]
  have h1 := Int8.le_toInt x.toInt8
  have h2 := Int8.toInt_lt x.toInt8
  omega
theorem own_n0 {n : Int32} (h : own_N n) : ¬ n = 0 := by rcases h with rfl | rfl <;> decide
theorem own_n200 {n : Int32} (h : own_N n) : ¬ (200 : Int32) < n := by rcases h with rfl | rfl <;> decide
theorem own_shr0 (n : Int32) : n >>> ((0 : Int32) &&& 31) = n := by
  have h : ((0 : Int32) &&& 31) = 0 := rfl
  rw [h]
  apply Int32.toBitVec_inj.mp
  simp
theorem own_c255 (v : Int32) : ¬ (255 : Int32) < nar .char ((v &&& (255 : Int32)).toUInt32.toUInt16.toUInt32.toInt32) := by
  have hm := c_mask v 255 8 (by decide) (by decide)
  generalize v &&& (255 : Int32) = w at *
  obtain ⟨k, rfl, hk⟩ : ∃ k : Nat, w = Int32.ofNat k ∧ k < 256 := by
    refine ⟨w.toInt.toNat, ?_, by omega⟩
    rw [← Int32.toInt_inj, Int32.toInt_ofNat_of_lt (by omega)]; omega
  have all : ∀ k : Nat, k < 256 → ¬ (255 : Int32) < nar .char ((Int32.ofNat k).toUInt32.toUInt16.toUInt32.toInt32) := by decide +kernel
  exact all k hk
def own_ch (x : Int32) : Int32 := nar .char ((x &&& (255 : Int32)).toUInt32.toUInt16.toUInt32.toInt32)
theorem own_ch2 (x : Int32) : nar .char (own_ch x) = own_ch x := by
  unfold own_ch
  generalize (x &&& (255 : Int32)).toUInt32.toUInt16.toUInt32.toInt32 = z
  show ((z.toUInt32.toUInt16.toUInt32.toInt32).toUInt32.toUInt16.toUInt32.toInt32) = z.toUInt32.toUInt16.toUInt32.toInt32
  have h : ∀ u : UInt16, (u.toUInt32.toInt32).toUInt32.toUInt16 = u := fun u => by
    apply UInt16.toBitVec_inj.mp
    simp
  rw [h]
theorem own_chI {x z : Int32} (hx : own_B x) (hz : own_B z) : own_ch x = own_ch z ↔ x = z := by
  refine ⟨fun h => ?_, fun h => by rw [h]⟩
  have inj : ∀ x : Int32, own_B x → ∃ k : Nat, k < 256 ∧ x = Int32.ofInt ((k : Int) - 128) := fun x h => by
    refine ⟨(x.toInt + 128).toNat, by have := h.1; have := h.2; omega, ?_⟩
    rw [← Int32.toInt_inj, Int32.toInt_ofInt_of_le (by have := h.1; have := h.2; omega) (by have := h.1; have := h.2; omega)]
    have := h.1; omega
  obtain ⟨a, ha, rfl⟩ := inj x hx
  obtain ⟨b, hb, rfl⟩ := inj z hz
  have all : ∀ k : Nat, k < 256 → (own_ch (Int32.ofInt ((k : Int) - 128))).toInt = (if k < 128 then (k : Int) + 128 else (k : Int) - 128) := by decide +kernel
  have e1 := all a ha
  have e2 := all b hb
  rw [h, e2] at e1
  have : a = b := by split at e1 <;> split at e1 <;> omega
  rw [this]
def own_eqB (n x y n2 x2 y2 : Int32) : Int32 := if n = n2 ∧ x = x2 ∧ (n = 1 ∨ y = y2) then 1 else 0
theorem own_sm {n x y n2 x2 y2 : Int32} (hn : own_N n) (hx : own_B x) (hy : own_B y) (hx2 : own_B x2) (hy2 : own_B y2) :
    own_eqB n x y n2 x2 y2 = (if n = n2 then if own_ch x = own_ch x2 then if n < (2 : Int32) then 1 else if own_ch y = own_ch y2 then 1 else 0 else 0 else 0) := by
  simp only [own_chI hx hx2, own_chI hy hy2]
  unfold own_eqB
  rcases hn with rfl | rfl
  · by_cases h1 : (1 : Int32) = n2 <;> by_cases h2 : x = x2 <;> simp [h1, h2]
    all_goals first | rfl | (subst h1; simp; try decide) | skip
  · by_cases h1 : (2 : Int32) = n2 <;> by_cases h2 : x = x2 <;> by_cases h3 : y = y2 <;> simp [h1, h2, h3]
    all_goals first | rfl | (subst h1; simp; try decide) | skip
theorem own_eq0 (n x y n2 x2 y2 : Int32) : own_eqB n x y n2 x2 y2 = 0 ∨ own_eqB n x y n2 x2 y2 = 1 := by unfold own_eqB; split <;> simp
theorem own_eq1 {n x y n2 x2 y2 : Int32} (h : ¬ own_eqB n x y n2 x2 y2 = 0) : (1 : Int32) = own_eqB n x y n2 x2 y2 := ((own_eq0 n x y n2 x2 y2).resolve_left h).symm
theorem own_eqs (n x y n2 x2 y2 : Int32) : own_eqB n x y n2 x2 y2 = own_eqB n2 x2 y2 n x y := by
  unfold own_eqB
  by_cases h : n = n2
  · subst h
    by_cases h2 : x = x2
    · subst h2
      by_cases h3 : y = y2
      · subst h3; rfl
      · have h4 : ¬ y2 = y := fun q => h3 q.symm
        simp [h3, h4]
    · have h4 : ¬ x2 = x := fun q => h2 q.symm
      simp [h2, h4]
  · have h4 : ¬ n2 = n := fun q => h q.symm
    simp [h, h4]
def own_keq (e f : Int32) : Int32 := if e = 0 then 0 else if f = 0 then 0 else 1
theorem own_in0 {n : Int32} (h : own_N n) : (¬ (0 : Int32) < 0 ∧ (0 : Int32) < n) := by rcases h with rfl | rfl <;> decide
theorem own_2 {n : Int32} (h : own_N n) (k : ¬ n < (2 : Int32)) : n = 2 := by rcases h with rfl | rfl <;> first | rfl | exact absurd (by decide) k
theorem own_N2 {n m : Int32} (h : n = m) (k : n = 2) : m = 2 := h ▸ k
theorem own_strs {Z : State} {a0 : Array Value} (hw : ∀ d ∈ tables_1, d.before a0 Z = true) : ∀ a ∈ Bundle.stringAtoms, a.before a0 Z = true := by
  intro a h
  simp only [Bundle.stringAtoms, List.mem_cons, List.not_mem_nil, or_false] at h
  rcases h with rfl | rfl | rfl | rfl | rfl | rfl | rfl
  · exact (hw _ (List.mem_of_getElem? (i := 7) rfl))
  · exact (hw _ (List.mem_of_getElem? (i := 6) rfl))
  · exact (hw _ (List.mem_of_getElem? (i := 23) rfl))
  · exact (hw _ (List.mem_of_getElem? (i := 33) rfl))
  · exact (hw _ (List.mem_of_getElem? (i := 31) rfl))
  · exact (hw _ (List.mem_of_getElem? (i := 42) rfl))
  · exact (hw _ (List.mem_of_getElem? (i := 43) rfl))
theorem own_el0 (n x y : Int32) (dv : Value) : (own_sl n x y).getD (0 : Int32).toNatClampNeg dv = .int x := by unfold own_sl; split <;> rfl
theorem own_el1 {n : Int32} (h : n = 2) (x y : Int32) (dv : Value) : (own_sl n x y).getD (1 : Int32).toNatClampNeg dv = .int y := by subst h; rfl
theorem own_in1 {n : Int32} (h : n = 2) : (¬ (1 : Int32) < 0 ∧ (1 : Int32) < n) := by subst h; decide

theorem own_d6_0 : decode jdk_52_method_21_code 0 = .ok (.iconst 0, 1) := by decide +kernel
theorem own_d6_1 : decode jdk_52_method_21_code 1 = .ok (.istore 5, 2) := by decide +kernel
theorem own_d6_3 : decode jdk_52_method_21_code 3 = .ok (.iload 5, 2) := by decide +kernel
theorem own_d6_5 : decode jdk_52_method_21_code 5 = .ok (.iload 4, 2) := by decide +kernel
theorem own_d6_7 : decode jdk_52_method_21_code 7 = .ok (.if_icmp .ge 37, 3) := by decide +kernel
theorem own_d6_10 : decode jdk_52_method_21_code 10 = .ok (.aload_n 0, 1) := by decide +kernel
theorem own_d6_11 : decode jdk_52_method_21_code 11 = .ok (.iload_n 1, 1) := by decide +kernel
theorem own_d6_12 : decode jdk_52_method_21_code 12 = .ok (.caload, 1) := by decide +kernel
theorem own_d6_13 : decode jdk_52_method_21_code 13 = .ok (.istore 6, 2) := by decide +kernel
theorem own_d6_15 : decode jdk_52_method_21_code 15 = .ok (.iload 6, 2) := by decide +kernel
theorem own_d6_17 : decode jdk_52_method_21_code 17 = .ok (.sipush 255, 3) := by decide +kernel
theorem own_d6_20 : decode jdk_52_method_21_code 20 = .ok (.if_icmp .le 6, 3) := by decide +kernel
theorem own_d6_26 : decode jdk_52_method_21_code 26 = .ok (.aload_n 2, 1) := by decide +kernel
theorem own_d6_27 : decode jdk_52_method_21_code 27 = .ok (.iload_n 3, 1) := by decide +kernel
theorem own_d6_28 : decode jdk_52_method_21_code 28 = .ok (.iload 6, 2) := by decide +kernel
theorem own_d6_30 : decode jdk_52_method_21_code 30 = .ok (.i2b, 1) := by decide +kernel
theorem own_d6_31 : decode jdk_52_method_21_code 31 = .ok (.bastore, 1) := by decide +kernel
theorem own_d6_32 : decode jdk_52_method_21_code 32 = .ok (.iinc 1 1, 3) := by decide +kernel
theorem own_d6_35 : decode jdk_52_method_21_code 35 = .ok (.iinc 3 1, 3) := by decide +kernel
theorem own_d6_38 : decode jdk_52_method_21_code 38 = .ok (.iinc 5 1, 3) := by decide +kernel
theorem own_d6_41 : decode jdk_52_method_21_code 41 = .ok (.goto (-38), 3) := by decide +kernel
theorem own_d6_44 : decode jdk_52_method_21_code 44 = .ok (.iload 4, 2) := by decide +kernel
theorem own_d6_46 : decode jdk_52_method_21_code 46 = .ok (.ireturn, 1) := by decide +kernel
theorem own_pn0 : plainName "java/lang/StringUTF16" = true := by first | (simp [plainName, overriddenIn]; done) | decide +kernel
theorem own_ef6n1 (m : MethodId) (o1 : Addr) (o2 : Addr) : entryFrame m #[(.ref o1), (.int (0 : Int32)), (.ref o2), (.int (0 : Int32)), (.int (1 : Int32))] 7 = mkF m 0 #[.val (.ref o1), .val (.int (0 : Int32)), .val (.ref o2), .val (.int (0 : Int32)), .val (.int (1 : Int32)), .unset, .unset] [] := by first | (simp [entryFrame, mkF, argsToLocals, Value.category]; done) | rfl
def own_Q6n1 (Z : State) (o1 : Addr) (o2 : Addr) (kb : ClassId) (kc : ClassId) (c0 : Int32) (h0 : Heap) (n0 : Nat) (v : Option Value) (h : Heap) (L : List Loc) : Prop := v = some (.int (1 : Int32)) ∧ Fr n0 L ∧ Keep h0 h [o2] ∧ Arv Z h o2 kb .byte (1 : Int32) [(.int (nar .byte c0.toInt8.toInt32))] (.int (0 : Int32))
set_option maxRecDepth 65536 in
set_option maxHeartbeats 40000000 in
theorem own_rm6n1 (l : Launch) (Z : State) (a0 : Array Value) (hw : ∀ d ∈ tables_1, d.before a0 Z = true) (ws : List Jvm.Cond) (o1 : Addr) (o2 : Addr) (kb : ClassId) (kc : ClassId) (c0 : Int32) (h0 : Heap) (n0 : Nat) (Z0 : n0 ≤ h0.size) (pV1 : Arv Z h0 o1 kc .char (1 : Int32) [(.int c0)] (.int (0 : Int32))) (pV2 : Arv Z h0 o2 kb .byte (1 : Int32) [(.int (0 : Int32))] (.int (0 : Int32))) (pG3 : n0 ≤ o2) (pN4 : o1 ≠ o2) (hc0 : ¬ (255 : Int32) < c0) :
    MetFree l (⟨"java/lang/StringUTF16", "compress", "([CI[BII)I"⟩ : MethodName) (head1 (Jvm.Cond.code (⟨"java/lang/StringUTF16", "compress", "([CI[BII)I"⟩ : MethodName) jdk_52_method_21_code 7 (some .int) :: ws) ({ frames := 0, cells := 0, slots := 0, locals := 0 } : Room)) (fun a U => a = #[(.ref o1), (.int (0 : Int32)), (.ref o2), (.int (0 : Int32)), (.int (1 : Int32))] ∧ Z.Warmed39 U.vm ∧ U.heap = h0) (fun _ _ _ _ _ => True) (fun _ U o U' => ∃ v L, o = .returned v ∧ own_Q6n1 Z o1 o2 kb kc c0 h0 n0 v U'.heap L ∧ FrameEnd U o U' L ({ frames := 0, cells := 0, slots := 0, locals := 0 } : Room).cells ({ frames := 0, cells := 0, slots := 0, locals := 0 } : Room).slots) := by
  refine MetFree.of_bodySF (plainFor_of_name own_pn0) hisR ?_
  intro p e s m args below meth c s₁ Bd hml0 hP hK
  obtain ⟨rfl, hZ, hh⟩ := hP
  have hx := Bd.exec
  have hby := Bd.bytes
  have hlk := Bd.notSynchronized
  have hrt := Bd.returns
  have hml : c.maxLocals = 7 := hml0
  have hown : s.vm.findClass "java/lang/StringUTF16" = some m.cls := findClass_of_methodNamed Bd.named
  have hnm := (name_of_methodNamed Bd.named Bd.method).1
  have X0 : Stand p l e ({ frames := 0, cells := 0, slots := 0, locals := 0 } : Room) s m #[(.ref o1), (.int (0 : Int32)), (.ref o2), (.int (0 : Int32)), (.int (1 : Int32))] below meth c s₁ [] 0 0 := Stand.of_body Bd
  have e0 : s₁.heap = h0 := by rw [← hh, Bd.state]; rfl
  have N0 := Fr.nil n0
  have KC0 := Keep.refl h0 [o2]
  refine own_in (own_ef6n1 m o1 o2) ?_
  refine own_iconst X0 hx 1 (0 : Int32) (hb hby own_d6_0) rfl ?_
  refine own_istore X0 hx 3 #[.val (.ref o1), .val (.int (0 : Int32)), .val (.ref o2), .val (.int (0 : Int32)), .val (.int (1 : Int32)), .val (.int (0 : Int32)), .unset] (hb hby own_d6_1) rfl ?_
  refine own_iload X0 hx 5 (hb hby own_d6_3) rfl ?_
  refine own_iload X0 hx 7 (hb hby own_d6_5) rfl ?_
  refine own_icmpNo X0 hx 10 (hb hby own_d6_7) (tlt (by decide : (0 : Int32) < (1 : Int32))).2.1 ?_
  refine own_aloadN X0 hx 11 (hb hby own_d6_10) rfl rfl ?_
  refine own_iloadN X0 hx 12 (hb hby own_d6_11) rfl ?_
  obtain ⟨cl1, Ar1, qv1, S1, M1, H1, G1⟩ := id pV1
  have hin1 : ¬ ((0 : Int32) < 0 ∨ cl1.slots.size ≤ ((0 : Int32)).toNatClampNeg) := inb_of S1 ⟨by decide, by decide⟩
  refine own_st (G' := s₁.setTop (mkF m 13 #[.val (.ref o1), .val (.int (0 : Int32)), .val (.ref o2), .val (.int (0 : Int32)), .val (.int (1 : Int32)), .val (.int (0 : Int32)), .unset] [(.int c0)])) (fun t k => X0.caload hx (j := (0 : Int32)) (v := (.int c0)) (by rw [e0]; exact Ar1.1) (State.isArrayOf_alike hZ.alike Ar1.2.1) Ar1.2.2 hin1 (H1.at hin1 rfl) (g := (mkF m 12 #[.val (.ref o1), .val (.int (0 : Int32)), .val (.ref o2), .val (.int (0 : Int32)), .val (.int (1 : Int32)), .val (.int (0 : Int32)), .unset] [(.int (0 : Int32)), (.ref o1)])) rfl rfl (hb hby own_d6_12) _ k) ?_
  refine own_istore X0 hx 15 #[.val (.ref o1), .val (.int (0 : Int32)), .val (.ref o2), .val (.int (0 : Int32)), .val (.int (1 : Int32)), .val (.int (0 : Int32)), .val (.int c0)] (hb hby own_d6_13) rfl ?_
  refine own_iload X0 hx 17 (hb hby own_d6_15) rfl ?_
  refine own_sipush X0 hx 20 (255 : Int32) (hb hby own_d6_17) rfl ?_
  refine own_icmpYes X0 hx 26 (hb hby own_d6_20) (flt hc0).2.2.2 ?_
  refine own_aloadN X0 hx 27 (hb hby own_d6_26) rfl rfl ?_
  refine own_iloadN X0 hx 28 (hb hby own_d6_27) rfl ?_
  refine own_iload X0 hx 30 (hb hby own_d6_28) rfl ?_
  refine own_i2b X0 hx 31 (hb hby own_d6_30) ?_
  obtain ⟨cl2, Ar2, qv2, S2, M2, H2, G2⟩ := id pV2
  have hin2 : ¬ ((0 : Int32) < 0 ∨ cl2.slots.size ≤ ((0 : Int32)).toNatClampNeg) := inb_of S2 ⟨by decide, by decide⟩
  obtain ⟨T2, h2, X2, e2, W2, st2⟩ := stB X0 hx hZ e0 Ar2 (j := (0 : Int32)) hin2 (g := (mkF m 31 #[.val (.ref o1), .val (.int (0 : Int32)), .val (.ref o2), .val (.int (0 : Int32)), .val (.int (1 : Int32)), .val (.int (0 : Int32)), .val (.int c0)] [(.int (c0.toInt8.toInt32)), (.int (0 : Int32)), (.ref o2)])) rfl rfl (hb hby own_d6_31)
  have V2 : Arv Z h2 o2 kb .byte (1 : Int32) [(.int (nar .byte (c0.toInt8.toInt32)))] (.int (0 : Int32)) := Arv.set Ar2 qv2 S2 M2 H2 G2 (fits_nar_byte _) W2 0 rfl (Nat.le_of_ble_eq_true rfl)
  have N2 := Fr.snoc X2 N0 pG3
  have KC3 := KC0.wr W2 (Or.inl (List.mem_of_getElem? (i := 0) rfl))
  have Z4 := Nat.le_trans Z0 (Nat.le_of_eq W2.size.symm)
  refine own_st (G' := T2.setTop (mkF m 32 #[.val (.ref o1), .val (.int (0 : Int32)), .val (.ref o2), .val (.int (0 : Int32)), .val (.int (1 : Int32)), .val (.int (0 : Int32)), .val (.int c0)] [])) st2 ?_
  obtain ⟨_, X2h, N2h⟩ := own_hide X2 N2
  refine own_iinc X2h hx 35 (1 : Int32) #[.val (.ref o1), .val (.int (1 : Int32)), .val (.ref o2), .val (.int (0 : Int32)), .val (.int (1 : Int32)), .val (.int (0 : Int32)), .val (.int c0)] (hb hby own_d6_32) rfl rfl rfl ?_
  refine own_iinc X2h hx 38 (1 : Int32) #[.val (.ref o1), .val (.int (1 : Int32)), .val (.ref o2), .val (.int (1 : Int32)), .val (.int (1 : Int32)), .val (.int (0 : Int32)), .val (.int c0)] (hb hby own_d6_35) rfl rfl rfl ?_
  refine own_iinc X2h hx 41 (1 : Int32) #[.val (.ref o1), .val (.int (1 : Int32)), .val (.ref o2), .val (.int (1 : Int32)), .val (.int (1 : Int32)), .val (.int (1 : Int32)), .val (.int c0)] (hb hby own_d6_38) rfl rfl rfl ?_
  refine own_goto X2h hx 3 (hb hby own_d6_41) ?_
  refine own_iload X2h hx 5 (hb hby own_d6_3) rfl ?_
  refine own_iload X2h hx 7 (hb hby own_d6_5) rfl ?_
  refine own_icmpYes X2h hx 44 (hb hby own_d6_7) (flt (by decide : ¬ ((1 : Int32) < (1 : Int32)))).2.1 ?_
  refine own_iload X2h hx 46 (hb hby own_d6_44) rfl ?_
  exact own_retI (z := (1 : Int32)) (Q := own_Q6n1 Z o1 o2 kb kc c0 h0 n0) X2h hx hrt (hb hby own_d6_46) hlk e2 ⟨rfl, N2h, KC3, V2⟩ (by decide) (by decide)
theorem own_d5_0 : decode jdk_52_method_16_code 0 = .ok (.iload_n 2, 1) := by decide +kernel
theorem own_d5_1 : decode jdk_52_method_16_code 1 = .ok (.newarray .byte, 2) := by decide +kernel
theorem own_d5_3 : decode jdk_52_method_16_code 3 = .ok (.astore_n 3, 1) := by decide +kernel
theorem own_d5_4 : decode jdk_52_method_16_code 4 = .ok (.aload_n 0, 1) := by decide +kernel
theorem own_d5_5 : decode jdk_52_method_16_code 5 = .ok (.iload_n 1, 1) := by decide +kernel
theorem own_d5_6 : decode jdk_52_method_16_code 6 = .ok (.aload_n 3, 1) := by decide +kernel
theorem own_d5_7 : decode jdk_52_method_16_code 7 = .ok (.iconst 0, 1) := by decide +kernel
theorem own_d5_8 : decode jdk_52_method_16_code 8 = .ok (.iload_n 2, 1) := by decide +kernel
theorem own_d5_9 : decode jdk_52_method_16_code 9 = .ok (.invokestatic 115, 3) := by decide +kernel
theorem own_d5_12 : decode jdk_52_method_16_code 12 = .ok (.istore 4, 2) := by decide +kernel
theorem own_d5_14 : decode jdk_52_method_16_code 14 = .ok (.iload 4, 2) := by decide +kernel
theorem own_d5_16 : decode jdk_52_method_16_code 16 = .ok (.iload_n 2, 1) := by decide +kernel
theorem own_d5_17 : decode jdk_52_method_16_code 17 = .ok (.if_icmp .eq 40, 3) := by decide +kernel
theorem own_d5_57 : decode jdk_52_method_16_code 57 = .ok (.aload_n 3, 1) := by decide +kernel
theorem own_d5_58 : decode jdk_52_method_16_code 58 = .ok (.areturn, 1) := by decide +kernel
theorem own_pd0 : parseMethodDescriptor "([CI[BII)I" = some ⟨[(.array .char), .int, (.array .byte), .int, .int], some .int⟩ := by decide +kernel
theorem own_ef5n1 (m : MethodId) (o1 : Addr) : entryFrame m #[(.ref o1), (.int (0 : Int32)), (.int (1 : Int32))] 6 = mkF m 0 #[.val (.ref o1), .val (.int (0 : Int32)), .val (.int (1 : Int32)), .unset, .unset, .unset] [] := by first | (simp [entryFrame, mkF, argsToLocals, Value.category]; done) | rfl
def own_Q5n1 (Z : State) (o1 : Addr) (kc : ClassId) (c0 : Int32) (h0 : Heap) (n0 : Nat) (v : Option Value) (h : Heap) (L : List Loc) : Prop := ∃ bb : Addr, ∃ kb : ClassId, v = some (.ref bb) ∧ Fr n0 L ∧ Keep h0 h [] ∧ h0.size ≤ bb ∧ Arv Z h bb kb .byte (1 : Int32) [(.int (nar .byte c0.toInt8.toInt32))] (.int (0 : Int32))
set_option maxRecDepth 65536 in
set_option maxHeartbeats 40000000 in
theorem own_rm5n1 (l : Launch) (Z : State) (a0 : Array Value) (hw : ∀ d ∈ tables_1, d.before a0 Z = true) (ws : List Jvm.Cond) (o1 : Addr) (kc : ClassId) (c0 : Int32) (h0 : Heap) (n0 : Nat) (Z0 : n0 ≤ h0.size) (pV1 : Arv Z h0 o1 kc .char (1 : Int32) [(.int c0)] (.int (0 : Int32))) (hc0 : ¬ (255 : Int32) < c0) :
    MetFree l (⟨"java/lang/StringUTF16", "compress", "([CII)[B"⟩ : MethodName) (head1 (Jvm.Cond.code (⟨"java/lang/StringUTF16", "compress", "([CII)[B"⟩ : MethodName) jdk_52_method_16_code 6 (some (.array .byte)) :: ws) ({ frames := 1, cells := 1, slots := 1, locals := 18 } : Room)) (fun a U => a = #[(.ref o1), (.int (0 : Int32)), (.int (1 : Int32))] ∧ Z.Warmed39 U.vm ∧ U.heap = h0) (fun _ _ _ _ _ => True) (fun _ U o U' => ∃ v L, o = .returned v ∧ own_Q5n1 Z o1 kc c0 h0 n0 v U'.heap L ∧ FrameEnd U o U' L ({ frames := 1, cells := 1, slots := 1, locals := 18 } : Room).cells ({ frames := 1, cells := 1, slots := 1, locals := 18 } : Room).slots) := by
  refine MetFree.of_bodySF (plainFor_of_name own_pn0) hisR ?_
  intro p e s m args below meth c s₁ Bd hml0 hP hK
  obtain ⟨rfl, hZ, hh⟩ := hP
  have hx := Bd.exec
  have hby := Bd.bytes
  have hlk := Bd.notSynchronized
  have hrt := Bd.returns
  have hml : c.maxLocals = 6 := hml0
  have hown : s.vm.findClass "java/lang/StringUTF16" = some m.cls := findClass_of_methodNamed Bd.named
  have hnm := (name_of_methodNamed Bd.named Bd.method).1
  have X0 : Stand p l e ({ frames := 1, cells := 1, slots := 1, locals := 18 } : Room) s m #[(.ref o1), (.int (0 : Int32)), (.int (1 : Int32))] below meth c s₁ [] 0 0 := Stand.of_body Bd
  have e0 : s₁.heap = h0 := by rw [← hh, Bd.state]; rfl
  have N0 := Fr.nil n0
  have KC0 := Keep.refl h0 []
  refine own_in (own_ef5n1 m o1) ?_
  refine own_iloadN X0 hx 1 (hb hby own_d5_0) rfl ?_
  obtain ⟨T1, h1, k1, X1, e1, E1, A1, st1⟩ := newP X0 hx hZ (hw _ (List.mem_of_getElem? (i := 23) rfl)) e0 (g := (mkF m 1 #[.val (.ref o1), .val (.int (0 : Int32)), .val (.int (1 : Int32)), .unset, .unset, .unset] [(.int (1 : Int32))])) rfl (hb hby own_d5_1) rfl (by decide) (cap := 1) (by decide) (by decide) (by decide) (by decide)
  obtain ⟨b1, g1⟩ : ∃ z, z = h0.size := ⟨_, rfl⟩
  rw [← g1] at A1 st1
  have ne2 : o1 ≠ b1 := Nat.ne_of_lt (Nat.lt_of_lt_of_le pV1.lt (Nat.le_of_eq g1.symm))
  have gt_b1 : n0 ≤ b1 := Nat.le_trans Z0 (Nat.le_of_eq g1.symm)
  have sz_b1 : h0.size ≤ b1 := Nat.le_trans KC0.1 (Nat.le_of_eq g1.symm)
  have V1 : Arv Z h1 b1 k1 .byte (1 : Int32) [(.int (0 : Int32))] (.int (0 : Int32)) := (Arv.new A1 (by decide)).pad (pad_rep [] (.int (0 : Int32)) 1)
  have KC3 := KC0.ext E1
  have Z4 := Nat.le_trans Z0 E1.1
  refine own_st (G' := T1.setTop (mkF m 3 #[.val (.ref o1), .val (.int (0 : Int32)), .val (.int (1 : Int32)), .unset, .unset, .unset] [(.ref b1)])) st1 ?_
  obtain ⟨_, X1h, N1h⟩ := own_hide X1 N0
  refine own_astoreN X1h hx 4 #[.val (.ref o1), .val (.int (0 : Int32)), .val (.int (1 : Int32)), .val (.ref b1), .unset, .unset] (hb hby own_d5_3) rfl rfl ?_
  refine own_aloadN X1h hx 5 (hb hby own_d5_4) rfl rfl ?_
  refine own_iloadN X1h hx 6 (hb hby own_d5_5) rfl ?_
  refine own_aloadN X1h hx 7 (hb hby own_d5_6) rfl rfl ?_
  refine own_iconst X1h hx 8 (0 : Int32) (hb hby own_d5_7) rfl ?_
  refine own_iloadN X1h hx 9 (hb hby own_d5_8) rfl ?_
  have f5 := (pV1.ext E1)
  obtain ⟨_, _, ⟨T6, Lx6, kc6, nc6⟩, -, X6, ⟨Lc6, hQ6, lq6, yq6, zq6⟩, st6⟩ := Jvm.LawKit.callS X1h hx (y := (⟨"java/lang/StringUTF16", "compress", "([CI[BII)I"⟩ : MethodName)) hown (mvT hZ (hw _ (List.mem_of_getElem? (i := 24) rfl))) (mvT hZ (hw _ (List.mem_of_getElem? (i := 25) rfl))) (mvT hZ (hw _ (List.mem_of_getElem? (i := 21) rfl))) (mvT hZ (hw _ (List.mem_of_getElem? (i := 26) rfl))) (by decide) (backOf (W := 0) (own_rm6n1 l Z a0 hw [] o1 b1 k1 kc c0 h1 n0 Z4 f5 V1 gt_b1 ne2 (by assumption : ¬ (255 : Int32) < c0)) hZ (hw _ (List.mem_of_getElem? (i := 26) rfl)) (hw _ (List.mem_of_getElem? (i := 21) rfl)) (by decide) (by decide)) (g := (mkF m 9 #[.val (.ref o1), .val (.int (0 : Int32)), .val (.int (1 : Int32)), .val (.ref b1), .unset, .unset] [(.int (1 : Int32)), (.int (0 : Int32)), (.ref b1), (.int (0 : Int32)), (.ref o1)])) rfl (by rw [hml]; rfl) (argsL := [(.ref o1), (.int (0 : Int32)), (.ref b1), (.int (0 : Int32)), (.int (1 : Int32))]) (rest := []) (lenOf own_pd0 rfl) rfl (by show 2 * 0 + _ ≤ _; exact Nat.le_of_eq rfl) (hb hby own_d5_9) (fun _ _ => ⟨rfl, e1, (by decide : 1 + 0 ≤ _), (by decide : 1 + 0 ≤ _)⟩)
  dsimp only [Pt.U, Pt.locs, Pt.cells, Pt.slots] at X6 lq6 yq6 zq6 st6 hQ6
  subst lq6 yq6 zq6
  obtain ⟨rfl, Nq6, Kp6, G6_0⟩ := hQ6
  have N6 := Fr.app N1h Nq6
  have KC7 := KC3.trans Kp6 (allS (Or.inr sz_b1) all0)
  have Z8 := Nat.le_trans Z4 Kp6.1
  refine own_st (G' := T6.setTop (mkF m 12 #[.val (.ref o1), .val (.int (0 : Int32)), .val (.int (1 : Int32)), .val (.ref b1), .unset, .unset] [(.int (1 : Int32))])) st6 ?_
  obtain ⟨_, X6h, N6h⟩ := own_hide X6 N6
  refine own_istore X6h hx 14 #[.val (.ref o1), .val (.int (0 : Int32)), .val (.int (1 : Int32)), .val (.ref b1), .val (.int (1 : Int32)), .unset] (hb hby own_d5_12) rfl ?_
  refine own_iload X6h hx 16 (hb hby own_d5_14) rfl ?_
  refine own_iloadN X6h hx 17 (hb hby own_d5_16) rfl ?_
  refine own_icmpYes X6h hx 57 (hb hby own_d5_17) (teq (rfl : (1 : Int32) = (1 : Int32))).1 ?_
  refine own_aloadN X6h hx 58 (hb hby own_d5_57) rfl rfl ?_
  exact own_retA (z := (.ref b1)) (Q := own_Q5n1 Z o1 kc c0 h0 n0) X6h hx hrt rfl rfl (hb hby own_d5_58) hlk rfl ⟨b1, k1, rfl, N6h, KC7, sz_b1, G6_0⟩ (by decide) (by decide)
theorem own_d7_0 : decode jdk_52_method_15_code 0 = .ok (.iload_n 1, 1) := by decide +kernel
theorem own_d7_1 : decode jdk_52_method_15_code 1 = .ok (.aload_n 0, 1) := by decide +kernel
theorem own_d7_2 : decode jdk_52_method_15_code 2 = .ok (.arraylength, 1) := by decide +kernel
theorem own_d7_3 : decode jdk_52_method_15_code 3 = .ok (.isub, 1) := by decide +kernel
theorem own_d7_4 : decode jdk_52_method_15_code 4 = .ok (.bipush 31, 2) := by decide +kernel
theorem own_d7_6 : decode jdk_52_method_15_code 6 = .ok (.iushr, 1) := by decide +kernel
theorem own_d7_7 : decode jdk_52_method_15_code 7 = .ok (.i2b, 1) := by decide +kernel
theorem own_d7_8 : decode jdk_52_method_15_code 8 = .ok (.ireturn, 1) := by decide +kernel
theorem own_ef7n1 (m : MethodId) (o1 : Addr) : entryFrame m #[(.ref o1), (.int (1 : Int32))] 2 = mkF m 0 #[.val (.ref o1), .val (.int (1 : Int32))] [] := by first | (simp [entryFrame, mkF, argsToLocals, Value.category]; done) | rfl
def own_Q7n1 (Z : State) (o1 : Addr) (kb : ClassId) (vs : List Value) (h0 : Heap) (n0 : Nat) (v : Option Value) (h : Heap) (L : List Loc) : Prop := v = some (.int (0 : Int32)) ∧ Fr n0 L ∧ h = h0
set_option maxRecDepth 65536 in
set_option maxHeartbeats 40000000 in
theorem own_rm7n1 (l : Launch) (Z : State) (a0 : Array Value) (hw : ∀ d ∈ tables_1, d.before a0 Z = true) (ws : List Jvm.Cond) (o1 : Addr) (kb : ClassId) (vs : List Value) (h0 : Heap) (n0 : Nat) (Z0 : n0 ≤ h0.size) (pV1 : Arv Z h0 o1 kb .byte (1 : Int32) vs (.int (0 : Int32))) :
    MetFree l (⟨"java/lang/StringUTF16", "coderFromArrayLen", "([BI)B"⟩ : MethodName) (head1 (Jvm.Cond.code (⟨"java/lang/StringUTF16", "coderFromArrayLen", "([BI)B"⟩ : MethodName) jdk_52_method_15_code 2 (some .byte) :: ws) ({ frames := 0, cells := 0, slots := 0, locals := 0 } : Room)) (fun a U => a = #[(.ref o1), (.int (1 : Int32))] ∧ Z.Warmed39 U.vm ∧ U.heap = h0) (fun _ _ _ _ _ => True) (fun _ U o U' => ∃ v L, o = .returned v ∧ own_Q7n1 Z o1 kb vs h0 n0 v U'.heap L ∧ FrameEnd U o U' L ({ frames := 0, cells := 0, slots := 0, locals := 0 } : Room).cells ({ frames := 0, cells := 0, slots := 0, locals := 0 } : Room).slots) := by
  refine MetFree.of_bodySF (plainFor_of_name own_pn0) hisR ?_
  intro p e s m args below meth c s₁ Bd hml0 hP hK
  obtain ⟨rfl, hZ, hh⟩ := hP
  have hx := Bd.exec
  have hby := Bd.bytes
  have hlk := Bd.notSynchronized
  have hrt := Bd.returns
  have hml : c.maxLocals = 2 := hml0
  have hown : s.vm.findClass "java/lang/StringUTF16" = some m.cls := findClass_of_methodNamed Bd.named
  have hnm := (name_of_methodNamed Bd.named Bd.method).1
  have X0 : Stand p l e ({ frames := 0, cells := 0, slots := 0, locals := 0 } : Room) s m #[(.ref o1), (.int (1 : Int32))] below meth c s₁ [] 0 0 := Stand.of_body Bd
  have e0 : s₁.heap = h0 := by rw [← hh, Bd.state]; rfl
  have N0 := Fr.nil n0
  refine own_in (own_ef7n1 m o1) ?_
  refine own_iloadN X0 hx 1 (hb hby own_d7_0) rfl ?_
  refine own_aloadN X0 hx 2 (hb hby own_d7_1) rfl rfl ?_
  obtain ⟨cl1, Ar1, qv1, S1, M1, H1, G1⟩ := id pV1
  have ln1 := len_of S1 M1
  refine own_st (G' := s₁.setTop (mkF m 3 #[.val (.ref o1), .val (.int (1 : Int32))] [(.int (1 : Int32)), (.int (1 : Int32))])) (fun t k => X0.arraylength hx (by rw [e0]; exact Ar1.1) (State.isArrayOf_alike hZ.alike Ar1.2.1) (g := (mkF m 2 #[.val (.ref o1), .val (.int (1 : Int32))] [(.ref o1), (.int (1 : Int32))])) rfl rfl (hb hby own_d7_2) _ (by rw [ln1]; exact k)) ?_
  refine own_isub X0 hx 4 (hb hby own_d7_3) ?_
  show own_Gs p e below _ (s₁.setTop (mkF m 4 #[.val (.ref o1), .val (.int (1 : Int32))] [(.int (0 : Int32))]))
  refine own_bipush X0 hx 6 (31 : Int32) (hb hby own_d7_4) rfl ?_
  refine own_iushr X0 hx 7 (hb hby own_d7_6) ?_
  refine own_i2b X0 hx 8 (hb hby own_d7_7) ?_
  exact own_retN (t := .byte) (z := ((((0 : Int32).toUInt32 >>> ((31 : Int32) &&& 31).toUInt32).toInt32).toInt8.toInt32)) (Q := own_Q7n1 Z o1 kb vs h0 n0) X0 hx hrt (by simp) (hb hby own_d7_8) hlk e0 ⟨(own_leafI (by decide)), N0, rfl⟩ (by decide) (by decide)
theorem own_d3_0 : decode jdk_42_method_149_code 0 = .ok (.aload_n 0, 1) := by decide +kernel
theorem own_d3_1 : decode jdk_42_method_149_code 1 = .ok (.invokespecial 1, 3) := by decide +kernel
theorem own_d3_4 : decode jdk_42_method_149_code 4 = .ok (.iload_n 3, 1) := by decide +kernel
theorem own_d3_5 : decode jdk_42_method_149_code 5 = .ok (.ifCond .ne 22, 3) := by decide +kernel
theorem own_d3_27 : decode jdk_42_method_149_code 27 = .ok (.getstatic 38, 3) := by decide +kernel
theorem own_d3_30 : decode jdk_42_method_149_code 30 = .ok (.ifCond .eq 28, 3) := by decide +kernel
theorem own_d3_33 : decode jdk_42_method_149_code 33 = .ok (.aload_n 1, 1) := by decide +kernel
theorem own_d3_34 : decode jdk_42_method_149_code 34 = .ok (.iload_n 2, 1) := by decide +kernel
theorem own_d3_35 : decode jdk_42_method_149_code 35 = .ok (.iload_n 3, 1) := by decide +kernel
theorem own_d3_36 : decode jdk_42_method_149_code 36 = .ok (.invokestatic 177, 3) := by decide +kernel
theorem own_d3_39 : decode jdk_42_method_149_code 39 = .ok (.astore 5, 2) := by decide +kernel
theorem own_d3_41 : decode jdk_42_method_149_code 41 = .ok (.aload_n 0, 1) := by decide +kernel
theorem own_d3_42 : decode jdk_42_method_149_code 42 = .ok (.aload 5, 2) := by decide +kernel
theorem own_d3_44 : decode jdk_42_method_149_code 44 = .ok (.iload_n 3, 1) := by decide +kernel
theorem own_d3_45 : decode jdk_42_method_149_code 45 = .ok (.invokestatic 47, 3) := by decide +kernel
theorem own_d3_48 : decode jdk_42_method_149_code 48 = .ok (.putfield 15, 3) := by decide +kernel
theorem own_d3_51 : decode jdk_42_method_149_code 51 = .ok (.aload_n 0, 1) := by decide +kernel
theorem own_d3_52 : decode jdk_42_method_149_code 52 = .ok (.aload 5, 2) := by decide +kernel
theorem own_d3_54 : decode jdk_42_method_149_code 54 = .ok (.putfield 9, 3) := by decide +kernel
theorem own_d3_57 : decode jdk_42_method_149_code 57 = .ok (.return_, 1) := by decide +kernel
theorem own_pn1 : plainName "java/lang/String" = true := by first | (simp [plainName, overriddenIn]; done) | decide +kernel
theorem own_pd1 : parseMethodDescriptor "([CII)[B" = some ⟨[(.array .char), .int, .int], some (.array .byte)⟩ := by decide +kernel
theorem own_pd2 : parseMethodDescriptor "([BI)B" = some ⟨[(.array .byte), .int], some .byte⟩ := by decide +kernel
theorem own_ef3n1 (m : MethodId) (o1 : Addr) (o2 : Addr) : entryFrame m #[(.ref o1), (.ref o2), (.int (0 : Int32)), (.int (1 : Int32)), .null] 6 = mkF m 0 #[.val (.ref o1), .val (.ref o2), .val (.int (0 : Int32)), .val (.int (1 : Int32)), .val .null, .unset] [] := by first | (simp [entryFrame, mkF, argsToLocals, Value.category]; done) | rfl
def own_Q3n1 (Z : State) (cs : Int32) (S_cs : Sta Z Z.heap "java/lang/String" "COMPACT_STRINGS" "Z" (.int cs)) (hcs : ¬ cs = (0 : Int32)) (sf : Value) (S_sf : Sta Z Z.heap "jdk/internal/util/Preconditions" "SIOOBE_FORMATTER" "Ljava/util/function/BiFunction;" sf) (hsf : sf.isRef = true) (o1 : Addr) (o2 : Addr) (kc : ClassId) (c0 : Int32) (h0 : Heap) (n0 : Nat) (v : Option Value) (h : Heap) (L : List Loc) : Prop := ∃ bb : Addr, ∃ kb : ClassId, v = none ∧ Fr n0 L ∧ Keep h0 h [o1] ∧ Exa Z h o1 "java/lang/String" ∧ h0.size ≤ bb ∧ Fld Z h o1 "java/lang/String" "value" "[B" (.ref bb) ∧ Fld Z h o1 "java/lang/String" "coder" "B" (.int (0 : Int32)) ∧ Arv Z h bb kb .byte (1 : Int32) [(.int (nar .byte c0.toInt8.toInt32))] (.int (0 : Int32))
set_option maxRecDepth 65536 in
set_option maxHeartbeats 40000000 in
theorem own_rm3n1 (l : Launch) (Z : State) (a0 : Array Value) (hw : ∀ d ∈ tables_1, d.before a0 Z = true) (ws : List Jvm.Cond) (cs : Int32) (S_cs : Sta Z Z.heap "java/lang/String" "COMPACT_STRINGS" "Z" (.int cs)) (hcs : ¬ cs = (0 : Int32)) (sf : Value) (S_sf : Sta Z Z.heap "jdk/internal/util/Preconditions" "SIOOBE_FORMATTER" "Ljava/util/function/BiFunction;" sf) (hsf : sf.isRef = true) (o1 : Addr) (o2 : Addr) (kc : ClassId) (c0 : Int32) (h0 : Heap) (n0 : Nat) (Z0 : n0 ≤ h0.size) (pE1 : Exa Z h0 o1 "java/lang/String") (pF2 : Fld Z h0 o1 "java/lang/String" "value" "[B" .null) (pF3 : Fld Z h0 o1 "java/lang/String" "coder" "B" (.int (0 : Int32))) (pG4 : n0 ≤ o1) (O0 : Old Z n0 h0) (pV6 : Arv Z h0 o2 kc .char (1 : Int32) [(.int c0)] (.int (0 : Int32))) (hc0 : ¬ (255 : Int32) < c0) :
    MetFree l (⟨"java/lang/String", "<init>", "([CIILjava/lang/Void;)V"⟩ : MethodName) (head1 (Jvm.Cond.code (⟨"java/lang/String", "<init>", "([CIILjava/lang/Void;)V"⟩ : MethodName) jdk_42_method_149_code 6 none :: ws) ({ frames := 2, cells := 1, slots := 1, locals := 35 } : Room)) (fun a U => a = #[(.ref o1), (.ref o2), (.int (0 : Int32)), (.int (1 : Int32)), .null] ∧ Z.Warmed39 U.vm ∧ U.heap = h0) (fun _ _ _ _ _ => True) (fun _ U o U' => ∃ v L, o = .returned v ∧ own_Q3n1 Z cs S_cs hcs sf S_sf hsf o1 o2 kc c0 h0 n0 v U'.heap L ∧ FrameEnd U o U' L ({ frames := 2, cells := 1, slots := 1, locals := 35 } : Room).cells ({ frames := 2, cells := 1, slots := 1, locals := 35 } : Room).slots) := by
  refine MetFree.of_bodySF (plainFor_of_name own_pn1) hisR ?_
  intro p e s m args below meth c s₁ Bd hml0 hP hK
  obtain ⟨rfl, hZ, hh⟩ := hP
  have hx := Bd.exec
  have hby := Bd.bytes
  have hlk := Bd.notSynchronized
  have hrt := Bd.returns
  have hml : c.maxLocals = 6 := hml0
  have hown : s.vm.findClass "java/lang/String" = some m.cls := findClass_of_methodNamed Bd.named
  have hnm := (name_of_methodNamed Bd.named Bd.method).1
  have X0 : Stand p l e ({ frames := 2, cells := 1, slots := 1, locals := 35 } : Room) s m #[(.ref o1), (.ref o2), (.int (0 : Int32)), (.int (1 : Int32)), .null] below meth c s₁ [] 0 0 := Stand.of_body Bd
  have e0 : s₁.heap = h0 := by rw [← hh, Bd.state]; rfl
  have N0 := Fr.nil n0
  have KC0 := Keep.refl h0 [o1]
  refine own_in (own_ef3n1 m o1 o2) ?_
  refine own_aloadN X0 hx 1 (hb hby own_d3_0) rfl rfl ?_
  obtain ⟨T1, X1, e1, st1⟩ := initO X0 hx hZ hown (hw _ (List.mem_of_getElem? (i := 15) rfl)) (hw _ (List.mem_of_getElem? (i := 16) rfl)) (hw _ (List.mem_of_getElem? (i := 17) rfl)) e0 (g := (mkF m 1 #[.val (.ref o1), .val (.ref o2), .val (.int (0 : Int32)), .val (.int (1 : Int32)), .val .null, .unset] [(.ref o1)])) rfl (by rw [hml]; rfl) rfl (hb hby own_d3_1) (by decide) (W := 0) (by show 2 * 0 + _ ≤ _; exact Nat.le_of_eq rfl) (by decide)
  refine own_st (G' := T1.setTop (mkF m 4 #[.val (.ref o1), .val (.ref o2), .val (.int (0 : Int32)), .val (.int (1 : Int32)), .val .null, .unset] [])) st1 ?_
  obtain ⟨_, X1h, N1h⟩ := own_hide X1 N0
  refine own_iloadN X1h hx 5 (hb hby own_d3_4) rfl ?_
  refine own_ifYes X1h hx 27 (hb hby own_d3_5) (feq (by decide : ¬ ((1 : Int32) = (0 : Int32)))).2 ?_
  obtain ⟨T2, X2, e2, st2⟩ := getS2 X1h hx hZ hown (host := "") (Or.inl (hw _ (List.mem_of_getElem? (i := 18) rfl))) Via.refl e1 (S_cs.ext O0.2) (g := (mkF m 27 #[.val (.ref o1), .val (.ref o2), .val (.int (0 : Int32)), .val (.int (1 : Int32)), .val .null, .unset] [])) rfl (hb hby own_d3_27)
  refine own_st (G' := T2.setTop (mkF m 30 #[.val (.ref o1), .val (.ref o2), .val (.int (0 : Int32)), .val (.int (1 : Int32)), .val .null, .unset] [(.int cs)])) st2 ?_
  obtain ⟨_, X2h, N2h⟩ := own_hide X2 N1h
  refine own_ifNo X2h hx 33 (hb hby own_d3_30) (feq (hcs : ¬ (cs = (0 : Int32)))).1 ?_
  refine own_aloadN X2h hx 34 (hb hby own_d3_33) rfl rfl ?_
  refine own_iloadN X2h hx 35 (hb hby own_d3_34) rfl ?_
  refine own_iloadN X2h hx 36 (hb hby own_d3_35) rfl ?_
  obtain ⟨_, _, ⟨T3, Lx3, kc3, nc3⟩, -, X3, ⟨Lc3, hQ3, lq3, yq3, zq3⟩, st3⟩ := Jvm.LawKit.callS X2h hx (y := (⟨"java/lang/StringUTF16", "compress", "([CII)[B"⟩ : MethodName)) hown (mvT hZ (hw _ (List.mem_of_getElem? (i := 19) rfl))) (mvT hZ (hw _ (List.mem_of_getElem? (i := 20) rfl))) (mvT hZ (hw _ (List.mem_of_getElem? (i := 21) rfl))) (mvT hZ (hw _ (List.mem_of_getElem? (i := 22) rfl))) (by decide) (backOf (W := 0) (own_rm5n1 l Z a0 hw [] o2 kc c0 h0 n0 Z0 pV6 (by assumption : ¬ (255 : Int32) < c0)) hZ (hw _ (List.mem_of_getElem? (i := 22) rfl)) (hw _ (List.mem_of_getElem? (i := 21) rfl)) (by decide) (by decide)) (g := (mkF m 36 #[.val (.ref o1), .val (.ref o2), .val (.int (0 : Int32)), .val (.int (1 : Int32)), .val .null, .unset] [(.int (1 : Int32)), (.int (0 : Int32)), (.ref o2)])) rfl (by rw [hml]; rfl) (argsL := [(.ref o2), (.int (0 : Int32)), (.int (1 : Int32))]) (rest := []) (lenOf own_pd1 rfl) rfl (by show 2 * 0 + _ ≤ _; exact Nat.le_of_eq rfl) (hb hby own_d3_36) (fun _ _ => ⟨rfl, e2, (by decide : 0 + 1 ≤ _), (by decide : 0 + 1 ≤ _)⟩)
  dsimp only [Pt.U, Pt.locs, Pt.cells, Pt.slots] at X3 lq3 yq3 zq3 st3 hQ3
  subst lq3 yq3 zq3
  obtain ⟨bb_3, kb_3, rfl, Nq3, Kp3, G3_0, G3_1⟩ := hQ3
  have N3 := Fr.app N2h Nq3
  have ne4 : o1 ≠ bb_3 := Nat.ne_of_lt (Nat.lt_of_lt_of_le pE1.lt G3_0)
  have ne5 : o2 ≠ bb_3 := Nat.ne_of_lt (Nat.lt_of_lt_of_le pV6.lt G3_0)
  have gt_bb_3 : n0 ≤ bb_3 := Nat.le_trans Z0 G3_0
  have sz_bb_3 : h0.size ≤ bb_3 := Nat.le_trans KC0.1 G3_0
  have O6 := O0.keep Kp3 all0
  have KC7 := KC0.trans Kp3 all0
  have Z8 := Nat.le_trans Z0 Kp3.1
  refine own_st (G' := T3.setTop (mkF m 39 #[.val (.ref o1), .val (.ref o2), .val (.int (0 : Int32)), .val (.int (1 : Int32)), .val .null, .unset] [(.ref bb_3)])) st3 ?_
  obtain ⟨_, X3h, N3h⟩ := own_hide X3 N3
  refine own_astore X3h hx 41 #[.val (.ref o1), .val (.ref o2), .val (.int (0 : Int32)), .val (.int (1 : Int32)), .val .null, .val (.ref bb_3)] (hb hby own_d3_39) rfl rfl ?_
  refine own_aloadN X3h hx 42 (hb hby own_d3_41) rfl rfl ?_
  refine own_aload X3h hx 44 (hb hby own_d3_42) rfl rfl ?_
  refine own_iloadN X3h hx 45 (hb hby own_d3_44) rfl ?_
  obtain ⟨_, _, ⟨T9, Lx9, kc9, nc9⟩, -, X9, ⟨Lc9, hQ9, lq9, yq9, zq9⟩, st9⟩ := Jvm.LawKit.callS X3h hx (y := (⟨"java/lang/StringUTF16", "coderFromArrayLen", "([BI)B"⟩ : MethodName)) hown (mvT hZ (hw _ (List.mem_of_getElem? (i := 27) rfl))) (mvT hZ (hw _ (List.mem_of_getElem? (i := 28) rfl))) (mvT hZ (hw _ (List.mem_of_getElem? (i := 21) rfl))) (mvT hZ (hw _ (List.mem_of_getElem? (i := 29) rfl))) (by decide) (backOf (W := 1) (own_rm7n1 l Z a0 hw [] bb_3 kb_3 [(.int (nar .byte c0.toInt8.toInt32))] T3.heap n0 Z8 G3_1) hZ (hw _ (List.mem_of_getElem? (i := 29) rfl)) (hw _ (List.mem_of_getElem? (i := 21) rfl)) (by decide) (by decide)) (g := (mkF m 45 #[.val (.ref o1), .val (.ref o2), .val (.int (0 : Int32)), .val (.int (1 : Int32)), .val .null, .val (.ref bb_3)] [(.int (1 : Int32)), (.ref bb_3), (.ref o1)])) rfl (by rw [hml]; rfl) (argsL := [(.ref bb_3), (.int (1 : Int32))]) (rest := [(.ref o1)]) (lenOf own_pd2 rfl) rfl (by show 2 * 0 + _ ≤ _; exact Nat.le_of_eq rfl) (hb hby own_d3_45) (fun _ _ => ⟨rfl, rfl, (by decide : 1 + 0 ≤ _), (by decide : 1 + 0 ≤ _)⟩)
  dsimp only [Pt.U, Pt.locs, Pt.cells, Pt.slots] at X9 lq9 yq9 zq9 st9 hQ9
  subst lq9 yq9 zq9
  obtain ⟨rfl, Nq9, eh9⟩ := hQ9
  have N9 := Fr.app N3h Nq9
  refine own_st (G' := T9.setTop (mkF m 48 #[.val (.ref o1), .val (.ref o2), .val (.int (0 : Int32)), .val (.int (1 : Int32)), .val .null, .val (.ref bb_3)] [(.int (0 : Int32)), (.ref o1)])) st9 ?_
  obtain ⟨_, X9h, N9h⟩ := own_hide X9 N9
  have f10 := (pF3.keep Kp3 nin0)
  have f11 := (pE1.keep Kp3)
  obtain ⟨T12, h12, X12, e12, W12, st12⟩ := putFN X9h hx hZ hown (hw _ (List.mem_of_getElem? (i := 30) rfl)) Via.refl eh9 f10 f11 (Or.inr ⟨(hw _ (List.mem_of_getElem? (i := 31) rfl)), rfl, hnm⟩) (hw _ (List.mem_of_getElem? (i := 6) rfl)) (ty := .byte) (v' := (.int (0 : Int32))) (by decide) rfl rfl (g := (mkF m 48 #[.val (.ref o1), .val (.ref o2), .val (.int (0 : Int32)), .val (.int (1 : Int32)), .val .null, .val (.ref bb_3)] [(.int (0 : Int32)), (.ref o1)])) rfl rfl (hb hby own_d3_48)
  have Fw12 := f10.same W12
  have N12 := Fr.snoc X12 N9h pG4
  have O13 := O6.wr W12 pG4
  have KC14 := KC7.wr W12 (Or.inl (List.mem_of_getElem? (i := 0) rfl))
  have Z15 := Nat.le_trans Z8 (Nat.le_of_eq W12.size.symm)
  refine own_st (G' := T12.setTop (mkF m 51 #[.val (.ref o1), .val (.ref o2), .val (.int (0 : Int32)), .val (.int (1 : Int32)), .val .null, .val (.ref bb_3)] [])) st12 ?_
  obtain ⟨_, X12h, N12h⟩ := own_hide X12 N12
  refine own_aloadN X12h hx 52 (hb hby own_d3_51) rfl rfl ?_
  refine own_aload X12h hx 54 (hb hby own_d3_52) rfl rfl ?_
  have f16 := ((pF2.keep Kp3 nin0).other W12 (Or.inr (slot_ne (Or.inr (hw _ (List.mem_of_getElem? (i := 33) rfl))) (Or.inr (hw _ (List.mem_of_getElem? (i := 31) rfl))) (by decide) (t := (.array .byte)) (t' := .byte) (by decide) (by decide))))
  have f17 := (f11.wr W12)
  obtain ⟨T18, h18, X18, e18, W18, st18⟩ := putF X12h hx hZ hown (host := "") (Or.inl (hw _ (List.mem_of_getElem? (i := 32) rfl))) Via.refl e12 f16 f17 (Or.inr ⟨(hw _ (List.mem_of_getElem? (i := 33) rfl)), rfl, hnm⟩) (hw _ (List.mem_of_getElem? (i := 6) rfl)) (v := (.ref bb_3)) (ty := (.array .byte)) (by decide) rfl rfl (g := (mkF m 54 #[.val (.ref o1), .val (.ref o2), .val (.int (0 : Int32)), .val (.int (1 : Int32)), .val .null, .val (.ref bb_3)] [(.ref bb_3), (.ref o1)])) rfl rfl (hb hby own_d3_54)
  have Fw18 := f16.same W18
  have N18 := Fr.snoc X18 N12h pG4
  have O19 := O13.wr W18 pG4
  have KC20 := KC14.wr W18 (Or.inl (List.mem_of_getElem? (i := 0) rfl))
  have Z21 := Nat.le_trans Z15 (Nat.le_of_eq W18.size.symm)
  refine own_st (G' := T18.setTop (mkF m 57 #[.val (.ref o1), .val (.ref o2), .val (.int (0 : Int32)), .val (.int (1 : Int32)), .val .null, .val (.ref bb_3)] [])) st18 ?_
  obtain ⟨_, X18h, N18h⟩ := own_hide X18 N18
  have f22 := (f17.wr W18)
  have f23 := (Fw12.other W18 (Or.inr (slot_ne (Or.inr (hw _ (List.mem_of_getElem? (i := 31) rfl))) (Or.inr (hw _ (List.mem_of_getElem? (i := 33) rfl))) (by decide) (t := .byte) (t' := (.array .byte)) (by decide) (by decide))))
  have f24 := ((G3_1.other W12 (Ne.symm ne4)).other W18 (Ne.symm ne4))
  exact own_retV (Q := own_Q3n1 Z cs S_cs hcs sf S_sf hsf o1 o2 kc c0 h0 n0) X18h hx hrt (hb hby own_d3_57) hlk e18 ⟨bb_3, kb_3, rfl, N18h, KC20, f22, sz_bb_3, Fw18, f23, f24⟩ (by decide) (by decide)
theorem own_d2_0 : decode jdk_42_method_3_code 0 = .ok (.aload_n 0, 1) := by decide +kernel
theorem own_d2_1 : decode jdk_42_method_3_code 1 = .ok (.aload_n 1, 1) := by decide +kernel
theorem own_d2_2 : decode jdk_42_method_3_code 2 = .ok (.iconst 0, 1) := by decide +kernel
theorem own_d2_3 : decode jdk_42_method_3_code 3 = .ok (.aload_n 1, 1) := by decide +kernel
theorem own_d2_4 : decode jdk_42_method_3_code 4 = .ok (.arraylength, 1) := by decide +kernel
theorem own_d2_5 : decode jdk_42_method_3_code 5 = .ok (.aconst_null, 1) := by decide +kernel
theorem own_d2_6 : decode jdk_42_method_3_code 6 = .ok (.invokespecial 27, 3) := by decide +kernel
theorem own_d2_9 : decode jdk_42_method_3_code 9 = .ok (.return_, 1) := by decide +kernel
theorem own_pd3 : parseMethodDescriptor "([CIILjava/lang/Void;)V" = some ⟨[(.array .char), .int, .int, (.object "java/lang/Void")], none⟩ := by decide +kernel
theorem own_ef2n1 (m : MethodId) (o1 : Addr) (o2 : Addr) : entryFrame m #[(.ref o1), (.ref o2)] 2 = mkF m 0 #[.val (.ref o1), .val (.ref o2)] [] := by first | (simp [entryFrame, mkF, argsToLocals, Value.category]; done) | rfl
def own_Q2n1 (Z : State) (cs : Int32) (S_cs : Sta Z Z.heap "java/lang/String" "COMPACT_STRINGS" "Z" (.int cs)) (hcs : ¬ cs = (0 : Int32)) (sf : Value) (S_sf : Sta Z Z.heap "jdk/internal/util/Preconditions" "SIOOBE_FORMATTER" "Ljava/util/function/BiFunction;" sf) (hsf : sf.isRef = true) (o1 : Addr) (o2 : Addr) (kc : ClassId) (c0 : Int32) (h0 : Heap) (n0 : Nat) (v : Option Value) (h : Heap) (L : List Loc) : Prop := ∃ bb : Addr, ∃ kb : ClassId, v = none ∧ Fr n0 L ∧ Keep h0 h [o1] ∧ Exa Z h o1 "java/lang/String" ∧ h0.size ≤ bb ∧ Fld Z h o1 "java/lang/String" "value" "[B" (.ref bb) ∧ Fld Z h o1 "java/lang/String" "coder" "B" (.int (0 : Int32)) ∧ Arv Z h bb kb .byte (1 : Int32) [(.int (nar .byte c0.toInt8.toInt32))] (.int (0 : Int32))
set_option maxRecDepth 65536 in
set_option maxHeartbeats 40000000 in
theorem own_rm2n1 (l : Launch) (Z : State) (a0 : Array Value) (hw : ∀ d ∈ tables_1, d.before a0 Z = true) (ws : List Jvm.Cond) (cs : Int32) (S_cs : Sta Z Z.heap "java/lang/String" "COMPACT_STRINGS" "Z" (.int cs)) (hcs : ¬ cs = (0 : Int32)) (sf : Value) (S_sf : Sta Z Z.heap "jdk/internal/util/Preconditions" "SIOOBE_FORMATTER" "Ljava/util/function/BiFunction;" sf) (hsf : sf.isRef = true) (o1 : Addr) (o2 : Addr) (kc : ClassId) (c0 : Int32) (h0 : Heap) (n0 : Nat) (Z0 : n0 ≤ h0.size) (pE1 : Exa Z h0 o1 "java/lang/String") (pF2 : Fld Z h0 o1 "java/lang/String" "value" "[B" .null) (pF3 : Fld Z h0 o1 "java/lang/String" "coder" "B" (.int (0 : Int32))) (pG4 : n0 ≤ o1) (O0 : Old Z n0 h0) (pV6 : Arv Z h0 o2 kc .char (1 : Int32) [(.int c0)] (.int (0 : Int32))) (hc0 : ¬ (255 : Int32) < c0) :
    MetFree l (⟨"java/lang/String", "<init>", "([C)V"⟩ : MethodName) (head1 (Jvm.Cond.code (⟨"java/lang/String", "<init>", "([C)V"⟩ : MethodName) jdk_42_method_3_code 2 none :: ws) ({ frames := 3, cells := 1, slots := 1, locals := 52 } : Room)) (fun a U => a = #[(.ref o1), (.ref o2)] ∧ Z.Warmed39 U.vm ∧ U.heap = h0) (fun _ _ _ _ _ => True) (fun _ U o U' => ∃ v L, o = .returned v ∧ own_Q2n1 Z cs S_cs hcs sf S_sf hsf o1 o2 kc c0 h0 n0 v U'.heap L ∧ FrameEnd U o U' L ({ frames := 3, cells := 1, slots := 1, locals := 52 } : Room).cells ({ frames := 3, cells := 1, slots := 1, locals := 52 } : Room).slots) := by
  refine MetFree.of_bodySF (plainFor_of_name own_pn1) hisR ?_
  intro p e s m args below meth c s₁ Bd hml0 hP hK
  obtain ⟨rfl, hZ, hh⟩ := hP
  have hx := Bd.exec
  have hby := Bd.bytes
  have hlk := Bd.notSynchronized
  have hrt := Bd.returns
  have hml : c.maxLocals = 2 := hml0
  have hown : s.vm.findClass "java/lang/String" = some m.cls := findClass_of_methodNamed Bd.named
  have hnm := (name_of_methodNamed Bd.named Bd.method).1
  have X0 : Stand p l e ({ frames := 3, cells := 1, slots := 1, locals := 52 } : Room) s m #[(.ref o1), (.ref o2)] below meth c s₁ [] 0 0 := Stand.of_body Bd
  have e0 : s₁.heap = h0 := by rw [← hh, Bd.state]; rfl
  have N0 := Fr.nil n0
  have KC0 := Keep.refl h0 [o1]
  refine own_in (own_ef2n1 m o1 o2) ?_
  refine own_aloadN X0 hx 1 (hb hby own_d2_0) rfl rfl ?_
  refine own_aloadN X0 hx 2 (hb hby own_d2_1) rfl rfl ?_
  refine own_iconst X0 hx 3 (0 : Int32) (hb hby own_d2_2) rfl ?_
  refine own_aloadN X0 hx 4 (hb hby own_d2_3) rfl rfl ?_
  obtain ⟨cl1, Ar1, qv1, S1, M1, H1, G1⟩ := id pV6
  have ln1 := len_of S1 M1
  refine own_st (G' := s₁.setTop (mkF m 5 #[.val (.ref o1), .val (.ref o2)] [(.int (1 : Int32)), (.int (0 : Int32)), (.ref o2), (.ref o1)])) (fun t k => X0.arraylength hx (by rw [e0]; exact Ar1.1) (State.isArrayOf_alike hZ.alike Ar1.2.1) (g := (mkF m 4 #[.val (.ref o1), .val (.ref o2)] [(.ref o2), (.int (0 : Int32)), (.ref o2), (.ref o1)])) rfl rfl (hb hby own_d2_4) _ (by rw [ln1]; exact k)) ?_
  refine own_aconstNull X0 hx 6 (hb hby own_d2_5) ?_
  obtain ⟨_, _, ⟨T2, Lx2, kc2, nc2⟩, -, X2, ⟨Lc2, hQ2, lq2, yq2, zq2⟩, st2⟩ := X0.specialBack hx (y := (⟨"java/lang/String", "<init>", "([CIILjava/lang/Void;)V"⟩ : MethodName)) rfl hown (mvT hZ (hw _ (List.mem_of_getElem? (i := 11) rfl))) (mvT hZ (hw _ (List.mem_of_getElem? (i := 12) rfl))) (mvT hZ (hw _ (List.mem_of_getElem? (i := 14) rfl))) (by decide) (backOf (W := 0) (own_rm3n1 l Z a0 hw [] cs S_cs hcs sf S_sf hsf o1 o2 kc c0 h0 n0 Z0 pE1 pF2 pF3 pG4 O0 pV6 (by assumption : ¬ (255 : Int32) < c0)) hZ (hw _ (List.mem_of_getElem? (i := 14) rfl)) (hw _ (List.mem_of_getElem? (i := 7) rfl)) (by decide) (by decide)) (g := (mkF m 6 #[.val (.ref o1), .val (.ref o2)] [.null, (.int (1 : Int32)), (.int (0 : Int32)), (.ref o2), (.ref o1)])) rfl (by rw [hml]; rfl) (Steps.refl _) (a := o1) (argsL := [(.ref o2), (.int (0 : Int32)), (.int (1 : Int32)), .null]) (rest := []) (lenOf own_pd3 rfl) rfl (by show 2 * 0 + _ ≤ _; exact Nat.le_of_eq rfl) (hb hby own_d2_6) (fun _ _ => ⟨rfl, e0, (by decide : 0 + 1 ≤ _), (by decide : 0 + 1 ≤ _)⟩)
  dsimp only [Pt.U, Pt.locs, Pt.cells, Pt.slots] at X2 lq2 yq2 zq2 st2 hQ2
  subst lq2 yq2 zq2
  obtain ⟨bb_2, kb_2, rfl, Nq2, Kp2, G2_0, G2_1, G2_2, G2_3, G2_4⟩ := hQ2
  have N2 := Fr.app N0 Nq2
  have ne3 : o1 ≠ bb_2 := Nat.ne_of_lt (Nat.lt_of_lt_of_le pE1.lt G2_1)
  have ne4 : o2 ≠ bb_2 := Nat.ne_of_lt (Nat.lt_of_lt_of_le pV6.lt G2_1)
  have gt_bb_2 : n0 ≤ bb_2 := Nat.le_trans Z0 G2_1
  have sz_bb_2 : h0.size ≤ bb_2 := Nat.le_trans KC0.1 G2_1
  have O5 := O0.keep Kp2 (allS pG4 all0)
  have KC6 := KC0.trans Kp2 (allS (Or.inl (List.mem_of_getElem? (i := 0) rfl)) all0)
  have Z7 := Nat.le_trans Z0 Kp2.1
  refine own_st (G' := T2.setTop (mkF m 9 #[.val (.ref o1), .val (.ref o2)] [])) (fun t k => st2.trans k) ?_
  obtain ⟨_, X2h, N2h⟩ := own_hide X2 N2
  exact own_retV (Q := own_Q2n1 Z cs S_cs hcs sf S_sf hsf o1 o2 kc c0 h0 n0) X2h hx hrt (hb hby own_d2_9) hlk rfl ⟨bb_2, kb_2, rfl, N2h, KC6, G2_0, sz_bb_2, G2_2, G2_3, G2_4⟩ (by decide) (by decide)
theorem own_ef6n2 (m : MethodId) (o1 : Addr) (o2 : Addr) : entryFrame m #[(.ref o1), (.int (0 : Int32)), (.ref o2), (.int (0 : Int32)), (.int (2 : Int32))] 7 = mkF m 0 #[.val (.ref o1), .val (.int (0 : Int32)), .val (.ref o2), .val (.int (0 : Int32)), .val (.int (2 : Int32)), .unset, .unset] [] := by first | (simp [entryFrame, mkF, argsToLocals, Value.category]; done) | rfl
def own_Q6n2 (Z : State) (o1 : Addr) (o2 : Addr) (kb : ClassId) (kc : ClassId) (c0 : Int32) (c1 : Int32) (h0 : Heap) (n0 : Nat) (v : Option Value) (h : Heap) (L : List Loc) : Prop := v = some (.int (2 : Int32)) ∧ Fr n0 L ∧ Keep h0 h [o2] ∧ Arv Z h o2 kb .byte (2 : Int32) [(.int (nar .byte c0.toInt8.toInt32)), (.int (nar .byte c1.toInt8.toInt32))] (.int (0 : Int32))
set_option maxRecDepth 65536 in
set_option maxHeartbeats 40000000 in
theorem own_rm6n2 (l : Launch) (Z : State) (a0 : Array Value) (hw : ∀ d ∈ tables_1, d.before a0 Z = true) (ws : List Jvm.Cond) (o1 : Addr) (o2 : Addr) (kb : ClassId) (kc : ClassId) (c0 : Int32) (c1 : Int32) (h0 : Heap) (n0 : Nat) (Z0 : n0 ≤ h0.size) (pV1 : Arv Z h0 o1 kc .char (2 : Int32) [(.int c0), (.int c1)] (.int (0 : Int32))) (pV2 : Arv Z h0 o2 kb .byte (2 : Int32) [(.int (0 : Int32)), (.int (0 : Int32))] (.int (0 : Int32))) (pG3 : n0 ≤ o2) (pN4 : o1 ≠ o2) (hc0 : ¬ (255 : Int32) < c0) (hc1 : ¬ (255 : Int32) < c1) :
    MetFree l (⟨"java/lang/StringUTF16", "compress", "([CI[BII)I"⟩ : MethodName) (head1 (Jvm.Cond.code (⟨"java/lang/StringUTF16", "compress", "([CI[BII)I"⟩ : MethodName) jdk_52_method_21_code 7 (some .int) :: ws) ({ frames := 0, cells := 0, slots := 0, locals := 0 } : Room)) (fun a U => a = #[(.ref o1), (.int (0 : Int32)), (.ref o2), (.int (0 : Int32)), (.int (2 : Int32))] ∧ Z.Warmed39 U.vm ∧ U.heap = h0) (fun _ _ _ _ _ => True) (fun _ U o U' => ∃ v L, o = .returned v ∧ own_Q6n2 Z o1 o2 kb kc c0 c1 h0 n0 v U'.heap L ∧ FrameEnd U o U' L ({ frames := 0, cells := 0, slots := 0, locals := 0 } : Room).cells ({ frames := 0, cells := 0, slots := 0, locals := 0 } : Room).slots) := by
  refine MetFree.of_bodySF (plainFor_of_name own_pn0) hisR ?_
  intro p e s m args below meth c s₁ Bd hml0 hP hK
  obtain ⟨rfl, hZ, hh⟩ := hP
  have hx := Bd.exec
  have hby := Bd.bytes
  have hlk := Bd.notSynchronized
  have hrt := Bd.returns
  have hml : c.maxLocals = 7 := hml0
  have hown : s.vm.findClass "java/lang/StringUTF16" = some m.cls := findClass_of_methodNamed Bd.named
  have hnm := (name_of_methodNamed Bd.named Bd.method).1
  have X0 : Stand p l e ({ frames := 0, cells := 0, slots := 0, locals := 0 } : Room) s m #[(.ref o1), (.int (0 : Int32)), (.ref o2), (.int (0 : Int32)), (.int (2 : Int32))] below meth c s₁ [] 0 0 := Stand.of_body Bd
  have e0 : s₁.heap = h0 := by rw [← hh, Bd.state]; rfl
  have N0 := Fr.nil n0
  have KC0 := Keep.refl h0 [o2]
  refine own_in (own_ef6n2 m o1 o2) ?_
  refine own_iconst X0 hx 1 (0 : Int32) (hb hby own_d6_0) rfl ?_
  refine own_istore X0 hx 3 #[.val (.ref o1), .val (.int (0 : Int32)), .val (.ref o2), .val (.int (0 : Int32)), .val (.int (2 : Int32)), .val (.int (0 : Int32)), .unset] (hb hby own_d6_1) rfl ?_
  refine own_iload X0 hx 5 (hb hby own_d6_3) rfl ?_
  refine own_iload X0 hx 7 (hb hby own_d6_5) rfl ?_
  refine own_icmpNo X0 hx 10 (hb hby own_d6_7) (tlt (by decide : (0 : Int32) < (2 : Int32))).2.1 ?_
  refine own_aloadN X0 hx 11 (hb hby own_d6_10) rfl rfl ?_
  refine own_iloadN X0 hx 12 (hb hby own_d6_11) rfl ?_
  obtain ⟨cl1, Ar1, qv1, S1, M1, H1, G1⟩ := id pV1
  have hin1 : ¬ ((0 : Int32) < 0 ∨ cl1.slots.size ≤ ((0 : Int32)).toNatClampNeg) := inb_of S1 ⟨by decide, by decide⟩
  refine own_st (G' := s₁.setTop (mkF m 13 #[.val (.ref o1), .val (.int (0 : Int32)), .val (.ref o2), .val (.int (0 : Int32)), .val (.int (2 : Int32)), .val (.int (0 : Int32)), .unset] [(.int c0)])) (fun t k => X0.caload hx (j := (0 : Int32)) (v := (.int c0)) (by rw [e0]; exact Ar1.1) (State.isArrayOf_alike hZ.alike Ar1.2.1) Ar1.2.2 hin1 (H1.at hin1 rfl) (g := (mkF m 12 #[.val (.ref o1), .val (.int (0 : Int32)), .val (.ref o2), .val (.int (0 : Int32)), .val (.int (2 : Int32)), .val (.int (0 : Int32)), .unset] [(.int (0 : Int32)), (.ref o1)])) rfl rfl (hb hby own_d6_12) _ k) ?_
  refine own_istore X0 hx 15 #[.val (.ref o1), .val (.int (0 : Int32)), .val (.ref o2), .val (.int (0 : Int32)), .val (.int (2 : Int32)), .val (.int (0 : Int32)), .val (.int c0)] (hb hby own_d6_13) rfl ?_
  refine own_iload X0 hx 17 (hb hby own_d6_15) rfl ?_
  refine own_sipush X0 hx 20 (255 : Int32) (hb hby own_d6_17) rfl ?_
  refine own_icmpYes X0 hx 26 (hb hby own_d6_20) (flt hc0).2.2.2 ?_
  refine own_aloadN X0 hx 27 (hb hby own_d6_26) rfl rfl ?_
  refine own_iloadN X0 hx 28 (hb hby own_d6_27) rfl ?_
  refine own_iload X0 hx 30 (hb hby own_d6_28) rfl ?_
  refine own_i2b X0 hx 31 (hb hby own_d6_30) ?_
  obtain ⟨cl2, Ar2, qv2, S2, M2, H2, G2⟩ := id pV2
  have hin2 : ¬ ((0 : Int32) < 0 ∨ cl2.slots.size ≤ ((0 : Int32)).toNatClampNeg) := inb_of S2 ⟨by decide, by decide⟩
  obtain ⟨T2, h2, X2, e2, W2, st2⟩ := stB X0 hx hZ e0 Ar2 (j := (0 : Int32)) hin2 (g := (mkF m 31 #[.val (.ref o1), .val (.int (0 : Int32)), .val (.ref o2), .val (.int (0 : Int32)), .val (.int (2 : Int32)), .val (.int (0 : Int32)), .val (.int c0)] [(.int (c0.toInt8.toInt32)), (.int (0 : Int32)), (.ref o2)])) rfl rfl (hb hby own_d6_31)
  have V2 : Arv Z h2 o2 kb .byte (2 : Int32) [(.int (nar .byte (c0.toInt8.toInt32))), (.int (0 : Int32))] (.int (0 : Int32)) := Arv.set Ar2 qv2 S2 M2 H2 G2 (fits_nar_byte _) W2 0 rfl (Nat.le_of_ble_eq_true rfl)
  have N2 := Fr.snoc X2 N0 pG3
  have KC3 := KC0.wr W2 (Or.inl (List.mem_of_getElem? (i := 0) rfl))
  have Z4 := Nat.le_trans Z0 (Nat.le_of_eq W2.size.symm)
  refine own_st (G' := T2.setTop (mkF m 32 #[.val (.ref o1), .val (.int (0 : Int32)), .val (.ref o2), .val (.int (0 : Int32)), .val (.int (2 : Int32)), .val (.int (0 : Int32)), .val (.int c0)] [])) st2 ?_
  obtain ⟨_, X2h, N2h⟩ := own_hide X2 N2
  refine own_iinc X2h hx 35 (1 : Int32) #[.val (.ref o1), .val (.int (1 : Int32)), .val (.ref o2), .val (.int (0 : Int32)), .val (.int (2 : Int32)), .val (.int (0 : Int32)), .val (.int c0)] (hb hby own_d6_32) rfl rfl rfl ?_
  refine own_iinc X2h hx 38 (1 : Int32) #[.val (.ref o1), .val (.int (1 : Int32)), .val (.ref o2), .val (.int (1 : Int32)), .val (.int (2 : Int32)), .val (.int (0 : Int32)), .val (.int c0)] (hb hby own_d6_35) rfl rfl rfl ?_
  refine own_iinc X2h hx 41 (1 : Int32) #[.val (.ref o1), .val (.int (1 : Int32)), .val (.ref o2), .val (.int (1 : Int32)), .val (.int (2 : Int32)), .val (.int (1 : Int32)), .val (.int c0)] (hb hby own_d6_38) rfl rfl rfl ?_
  refine own_goto X2h hx 3 (hb hby own_d6_41) ?_
  refine own_iload X2h hx 5 (hb hby own_d6_3) rfl ?_
  refine own_iload X2h hx 7 (hb hby own_d6_5) rfl ?_
  refine own_icmpNo X2h hx 10 (hb hby own_d6_7) (tlt (by decide : (1 : Int32) < (2 : Int32))).2.1 ?_
  refine own_aloadN X2h hx 11 (hb hby own_d6_10) rfl rfl ?_
  refine own_iloadN X2h hx 12 (hb hby own_d6_11) rfl ?_
  have f5 := (pV1.other W2 pN4)
  obtain ⟨cl6, Ar6, qv6, S6, M6, H6, G6⟩ := id f5
  have hin6 : ¬ ((1 : Int32) < 0 ∨ cl6.slots.size ≤ ((1 : Int32)).toNatClampNeg) := inb_of S6 ⟨by decide, by decide⟩
  refine own_st (G' := T2.setTop (mkF m 13 #[.val (.ref o1), .val (.int (1 : Int32)), .val (.ref o2), .val (.int (1 : Int32)), .val (.int (2 : Int32)), .val (.int (1 : Int32)), .val (.int c0)] [(.int c1)])) (fun t k => X2h.caload hx (j := (1 : Int32)) (v := (.int c1)) (by rw [e2]; exact Ar6.1) (State.isArrayOf_alike hZ.alike Ar6.2.1) Ar6.2.2 hin6 (H6.at hin6 rfl) (g := (mkF m 12 #[.val (.ref o1), .val (.int (1 : Int32)), .val (.ref o2), .val (.int (1 : Int32)), .val (.int (2 : Int32)), .val (.int (1 : Int32)), .val (.int c0)] [(.int (1 : Int32)), (.ref o1)])) rfl rfl (hb hby own_d6_12) _ k) ?_
  refine own_istore X2h hx 15 #[.val (.ref o1), .val (.int (1 : Int32)), .val (.ref o2), .val (.int (1 : Int32)), .val (.int (2 : Int32)), .val (.int (1 : Int32)), .val (.int c1)] (hb hby own_d6_13) rfl ?_
  refine own_iload X2h hx 17 (hb hby own_d6_15) rfl ?_
  refine own_sipush X2h hx 20 (255 : Int32) (hb hby own_d6_17) rfl ?_
  refine own_icmpYes X2h hx 26 (hb hby own_d6_20) (flt hc1).2.2.2 ?_
  refine own_aloadN X2h hx 27 (hb hby own_d6_26) rfl rfl ?_
  refine own_iloadN X2h hx 28 (hb hby own_d6_27) rfl ?_
  refine own_iload X2h hx 30 (hb hby own_d6_28) rfl ?_
  refine own_i2b X2h hx 31 (hb hby own_d6_30) ?_
  obtain ⟨cl7, Ar7, qv7, S7, M7, H7, G7⟩ := id V2
  have hin7 : ¬ ((1 : Int32) < 0 ∨ cl7.slots.size ≤ ((1 : Int32)).toNatClampNeg) := inb_of S7 ⟨by decide, by decide⟩
  obtain ⟨T7, h7, X7, e7, W7, st7⟩ := stB X2h hx hZ e2 Ar7 (j := (1 : Int32)) hin7 (g := (mkF m 31 #[.val (.ref o1), .val (.int (1 : Int32)), .val (.ref o2), .val (.int (1 : Int32)), .val (.int (2 : Int32)), .val (.int (1 : Int32)), .val (.int c1)] [(.int (c1.toInt8.toInt32)), (.int (1 : Int32)), (.ref o2)])) rfl rfl (hb hby own_d6_31)
  have V7 : Arv Z h7 o2 kb .byte (2 : Int32) [(.int (nar .byte (c0.toInt8.toInt32))), (.int (nar .byte (c1.toInt8.toInt32)))] (.int (0 : Int32)) := Arv.set Ar7 qv7 S7 M7 H7 G7 (fits_nar_byte _) W7 1 rfl (Nat.le_of_ble_eq_true rfl)
  have N7 := Fr.snoc X7 N2h pG3
  have KC8 := KC3.wr W7 (Or.inl (List.mem_of_getElem? (i := 0) rfl))
  have Z9 := Nat.le_trans Z4 (Nat.le_of_eq W7.size.symm)
  refine own_st (G' := T7.setTop (mkF m 32 #[.val (.ref o1), .val (.int (1 : Int32)), .val (.ref o2), .val (.int (1 : Int32)), .val (.int (2 : Int32)), .val (.int (1 : Int32)), .val (.int c1)] [])) st7 ?_
  obtain ⟨_, X7h, N7h⟩ := own_hide X7 N7
  refine own_iinc X7h hx 35 (1 : Int32) #[.val (.ref o1), .val (.int (2 : Int32)), .val (.ref o2), .val (.int (1 : Int32)), .val (.int (2 : Int32)), .val (.int (1 : Int32)), .val (.int c1)] (hb hby own_d6_32) rfl rfl rfl ?_
  refine own_iinc X7h hx 38 (1 : Int32) #[.val (.ref o1), .val (.int (2 : Int32)), .val (.ref o2), .val (.int (2 : Int32)), .val (.int (2 : Int32)), .val (.int (1 : Int32)), .val (.int c1)] (hb hby own_d6_35) rfl rfl rfl ?_
  refine own_iinc X7h hx 41 (1 : Int32) #[.val (.ref o1), .val (.int (2 : Int32)), .val (.ref o2), .val (.int (2 : Int32)), .val (.int (2 : Int32)), .val (.int (2 : Int32)), .val (.int c1)] (hb hby own_d6_38) rfl rfl rfl ?_
  refine own_goto X7h hx 3 (hb hby own_d6_41) ?_
  refine own_iload X7h hx 5 (hb hby own_d6_3) rfl ?_
  refine own_iload X7h hx 7 (hb hby own_d6_5) rfl ?_
  refine own_icmpYes X7h hx 44 (hb hby own_d6_7) (flt (by decide : ¬ ((2 : Int32) < (2 : Int32)))).2.1 ?_
  refine own_iload X7h hx 46 (hb hby own_d6_44) rfl ?_
  exact own_retI (z := (2 : Int32)) (Q := own_Q6n2 Z o1 o2 kb kc c0 c1 h0 n0) X7h hx hrt (hb hby own_d6_46) hlk e7 ⟨rfl, N7h, KC8, V7⟩ (by decide) (by decide)
theorem own_ef5n2 (m : MethodId) (o1 : Addr) : entryFrame m #[(.ref o1), (.int (0 : Int32)), (.int (2 : Int32))] 6 = mkF m 0 #[.val (.ref o1), .val (.int (0 : Int32)), .val (.int (2 : Int32)), .unset, .unset, .unset] [] := by first | (simp [entryFrame, mkF, argsToLocals, Value.category]; done) | rfl
def own_Q5n2 (Z : State) (o1 : Addr) (kc : ClassId) (c0 : Int32) (c1 : Int32) (h0 : Heap) (n0 : Nat) (v : Option Value) (h : Heap) (L : List Loc) : Prop := ∃ bb : Addr, ∃ kb : ClassId, v = some (.ref bb) ∧ Fr n0 L ∧ Keep h0 h [] ∧ h0.size ≤ bb ∧ Arv Z h bb kb .byte (2 : Int32) [(.int (nar .byte c0.toInt8.toInt32)), (.int (nar .byte c1.toInt8.toInt32))] (.int (0 : Int32))
set_option maxRecDepth 65536 in
set_option maxHeartbeats 40000000 in
theorem own_rm5n2 (l : Launch) (Z : State) (a0 : Array Value) (hw : ∀ d ∈ tables_1, d.before a0 Z = true) (ws : List Jvm.Cond) (o1 : Addr) (kc : ClassId) (c0 : Int32) (c1 : Int32) (h0 : Heap) (n0 : Nat) (Z0 : n0 ≤ h0.size) (pV1 : Arv Z h0 o1 kc .char (2 : Int32) [(.int c0), (.int c1)] (.int (0 : Int32))) (hc0 : ¬ (255 : Int32) < c0) (hc1 : ¬ (255 : Int32) < c1) :
    MetFree l (⟨"java/lang/StringUTF16", "compress", "([CII)[B"⟩ : MethodName) (head1 (Jvm.Cond.code (⟨"java/lang/StringUTF16", "compress", "([CII)[B"⟩ : MethodName) jdk_52_method_16_code 6 (some (.array .byte)) :: ws) ({ frames := 1, cells := 1, slots := 2, locals := 18 } : Room)) (fun a U => a = #[(.ref o1), (.int (0 : Int32)), (.int (2 : Int32))] ∧ Z.Warmed39 U.vm ∧ U.heap = h0) (fun _ _ _ _ _ => True) (fun _ U o U' => ∃ v L, o = .returned v ∧ own_Q5n2 Z o1 kc c0 c1 h0 n0 v U'.heap L ∧ FrameEnd U o U' L ({ frames := 1, cells := 1, slots := 2, locals := 18 } : Room).cells ({ frames := 1, cells := 1, slots := 2, locals := 18 } : Room).slots) := by
  refine MetFree.of_bodySF (plainFor_of_name own_pn0) hisR ?_
  intro p e s m args below meth c s₁ Bd hml0 hP hK
  obtain ⟨rfl, hZ, hh⟩ := hP
  have hx := Bd.exec
  have hby := Bd.bytes
  have hlk := Bd.notSynchronized
  have hrt := Bd.returns
  have hml : c.maxLocals = 6 := hml0
  have hown : s.vm.findClass "java/lang/StringUTF16" = some m.cls := findClass_of_methodNamed Bd.named
  have hnm := (name_of_methodNamed Bd.named Bd.method).1
  have X0 : Stand p l e ({ frames := 1, cells := 1, slots := 2, locals := 18 } : Room) s m #[(.ref o1), (.int (0 : Int32)), (.int (2 : Int32))] below meth c s₁ [] 0 0 := Stand.of_body Bd
  have e0 : s₁.heap = h0 := by rw [← hh, Bd.state]; rfl
  have N0 := Fr.nil n0
  have KC0 := Keep.refl h0 []
  refine own_in (own_ef5n2 m o1) ?_
  refine own_iloadN X0 hx 1 (hb hby own_d5_0) rfl ?_
  obtain ⟨T1, h1, k1, X1, e1, E1, A1, st1⟩ := newP X0 hx hZ (hw _ (List.mem_of_getElem? (i := 23) rfl)) e0 (g := (mkF m 1 #[.val (.ref o1), .val (.int (0 : Int32)), .val (.int (2 : Int32)), .unset, .unset, .unset] [(.int (2 : Int32))])) rfl (hb hby own_d5_1) rfl (by decide) (cap := 2) (by decide) (by decide) (by decide) (by decide)
  obtain ⟨b1, g1⟩ : ∃ z, z = h0.size := ⟨_, rfl⟩
  rw [← g1] at A1 st1
  have ne2 : o1 ≠ b1 := Nat.ne_of_lt (Nat.lt_of_lt_of_le pV1.lt (Nat.le_of_eq g1.symm))
  have gt_b1 : n0 ≤ b1 := Nat.le_trans Z0 (Nat.le_of_eq g1.symm)
  have sz_b1 : h0.size ≤ b1 := Nat.le_trans KC0.1 (Nat.le_of_eq g1.symm)
  have V1 : Arv Z h1 b1 k1 .byte (2 : Int32) [(.int (0 : Int32)), (.int (0 : Int32))] (.int (0 : Int32)) := (Arv.new A1 (by decide)).pad (pad_rep [] (.int (0 : Int32)) 2)
  have KC3 := KC0.ext E1
  have Z4 := Nat.le_trans Z0 E1.1
  refine own_st (G' := T1.setTop (mkF m 3 #[.val (.ref o1), .val (.int (0 : Int32)), .val (.int (2 : Int32)), .unset, .unset, .unset] [(.ref b1)])) st1 ?_
  obtain ⟨_, X1h, N1h⟩ := own_hide X1 N0
  refine own_astoreN X1h hx 4 #[.val (.ref o1), .val (.int (0 : Int32)), .val (.int (2 : Int32)), .val (.ref b1), .unset, .unset] (hb hby own_d5_3) rfl rfl ?_
  refine own_aloadN X1h hx 5 (hb hby own_d5_4) rfl rfl ?_
  refine own_iloadN X1h hx 6 (hb hby own_d5_5) rfl ?_
  refine own_aloadN X1h hx 7 (hb hby own_d5_6) rfl rfl ?_
  refine own_iconst X1h hx 8 (0 : Int32) (hb hby own_d5_7) rfl ?_
  refine own_iloadN X1h hx 9 (hb hby own_d5_8) rfl ?_
  have f5 := (pV1.ext E1)
  obtain ⟨_, _, ⟨T6, Lx6, kc6, nc6⟩, -, X6, ⟨Lc6, hQ6, lq6, yq6, zq6⟩, st6⟩ := Jvm.LawKit.callS X1h hx (y := (⟨"java/lang/StringUTF16", "compress", "([CI[BII)I"⟩ : MethodName)) hown (mvT hZ (hw _ (List.mem_of_getElem? (i := 24) rfl))) (mvT hZ (hw _ (List.mem_of_getElem? (i := 25) rfl))) (mvT hZ (hw _ (List.mem_of_getElem? (i := 21) rfl))) (mvT hZ (hw _ (List.mem_of_getElem? (i := 26) rfl))) (by decide) (backOf (W := 0) (own_rm6n2 l Z a0 hw [] o1 b1 k1 kc c0 c1 h1 n0 Z4 f5 V1 gt_b1 ne2 (by assumption : ¬ (255 : Int32) < c0) (by assumption : ¬ (255 : Int32) < c1)) hZ (hw _ (List.mem_of_getElem? (i := 26) rfl)) (hw _ (List.mem_of_getElem? (i := 21) rfl)) (by decide) (by decide)) (g := (mkF m 9 #[.val (.ref o1), .val (.int (0 : Int32)), .val (.int (2 : Int32)), .val (.ref b1), .unset, .unset] [(.int (2 : Int32)), (.int (0 : Int32)), (.ref b1), (.int (0 : Int32)), (.ref o1)])) rfl (by rw [hml]; rfl) (argsL := [(.ref o1), (.int (0 : Int32)), (.ref b1), (.int (0 : Int32)), (.int (2 : Int32))]) (rest := []) (lenOf own_pd0 rfl) rfl (by show 2 * 0 + _ ≤ _; exact Nat.le_of_eq rfl) (hb hby own_d5_9) (fun _ _ => ⟨rfl, e1, (by decide : 1 + 0 ≤ _), (by decide : 2 + 0 ≤ _)⟩)
  dsimp only [Pt.U, Pt.locs, Pt.cells, Pt.slots] at X6 lq6 yq6 zq6 st6 hQ6
  subst lq6 yq6 zq6
  obtain ⟨rfl, Nq6, Kp6, G6_0⟩ := hQ6
  have N6 := Fr.app N1h Nq6
  have KC7 := KC3.trans Kp6 (allS (Or.inr sz_b1) all0)
  have Z8 := Nat.le_trans Z4 Kp6.1
  refine own_st (G' := T6.setTop (mkF m 12 #[.val (.ref o1), .val (.int (0 : Int32)), .val (.int (2 : Int32)), .val (.ref b1), .unset, .unset] [(.int (2 : Int32))])) st6 ?_
  obtain ⟨_, X6h, N6h⟩ := own_hide X6 N6
  refine own_istore X6h hx 14 #[.val (.ref o1), .val (.int (0 : Int32)), .val (.int (2 : Int32)), .val (.ref b1), .val (.int (2 : Int32)), .unset] (hb hby own_d5_12) rfl ?_
  refine own_iload X6h hx 16 (hb hby own_d5_14) rfl ?_
  refine own_iloadN X6h hx 17 (hb hby own_d5_16) rfl ?_
  refine own_icmpYes X6h hx 57 (hb hby own_d5_17) (teq (rfl : (2 : Int32) = (2 : Int32))).1 ?_
  refine own_aloadN X6h hx 58 (hb hby own_d5_57) rfl rfl ?_
  exact own_retA (z := (.ref b1)) (Q := own_Q5n2 Z o1 kc c0 c1 h0 n0) X6h hx hrt rfl rfl (hb hby own_d5_58) hlk rfl ⟨b1, k1, rfl, N6h, KC7, sz_b1, G6_0⟩ (by decide) (by decide)
theorem own_ef7n2 (m : MethodId) (o1 : Addr) : entryFrame m #[(.ref o1), (.int (2 : Int32))] 2 = mkF m 0 #[.val (.ref o1), .val (.int (2 : Int32))] [] := by first | (simp [entryFrame, mkF, argsToLocals, Value.category]; done) | rfl
def own_Q7n2 (Z : State) (o1 : Addr) (kb : ClassId) (vs : List Value) (h0 : Heap) (n0 : Nat) (v : Option Value) (h : Heap) (L : List Loc) : Prop := v = some (.int (0 : Int32)) ∧ Fr n0 L ∧ h = h0
set_option maxRecDepth 65536 in
set_option maxHeartbeats 40000000 in
theorem own_rm7n2 (l : Launch) (Z : State) (a0 : Array Value) (hw : ∀ d ∈ tables_1, d.before a0 Z = true) (ws : List Jvm.Cond) (o1 : Addr) (kb : ClassId) (vs : List Value) (h0 : Heap) (n0 : Nat) (Z0 : n0 ≤ h0.size) (pV1 : Arv Z h0 o1 kb .byte (2 : Int32) vs (.int (0 : Int32))) :
    MetFree l (⟨"java/lang/StringUTF16", "coderFromArrayLen", "([BI)B"⟩ : MethodName) (head1 (Jvm.Cond.code (⟨"java/lang/StringUTF16", "coderFromArrayLen", "([BI)B"⟩ : MethodName) jdk_52_method_15_code 2 (some .byte) :: ws) ({ frames := 0, cells := 0, slots := 0, locals := 0 } : Room)) (fun a U => a = #[(.ref o1), (.int (2 : Int32))] ∧ Z.Warmed39 U.vm ∧ U.heap = h0) (fun _ _ _ _ _ => True) (fun _ U o U' => ∃ v L, o = .returned v ∧ own_Q7n2 Z o1 kb vs h0 n0 v U'.heap L ∧ FrameEnd U o U' L ({ frames := 0, cells := 0, slots := 0, locals := 0 } : Room).cells ({ frames := 0, cells := 0, slots := 0, locals := 0 } : Room).slots) := by
  refine MetFree.of_bodySF (plainFor_of_name own_pn0) hisR ?_
  intro p e s m args below meth c s₁ Bd hml0 hP hK
  obtain ⟨rfl, hZ, hh⟩ := hP
  have hx := Bd.exec
  have hby := Bd.bytes
  have hlk := Bd.notSynchronized
  have hrt := Bd.returns
  have hml : c.maxLocals = 2 := hml0
  have hown : s.vm.findClass "java/lang/StringUTF16" = some m.cls := findClass_of_methodNamed Bd.named
  have hnm := (name_of_methodNamed Bd.named Bd.method).1
  have X0 : Stand p l e ({ frames := 0, cells := 0, slots := 0, locals := 0 } : Room) s m #[(.ref o1), (.int (2 : Int32))] below meth c s₁ [] 0 0 := Stand.of_body Bd
  have e0 : s₁.heap = h0 := by rw [← hh, Bd.state]; rfl
  have N0 := Fr.nil n0
  refine own_in (own_ef7n2 m o1) ?_
  refine own_iloadN X0 hx 1 (hb hby own_d7_0) rfl ?_
  refine own_aloadN X0 hx 2 (hb hby own_d7_1) rfl rfl ?_
  obtain ⟨cl1, Ar1, qv1, S1, M1, H1, G1⟩ := id pV1
  have ln1 := len_of S1 M1
  refine own_st (G' := s₁.setTop (mkF m 3 #[.val (.ref o1), .val (.int (2 : Int32))] [(.int (2 : Int32)), (.int (2 : Int32))])) (fun t k => X0.arraylength hx (by rw [e0]; exact Ar1.1) (State.isArrayOf_alike hZ.alike Ar1.2.1) (g := (mkF m 2 #[.val (.ref o1), .val (.int (2 : Int32))] [(.ref o1), (.int (2 : Int32))])) rfl rfl (hb hby own_d7_2) _ (by rw [ln1]; exact k)) ?_
  refine own_isub X0 hx 4 (hb hby own_d7_3) ?_
  show own_Gs p e below _ (s₁.setTop (mkF m 4 #[.val (.ref o1), .val (.int (2 : Int32))] [(.int (0 : Int32))]))
  refine own_bipush X0 hx 6 (31 : Int32) (hb hby own_d7_4) rfl ?_
  refine own_iushr X0 hx 7 (hb hby own_d7_6) ?_
  refine own_i2b X0 hx 8 (hb hby own_d7_7) ?_
  exact own_retN (t := .byte) (z := ((((0 : Int32).toUInt32 >>> ((31 : Int32) &&& 31).toUInt32).toInt32).toInt8.toInt32)) (Q := own_Q7n2 Z o1 kb vs h0 n0) X0 hx hrt (by simp) (hb hby own_d7_8) hlk e0 ⟨(own_leafI (by decide)), N0, rfl⟩ (by decide) (by decide)
theorem own_ef3n2 (m : MethodId) (o1 : Addr) (o2 : Addr) : entryFrame m #[(.ref o1), (.ref o2), (.int (0 : Int32)), (.int (2 : Int32)), .null] 6 = mkF m 0 #[.val (.ref o1), .val (.ref o2), .val (.int (0 : Int32)), .val (.int (2 : Int32)), .val .null, .unset] [] := by first | (simp [entryFrame, mkF, argsToLocals, Value.category]; done) | rfl
def own_Q3n2 (Z : State) (cs : Int32) (S_cs : Sta Z Z.heap "java/lang/String" "COMPACT_STRINGS" "Z" (.int cs)) (hcs : ¬ cs = (0 : Int32)) (sf : Value) (S_sf : Sta Z Z.heap "jdk/internal/util/Preconditions" "SIOOBE_FORMATTER" "Ljava/util/function/BiFunction;" sf) (hsf : sf.isRef = true) (o1 : Addr) (o2 : Addr) (kc : ClassId) (c0 : Int32) (c1 : Int32) (h0 : Heap) (n0 : Nat) (v : Option Value) (h : Heap) (L : List Loc) : Prop := ∃ bb : Addr, ∃ kb : ClassId, v = none ∧ Fr n0 L ∧ Keep h0 h [o1] ∧ Exa Z h o1 "java/lang/String" ∧ h0.size ≤ bb ∧ Fld Z h o1 "java/lang/String" "value" "[B" (.ref bb) ∧ Fld Z h o1 "java/lang/String" "coder" "B" (.int (0 : Int32)) ∧ Arv Z h bb kb .byte (2 : Int32) [(.int (nar .byte c0.toInt8.toInt32)), (.int (nar .byte c1.toInt8.toInt32))] (.int (0 : Int32))
set_option maxRecDepth 65536 in
set_option maxHeartbeats 40000000 in
theorem own_rm3n2 (l : Launch) (Z : State) (a0 : Array Value) (hw : ∀ d ∈ tables_1, d.before a0 Z = true) (ws : List Jvm.Cond) (cs : Int32) (S_cs : Sta Z Z.heap "java/lang/String" "COMPACT_STRINGS" "Z" (.int cs)) (hcs : ¬ cs = (0 : Int32)) (sf : Value) (S_sf : Sta Z Z.heap "jdk/internal/util/Preconditions" "SIOOBE_FORMATTER" "Ljava/util/function/BiFunction;" sf) (hsf : sf.isRef = true) (o1 : Addr) (o2 : Addr) (kc : ClassId) (c0 : Int32) (c1 : Int32) (h0 : Heap) (n0 : Nat) (Z0 : n0 ≤ h0.size) (pE1 : Exa Z h0 o1 "java/lang/String") (pF2 : Fld Z h0 o1 "java/lang/String" "value" "[B" .null) (pF3 : Fld Z h0 o1 "java/lang/String" "coder" "B" (.int (0 : Int32))) (pG4 : n0 ≤ o1) (O0 : Old Z n0 h0) (pV6 : Arv Z h0 o2 kc .char (2 : Int32) [(.int c0), (.int c1)] (.int (0 : Int32))) (hc0 : ¬ (255 : Int32) < c0) (hc1 : ¬ (255 : Int32) < c1) :
    MetFree l (⟨"java/lang/String", "<init>", "([CIILjava/lang/Void;)V"⟩ : MethodName) (head1 (Jvm.Cond.code (⟨"java/lang/String", "<init>", "([CIILjava/lang/Void;)V"⟩ : MethodName) jdk_42_method_149_code 6 none :: ws) ({ frames := 2, cells := 1, slots := 2, locals := 35 } : Room)) (fun a U => a = #[(.ref o1), (.ref o2), (.int (0 : Int32)), (.int (2 : Int32)), .null] ∧ Z.Warmed39 U.vm ∧ U.heap = h0) (fun _ _ _ _ _ => True) (fun _ U o U' => ∃ v L, o = .returned v ∧ own_Q3n2 Z cs S_cs hcs sf S_sf hsf o1 o2 kc c0 c1 h0 n0 v U'.heap L ∧ FrameEnd U o U' L ({ frames := 2, cells := 1, slots := 2, locals := 35 } : Room).cells ({ frames := 2, cells := 1, slots := 2, locals := 35 } : Room).slots) := by
  refine MetFree.of_bodySF (plainFor_of_name own_pn1) hisR ?_
  intro p e s m args below meth c s₁ Bd hml0 hP hK
  obtain ⟨rfl, hZ, hh⟩ := hP
  have hx := Bd.exec
  have hby := Bd.bytes
  have hlk := Bd.notSynchronized
  have hrt := Bd.returns
  have hml : c.maxLocals = 6 := hml0
  have hown : s.vm.findClass "java/lang/String" = some m.cls := findClass_of_methodNamed Bd.named
  have hnm := (name_of_methodNamed Bd.named Bd.method).1
  have X0 : Stand p l e ({ frames := 2, cells := 1, slots := 2, locals := 35 } : Room) s m #[(.ref o1), (.ref o2), (.int (0 : Int32)), (.int (2 : Int32)), .null] below meth c s₁ [] 0 0 := Stand.of_body Bd
  have e0 : s₁.heap = h0 := by rw [← hh, Bd.state]; rfl
  have N0 := Fr.nil n0
  have KC0 := Keep.refl h0 [o1]
  refine own_in (own_ef3n2 m o1 o2) ?_
  refine own_aloadN X0 hx 1 (hb hby own_d3_0) rfl rfl ?_
  obtain ⟨T1, X1, e1, st1⟩ := initO X0 hx hZ hown (hw _ (List.mem_of_getElem? (i := 15) rfl)) (hw _ (List.mem_of_getElem? (i := 16) rfl)) (hw _ (List.mem_of_getElem? (i := 17) rfl)) e0 (g := (mkF m 1 #[.val (.ref o1), .val (.ref o2), .val (.int (0 : Int32)), .val (.int (2 : Int32)), .val .null, .unset] [(.ref o1)])) rfl (by rw [hml]; rfl) rfl (hb hby own_d3_1) (by decide) (W := 0) (by show 2 * 0 + _ ≤ _; exact Nat.le_of_eq rfl) (by decide)
  refine own_st (G' := T1.setTop (mkF m 4 #[.val (.ref o1), .val (.ref o2), .val (.int (0 : Int32)), .val (.int (2 : Int32)), .val .null, .unset] [])) st1 ?_
  obtain ⟨_, X1h, N1h⟩ := own_hide X1 N0
  refine own_iloadN X1h hx 5 (hb hby own_d3_4) rfl ?_
  refine own_ifYes X1h hx 27 (hb hby own_d3_5) (feq (by decide : ¬ ((2 : Int32) = (0 : Int32)))).2 ?_
  obtain ⟨T2, X2, e2, st2⟩ := getS2 X1h hx hZ hown (host := "") (Or.inl (hw _ (List.mem_of_getElem? (i := 18) rfl))) Via.refl e1 (S_cs.ext O0.2) (g := (mkF m 27 #[.val (.ref o1), .val (.ref o2), .val (.int (0 : Int32)), .val (.int (2 : Int32)), .val .null, .unset] [])) rfl (hb hby own_d3_27)
  refine own_st (G' := T2.setTop (mkF m 30 #[.val (.ref o1), .val (.ref o2), .val (.int (0 : Int32)), .val (.int (2 : Int32)), .val .null, .unset] [(.int cs)])) st2 ?_
  obtain ⟨_, X2h, N2h⟩ := own_hide X2 N1h
  refine own_ifNo X2h hx 33 (hb hby own_d3_30) (feq (hcs : ¬ (cs = (0 : Int32)))).1 ?_
  refine own_aloadN X2h hx 34 (hb hby own_d3_33) rfl rfl ?_
  refine own_iloadN X2h hx 35 (hb hby own_d3_34) rfl ?_
  refine own_iloadN X2h hx 36 (hb hby own_d3_35) rfl ?_
  obtain ⟨_, _, ⟨T3, Lx3, kc3, nc3⟩, -, X3, ⟨Lc3, hQ3, lq3, yq3, zq3⟩, st3⟩ := Jvm.LawKit.callS X2h hx (y := (⟨"java/lang/StringUTF16", "compress", "([CII)[B"⟩ : MethodName)) hown (mvT hZ (hw _ (List.mem_of_getElem? (i := 19) rfl))) (mvT hZ (hw _ (List.mem_of_getElem? (i := 20) rfl))) (mvT hZ (hw _ (List.mem_of_getElem? (i := 21) rfl))) (mvT hZ (hw _ (List.mem_of_getElem? (i := 22) rfl))) (by decide) (backOf (W := 0) (own_rm5n2 l Z a0 hw [] o2 kc c0 c1 h0 n0 Z0 pV6 (by assumption : ¬ (255 : Int32) < c0) (by assumption : ¬ (255 : Int32) < c1)) hZ (hw _ (List.mem_of_getElem? (i := 22) rfl)) (hw _ (List.mem_of_getElem? (i := 21) rfl)) (by decide) (by decide)) (g := (mkF m 36 #[.val (.ref o1), .val (.ref o2), .val (.int (0 : Int32)), .val (.int (2 : Int32)), .val .null, .unset] [(.int (2 : Int32)), (.int (0 : Int32)), (.ref o2)])) rfl (by rw [hml]; rfl) (argsL := [(.ref o2), (.int (0 : Int32)), (.int (2 : Int32))]) (rest := []) (lenOf own_pd1 rfl) rfl (by show 2 * 0 + _ ≤ _; exact Nat.le_of_eq rfl) (hb hby own_d3_36) (fun _ _ => ⟨rfl, e2, (by decide : 0 + 1 ≤ _), (by decide : 0 + 2 ≤ _)⟩)
  dsimp only [Pt.U, Pt.locs, Pt.cells, Pt.slots] at X3 lq3 yq3 zq3 st3 hQ3
  subst lq3 yq3 zq3
  obtain ⟨bb_3, kb_3, rfl, Nq3, Kp3, G3_0, G3_1⟩ := hQ3
  have N3 := Fr.app N2h Nq3
  have ne4 : o1 ≠ bb_3 := Nat.ne_of_lt (Nat.lt_of_lt_of_le pE1.lt G3_0)
  have ne5 : o2 ≠ bb_3 := Nat.ne_of_lt (Nat.lt_of_lt_of_le pV6.lt G3_0)
  have gt_bb_3 : n0 ≤ bb_3 := Nat.le_trans Z0 G3_0
  have sz_bb_3 : h0.size ≤ bb_3 := Nat.le_trans KC0.1 G3_0
  have O6 := O0.keep Kp3 all0
  have KC7 := KC0.trans Kp3 all0
  have Z8 := Nat.le_trans Z0 Kp3.1
  refine own_st (G' := T3.setTop (mkF m 39 #[.val (.ref o1), .val (.ref o2), .val (.int (0 : Int32)), .val (.int (2 : Int32)), .val .null, .unset] [(.ref bb_3)])) st3 ?_
  obtain ⟨_, X3h, N3h⟩ := own_hide X3 N3
  refine own_astore X3h hx 41 #[.val (.ref o1), .val (.ref o2), .val (.int (0 : Int32)), .val (.int (2 : Int32)), .val .null, .val (.ref bb_3)] (hb hby own_d3_39) rfl rfl ?_
  refine own_aloadN X3h hx 42 (hb hby own_d3_41) rfl rfl ?_
  refine own_aload X3h hx 44 (hb hby own_d3_42) rfl rfl ?_
  refine own_iloadN X3h hx 45 (hb hby own_d3_44) rfl ?_
  obtain ⟨_, _, ⟨T9, Lx9, kc9, nc9⟩, -, X9, ⟨Lc9, hQ9, lq9, yq9, zq9⟩, st9⟩ := Jvm.LawKit.callS X3h hx (y := (⟨"java/lang/StringUTF16", "coderFromArrayLen", "([BI)B"⟩ : MethodName)) hown (mvT hZ (hw _ (List.mem_of_getElem? (i := 27) rfl))) (mvT hZ (hw _ (List.mem_of_getElem? (i := 28) rfl))) (mvT hZ (hw _ (List.mem_of_getElem? (i := 21) rfl))) (mvT hZ (hw _ (List.mem_of_getElem? (i := 29) rfl))) (by decide) (backOf (W := 1) (own_rm7n2 l Z a0 hw [] bb_3 kb_3 [(.int (nar .byte c0.toInt8.toInt32)), (.int (nar .byte c1.toInt8.toInt32))] T3.heap n0 Z8 G3_1) hZ (hw _ (List.mem_of_getElem? (i := 29) rfl)) (hw _ (List.mem_of_getElem? (i := 21) rfl)) (by decide) (by decide)) (g := (mkF m 45 #[.val (.ref o1), .val (.ref o2), .val (.int (0 : Int32)), .val (.int (2 : Int32)), .val .null, .val (.ref bb_3)] [(.int (2 : Int32)), (.ref bb_3), (.ref o1)])) rfl (by rw [hml]; rfl) (argsL := [(.ref bb_3), (.int (2 : Int32))]) (rest := [(.ref o1)]) (lenOf own_pd2 rfl) rfl (by show 2 * 0 + _ ≤ _; exact Nat.le_of_eq rfl) (hb hby own_d3_45) (fun _ _ => ⟨rfl, rfl, (by decide : 1 + 0 ≤ _), (by decide : 2 + 0 ≤ _)⟩)
  dsimp only [Pt.U, Pt.locs, Pt.cells, Pt.slots] at X9 lq9 yq9 zq9 st9 hQ9
  subst lq9 yq9 zq9
  obtain ⟨rfl, Nq9, eh9⟩ := hQ9
  have N9 := Fr.app N3h Nq9
  refine own_st (G' := T9.setTop (mkF m 48 #[.val (.ref o1), .val (.ref o2), .val (.int (0 : Int32)), .val (.int (2 : Int32)), .val .null, .val (.ref bb_3)] [(.int (0 : Int32)), (.ref o1)])) st9 ?_
  obtain ⟨_, X9h, N9h⟩ := own_hide X9 N9
  have f10 := (pF3.keep Kp3 nin0)
  have f11 := (pE1.keep Kp3)
  obtain ⟨T12, h12, X12, e12, W12, st12⟩ := putFN X9h hx hZ hown (hw _ (List.mem_of_getElem? (i := 30) rfl)) Via.refl eh9 f10 f11 (Or.inr ⟨(hw _ (List.mem_of_getElem? (i := 31) rfl)), rfl, hnm⟩) (hw _ (List.mem_of_getElem? (i := 6) rfl)) (ty := .byte) (v' := (.int (0 : Int32))) (by decide) rfl rfl (g := (mkF m 48 #[.val (.ref o1), .val (.ref o2), .val (.int (0 : Int32)), .val (.int (2 : Int32)), .val .null, .val (.ref bb_3)] [(.int (0 : Int32)), (.ref o1)])) rfl rfl (hb hby own_d3_48)
  have Fw12 := f10.same W12
  have N12 := Fr.snoc X12 N9h pG4
  have O13 := O6.wr W12 pG4
  have KC14 := KC7.wr W12 (Or.inl (List.mem_of_getElem? (i := 0) rfl))
  have Z15 := Nat.le_trans Z8 (Nat.le_of_eq W12.size.symm)
  refine own_st (G' := T12.setTop (mkF m 51 #[.val (.ref o1), .val (.ref o2), .val (.int (0 : Int32)), .val (.int (2 : Int32)), .val .null, .val (.ref bb_3)] [])) st12 ?_
  obtain ⟨_, X12h, N12h⟩ := own_hide X12 N12
  refine own_aloadN X12h hx 52 (hb hby own_d3_51) rfl rfl ?_
  refine own_aload X12h hx 54 (hb hby own_d3_52) rfl rfl ?_
  have f16 := ((pF2.keep Kp3 nin0).other W12 (Or.inr (slot_ne (Or.inr (hw _ (List.mem_of_getElem? (i := 33) rfl))) (Or.inr (hw _ (List.mem_of_getElem? (i := 31) rfl))) (by decide) (t := (.array .byte)) (t' := .byte) (by decide) (by decide))))
  have f17 := (f11.wr W12)
  obtain ⟨T18, h18, X18, e18, W18, st18⟩ := putF X12h hx hZ hown (host := "") (Or.inl (hw _ (List.mem_of_getElem? (i := 32) rfl))) Via.refl e12 f16 f17 (Or.inr ⟨(hw _ (List.mem_of_getElem? (i := 33) rfl)), rfl, hnm⟩) (hw _ (List.mem_of_getElem? (i := 6) rfl)) (v := (.ref bb_3)) (ty := (.array .byte)) (by decide) rfl rfl (g := (mkF m 54 #[.val (.ref o1), .val (.ref o2), .val (.int (0 : Int32)), .val (.int (2 : Int32)), .val .null, .val (.ref bb_3)] [(.ref bb_3), (.ref o1)])) rfl rfl (hb hby own_d3_54)
  have Fw18 := f16.same W18
  have N18 := Fr.snoc X18 N12h pG4
  have O19 := O13.wr W18 pG4
  have KC20 := KC14.wr W18 (Or.inl (List.mem_of_getElem? (i := 0) rfl))
  have Z21 := Nat.le_trans Z15 (Nat.le_of_eq W18.size.symm)
  refine own_st (G' := T18.setTop (mkF m 57 #[.val (.ref o1), .val (.ref o2), .val (.int (0 : Int32)), .val (.int (2 : Int32)), .val .null, .val (.ref bb_3)] [])) st18 ?_
  obtain ⟨_, X18h, N18h⟩ := own_hide X18 N18
  have f22 := (f17.wr W18)
  have f23 := (Fw12.other W18 (Or.inr (slot_ne (Or.inr (hw _ (List.mem_of_getElem? (i := 31) rfl))) (Or.inr (hw _ (List.mem_of_getElem? (i := 33) rfl))) (by decide) (t := .byte) (t' := (.array .byte)) (by decide) (by decide))))
  have f24 := ((G3_1.other W12 (Ne.symm ne4)).other W18 (Ne.symm ne4))
  exact own_retV (Q := own_Q3n2 Z cs S_cs hcs sf S_sf hsf o1 o2 kc c0 c1 h0 n0) X18h hx hrt (hb hby own_d3_57) hlk e18 ⟨bb_3, kb_3, rfl, N18h, KC20, f22, sz_bb_3, Fw18, f23, f24⟩ (by decide) (by decide)
theorem own_ef2n2 (m : MethodId) (o1 : Addr) (o2 : Addr) : entryFrame m #[(.ref o1), (.ref o2)] 2 = mkF m 0 #[.val (.ref o1), .val (.ref o2)] [] := by first | (simp [entryFrame, mkF, argsToLocals, Value.category]; done) | rfl
def own_Q2n2 (Z : State) (cs : Int32) (S_cs : Sta Z Z.heap "java/lang/String" "COMPACT_STRINGS" "Z" (.int cs)) (hcs : ¬ cs = (0 : Int32)) (sf : Value) (S_sf : Sta Z Z.heap "jdk/internal/util/Preconditions" "SIOOBE_FORMATTER" "Ljava/util/function/BiFunction;" sf) (hsf : sf.isRef = true) (o1 : Addr) (o2 : Addr) (kc : ClassId) (c0 : Int32) (c1 : Int32) (h0 : Heap) (n0 : Nat) (v : Option Value) (h : Heap) (L : List Loc) : Prop := ∃ bb : Addr, ∃ kb : ClassId, v = none ∧ Fr n0 L ∧ Keep h0 h [o1] ∧ Exa Z h o1 "java/lang/String" ∧ h0.size ≤ bb ∧ Fld Z h o1 "java/lang/String" "value" "[B" (.ref bb) ∧ Fld Z h o1 "java/lang/String" "coder" "B" (.int (0 : Int32)) ∧ Arv Z h bb kb .byte (2 : Int32) [(.int (nar .byte c0.toInt8.toInt32)), (.int (nar .byte c1.toInt8.toInt32))] (.int (0 : Int32))
set_option maxRecDepth 65536 in
set_option maxHeartbeats 40000000 in
theorem own_rm2n2 (l : Launch) (Z : State) (a0 : Array Value) (hw : ∀ d ∈ tables_1, d.before a0 Z = true) (ws : List Jvm.Cond) (cs : Int32) (S_cs : Sta Z Z.heap "java/lang/String" "COMPACT_STRINGS" "Z" (.int cs)) (hcs : ¬ cs = (0 : Int32)) (sf : Value) (S_sf : Sta Z Z.heap "jdk/internal/util/Preconditions" "SIOOBE_FORMATTER" "Ljava/util/function/BiFunction;" sf) (hsf : sf.isRef = true) (o1 : Addr) (o2 : Addr) (kc : ClassId) (c0 : Int32) (c1 : Int32) (h0 : Heap) (n0 : Nat) (Z0 : n0 ≤ h0.size) (pE1 : Exa Z h0 o1 "java/lang/String") (pF2 : Fld Z h0 o1 "java/lang/String" "value" "[B" .null) (pF3 : Fld Z h0 o1 "java/lang/String" "coder" "B" (.int (0 : Int32))) (pG4 : n0 ≤ o1) (O0 : Old Z n0 h0) (pV6 : Arv Z h0 o2 kc .char (2 : Int32) [(.int c0), (.int c1)] (.int (0 : Int32))) (hc0 : ¬ (255 : Int32) < c0) (hc1 : ¬ (255 : Int32) < c1) :
    MetFree l (⟨"java/lang/String", "<init>", "([C)V"⟩ : MethodName) (head1 (Jvm.Cond.code (⟨"java/lang/String", "<init>", "([C)V"⟩ : MethodName) jdk_42_method_3_code 2 none :: ws) ({ frames := 3, cells := 1, slots := 2, locals := 52 } : Room)) (fun a U => a = #[(.ref o1), (.ref o2)] ∧ Z.Warmed39 U.vm ∧ U.heap = h0) (fun _ _ _ _ _ => True) (fun _ U o U' => ∃ v L, o = .returned v ∧ own_Q2n2 Z cs S_cs hcs sf S_sf hsf o1 o2 kc c0 c1 h0 n0 v U'.heap L ∧ FrameEnd U o U' L ({ frames := 3, cells := 1, slots := 2, locals := 52 } : Room).cells ({ frames := 3, cells := 1, slots := 2, locals := 52 } : Room).slots) := by
  refine MetFree.of_bodySF (plainFor_of_name own_pn1) hisR ?_
  intro p e s m args below meth c s₁ Bd hml0 hP hK
  obtain ⟨rfl, hZ, hh⟩ := hP
  have hx := Bd.exec
  have hby := Bd.bytes
  have hlk := Bd.notSynchronized
  have hrt := Bd.returns
  have hml : c.maxLocals = 2 := hml0
  have hown : s.vm.findClass "java/lang/String" = some m.cls := findClass_of_methodNamed Bd.named
  have hnm := (name_of_methodNamed Bd.named Bd.method).1
  have X0 : Stand p l e ({ frames := 3, cells := 1, slots := 2, locals := 52 } : Room) s m #[(.ref o1), (.ref o2)] below meth c s₁ [] 0 0 := Stand.of_body Bd
  have e0 : s₁.heap = h0 := by rw [← hh, Bd.state]; rfl
  have N0 := Fr.nil n0
  have KC0 := Keep.refl h0 [o1]
  refine own_in (own_ef2n2 m o1 o2) ?_
  refine own_aloadN X0 hx 1 (hb hby own_d2_0) rfl rfl ?_
  refine own_aloadN X0 hx 2 (hb hby own_d2_1) rfl rfl ?_
  refine own_iconst X0 hx 3 (0 : Int32) (hb hby own_d2_2) rfl ?_
  refine own_aloadN X0 hx 4 (hb hby own_d2_3) rfl rfl ?_
  obtain ⟨cl1, Ar1, qv1, S1, M1, H1, G1⟩ := id pV6
  have ln1 := len_of S1 M1
  refine own_st (G' := s₁.setTop (mkF m 5 #[.val (.ref o1), .val (.ref o2)] [(.int (2 : Int32)), (.int (0 : Int32)), (.ref o2), (.ref o1)])) (fun t k => X0.arraylength hx (by rw [e0]; exact Ar1.1) (State.isArrayOf_alike hZ.alike Ar1.2.1) (g := (mkF m 4 #[.val (.ref o1), .val (.ref o2)] [(.ref o2), (.int (0 : Int32)), (.ref o2), (.ref o1)])) rfl rfl (hb hby own_d2_4) _ (by rw [ln1]; exact k)) ?_
  refine own_aconstNull X0 hx 6 (hb hby own_d2_5) ?_
  obtain ⟨_, _, ⟨T2, Lx2, kc2, nc2⟩, -, X2, ⟨Lc2, hQ2, lq2, yq2, zq2⟩, st2⟩ := X0.specialBack hx (y := (⟨"java/lang/String", "<init>", "([CIILjava/lang/Void;)V"⟩ : MethodName)) rfl hown (mvT hZ (hw _ (List.mem_of_getElem? (i := 11) rfl))) (mvT hZ (hw _ (List.mem_of_getElem? (i := 12) rfl))) (mvT hZ (hw _ (List.mem_of_getElem? (i := 14) rfl))) (by decide) (backOf (W := 0) (own_rm3n2 l Z a0 hw [] cs S_cs hcs sf S_sf hsf o1 o2 kc c0 c1 h0 n0 Z0 pE1 pF2 pF3 pG4 O0 pV6 (by assumption : ¬ (255 : Int32) < c0) (by assumption : ¬ (255 : Int32) < c1)) hZ (hw _ (List.mem_of_getElem? (i := 14) rfl)) (hw _ (List.mem_of_getElem? (i := 7) rfl)) (by decide) (by decide)) (g := (mkF m 6 #[.val (.ref o1), .val (.ref o2)] [.null, (.int (2 : Int32)), (.int (0 : Int32)), (.ref o2), (.ref o1)])) rfl (by rw [hml]; rfl) (Steps.refl _) (a := o1) (argsL := [(.ref o2), (.int (0 : Int32)), (.int (2 : Int32)), .null]) (rest := []) (lenOf own_pd3 rfl) rfl (by show 2 * 0 + _ ≤ _; exact Nat.le_of_eq rfl) (hb hby own_d2_6) (fun _ _ => ⟨rfl, e0, (by decide : 0 + 1 ≤ _), (by decide : 0 + 2 ≤ _)⟩)
  dsimp only [Pt.U, Pt.locs, Pt.cells, Pt.slots] at X2 lq2 yq2 zq2 st2 hQ2
  subst lq2 yq2 zq2
  obtain ⟨bb_2, kb_2, rfl, Nq2, Kp2, G2_0, G2_1, G2_2, G2_3, G2_4⟩ := hQ2
  have N2 := Fr.app N0 Nq2
  have ne3 : o1 ≠ bb_2 := Nat.ne_of_lt (Nat.lt_of_lt_of_le pE1.lt G2_1)
  have ne4 : o2 ≠ bb_2 := Nat.ne_of_lt (Nat.lt_of_lt_of_le pV6.lt G2_1)
  have gt_bb_2 : n0 ≤ bb_2 := Nat.le_trans Z0 G2_1
  have sz_bb_2 : h0.size ≤ bb_2 := Nat.le_trans KC0.1 G2_1
  have O5 := O0.keep Kp2 (allS pG4 all0)
  have KC6 := KC0.trans Kp2 (allS (Or.inl (List.mem_of_getElem? (i := 0) rfl)) all0)
  have Z7 := Nat.le_trans Z0 Kp2.1
  refine own_st (G' := T2.setTop (mkF m 9 #[.val (.ref o1), .val (.ref o2)] [])) (fun t k => st2.trans k) ?_
  obtain ⟨_, X2h, N2h⟩ := own_hide X2 N2
  exact own_retV (Q := own_Q2n2 Z cs S_cs hcs sf S_sf hsf o1 o2 kc c0 c1 h0 n0) X2h hx hrt (hb hby own_d2_9) hlk rfl ⟨bb_2, kb_2, rfl, N2h, KC6, G2_0, sz_bb_2, G2_2, G2_3, G2_4⟩ (by decide) (by decide)
theorem own_d1_0 : decode method_2_code 0 = .ok (.iload_n 0, 1) := by decide +kernel
theorem own_d1_1 : decode method_2_code 1 = .ok (.sipush 255, 3) := by decide +kernel
theorem own_d1_4 : decode method_2_code 4 = .ok (.iand, 1) := by decide +kernel
theorem own_d1_5 : decode method_2_code 5 = .ok (.i2c, 1) := by decide +kernel
theorem own_d1_6 : decode method_2_code 6 = .ok (.istore_n 1, 1) := by decide +kernel
theorem own_d1_7 : decode method_2_code 7 = .ok (.iload_n 0, 1) := by decide +kernel
theorem own_d1_8 : decode method_2_code 8 = .ok (.bipush 8, 2) := by decide +kernel
theorem own_d1_10 : decode method_2_code 10 = .ok (.iushr, 1) := by decide +kernel
theorem own_d1_11 : decode method_2_code 11 = .ok (.sipush 255, 3) := by decide +kernel
theorem own_d1_14 : decode method_2_code 14 = .ok (.iand, 1) := by decide +kernel
theorem own_d1_15 : decode method_2_code 15 = .ok (.i2c, 1) := by decide +kernel
theorem own_d1_16 : decode method_2_code 16 = .ok (.istore_n 2, 1) := by decide +kernel
theorem own_d1_17 : decode method_2_code 17 = .ok (.iload_n 0, 1) := by decide +kernel
theorem own_d1_18 : decode method_2_code 18 = .ok (.bipush 16, 2) := by decide +kernel
theorem own_d1_20 : decode method_2_code 20 = .ok (.iushr, 1) := by decide +kernel
theorem own_d1_21 : decode method_2_code 21 = .ok (.iconst 1, 1) := by decide +kernel
theorem own_d1_22 : decode method_2_code 22 = .ok (.iand, 1) := by decide +kernel
theorem own_d1_23 : decode method_2_code 23 = .ok (.ifCond .ne 20, 3) := by decide +kernel
theorem own_d1_26 : decode method_2_code 26 = .ok (.iconst 1, 1) := by decide +kernel
theorem own_d1_27 : decode method_2_code 27 = .ok (.newarray .char, 2) := by decide +kernel
theorem own_d1_29 : decode method_2_code 29 = .ok (.astore_n 3, 1) := by decide +kernel
theorem own_d1_30 : decode method_2_code 30 = .ok (.aload_n 3, 1) := by decide +kernel
theorem own_d1_31 : decode method_2_code 31 = .ok (.iconst 0, 1) := by decide +kernel
theorem own_d1_32 : decode method_2_code 32 = .ok (.iload_n 1, 1) := by decide +kernel
theorem own_d1_33 : decode method_2_code 33 = .ok (.castore, 1) := by decide +kernel
theorem own_d1_34 : decode method_2_code 34 = .ok (.new 7, 3) := by decide +kernel
theorem own_d1_37 : decode method_2_code 37 = .ok (.dup, 1) := by decide +kernel
theorem own_d1_38 : decode method_2_code 38 = .ok (.aload_n 3, 1) := by decide +kernel
theorem own_d1_39 : decode method_2_code 39 = .ok (.invokespecial 9, 3) := by decide +kernel
theorem own_d1_42 : decode method_2_code 42 = .ok (.areturn, 1) := by decide +kernel
theorem own_d1_43 : decode method_2_code 43 = .ok (.iconst 2, 1) := by decide +kernel
theorem own_d1_44 : decode method_2_code 44 = .ok (.newarray .char, 2) := by decide +kernel
theorem own_d1_46 : decode method_2_code 46 = .ok (.astore_n 3, 1) := by decide +kernel
theorem own_d1_47 : decode method_2_code 47 = .ok (.aload_n 3, 1) := by decide +kernel
theorem own_d1_48 : decode method_2_code 48 = .ok (.iconst 0, 1) := by decide +kernel
theorem own_d1_49 : decode method_2_code 49 = .ok (.iload_n 1, 1) := by decide +kernel
theorem own_d1_50 : decode method_2_code 50 = .ok (.castore, 1) := by decide +kernel
theorem own_d1_51 : decode method_2_code 51 = .ok (.aload_n 3, 1) := by decide +kernel
theorem own_d1_52 : decode method_2_code 52 = .ok (.iconst 1, 1) := by decide +kernel
theorem own_d1_53 : decode method_2_code 53 = .ok (.iload_n 2, 1) := by decide +kernel
theorem own_d1_54 : decode method_2_code 54 = .ok (.castore, 1) := by decide +kernel
theorem own_d1_55 : decode method_2_code 55 = .ok (.new 7, 3) := by decide +kernel
theorem own_d1_58 : decode method_2_code 58 = .ok (.dup, 1) := by decide +kernel
theorem own_d1_59 : decode method_2_code 59 = .ok (.aload_n 3, 1) := by decide +kernel
theorem own_d1_60 : decode method_2_code 60 = .ok (.invokespecial 9, 3) := by decide +kernel
theorem own_d1_63 : decode method_2_code 63 = .ok (.areturn, 1) := by decide +kernel
theorem own_pn2 : plainName "com/example/fates/fates/KeyEqualsPinLaw" = true := by first | (simp [plainName, overriddenIn]; done) | decide +kernel
theorem own_pd4 : parseMethodDescriptor "([C)V" = some ⟨[(.array .char)], none⟩ := by decide +kernel
theorem own_ef1 (m : MethodId) (v0 : Int32) : entryFrame m #[(.int v0)] 4 = mkF m 0 #[.val (.int v0), .unset, .unset, .unset] [] := by first | (simp [entryFrame, mkF, argsToLocals, Value.category]; done) | rfl
def own_Q1 (Z : State) (cs : Int32) (S_cs : Sta Z Z.heap "java/lang/String" "COMPACT_STRINGS" "Z" (.int cs)) (hcs : ¬ cs = (0 : Int32)) (sf : Value) (S_sf : Sta Z Z.heap "jdk/internal/util/Preconditions" "SIOOBE_FORMATTER" "Ljava/util/function/BiFunction;" sf) (hsf : sf.isRef = true) (v0 : Int32) (h0 : Heap) (n0 : Nat) (v : Option Value) (h : Heap) (L : List Loc) : Prop := ∃ so : Addr, ∃ b : Addr, ∃ kb : ClassId, ∃ n : Int32, ∃ x : Int32, ∃ y : Int32, v = some (.ref so) ∧ Fr n0 L ∧ Keep h0 h [] ∧ h0.size ≤ so ∧ h0.size ≤ b ∧ Exa Z h so "java/lang/String" ∧ Fld Z h so "java/lang/String" "value" "[B" (.ref b) ∧ Fld Z h so "java/lang/String" "coder" "B" (.int (0 : Int32)) ∧ Arv Z h b kb .byte n (own_sl n x y) (.int (0 : Int32)) ∧ (own_N n) ∧ (own_B x ∧ own_B y)
set_option maxRecDepth 65536 in
set_option maxHeartbeats 40000000 in
theorem own_rm1 (l : Launch) (Z : State) (a0 : Array Value) (hw : ∀ d ∈ tables_1, d.before a0 Z = true) (ws : List Jvm.Cond) (cs : Int32) (S_cs : Sta Z Z.heap "java/lang/String" "COMPACT_STRINGS" "Z" (.int cs)) (hcs : ¬ cs = (0 : Int32)) (sf : Value) (S_sf : Sta Z Z.heap "jdk/internal/util/Preconditions" "SIOOBE_FORMATTER" "Ljava/util/function/BiFunction;" sf) (hsf : sf.isRef = true) (v0 : Int32) (h0 : Heap) (n0 : Nat) (Z0 : n0 ≤ h0.size) (O0 : Old Z n0 h0) :
    MetFree l (⟨"com/example/fates/fates/KeyEqualsPinLaw", "str", "(I)Ljava/lang/String;"⟩ : MethodName) (head1 (Jvm.Cond.code (⟨"com/example/fates/fates/KeyEqualsPinLaw", "str", "(I)Ljava/lang/String;"⟩ : MethodName) method_2_code 4 (some (.object "java/lang/String")) :: ws) ({ frames := 4, cells := 3, slots := 8, locals := 66 } : Room)) (fun a U => a = #[(.int v0)] ∧ Z.Warmed39 U.vm ∧ U.heap = h0) (fun _ _ _ _ _ => True) (fun _ U o U' => ∃ v L, o = .returned v ∧ own_Q1 Z cs S_cs hcs sf S_sf hsf v0 h0 n0 v U'.heap L ∧ FrameEnd U o U' L ({ frames := 4, cells := 3, slots := 8, locals := 66 } : Room).cells ({ frames := 4, cells := 3, slots := 8, locals := 66 } : Room).slots) := by
  refine MetFree.of_bodySF (plainFor_of_name own_pn2) hisR ?_
  intro p e s m args below meth c s₁ Bd hml0 hP hK
  obtain ⟨rfl, hZ, hh⟩ := hP
  have hx := Bd.exec
  have hby := Bd.bytes
  have hlk := Bd.notSynchronized
  have hrt := Bd.returns
  have hml : c.maxLocals = 4 := hml0
  have hown : s.vm.findClass "com/example/fates/fates/KeyEqualsPinLaw" = some m.cls := findClass_of_methodNamed Bd.named
  have hnm := (name_of_methodNamed Bd.named Bd.method).1
  have X0 : Stand p l e ({ frames := 4, cells := 3, slots := 8, locals := 66 } : Room) s m #[(.int v0)] below meth c s₁ [] 0 0 := Stand.of_body Bd
  have e0 : s₁.heap = h0 := by rw [← hh, Bd.state]; rfl
  have N0 := Fr.nil n0
  have KC0 := Keep.refl h0 []
  refine own_in (own_ef1 m v0) ?_
  refine own_iloadN X0 hx 1 (hb hby own_d1_0) rfl ?_
  refine own_sipush X0 hx 4 (255 : Int32) (hb hby own_d1_1) rfl ?_
  refine own_iand X0 hx 5 (hb hby own_d1_4) ?_
  refine own_i2c X0 hx 6 (hb hby own_d1_5) ?_
  have hc0 := own_c255 v0
  generalize ((v0 &&& (255 : Int32)).toUInt32.toUInt16.toUInt32.toInt32) = c0 at hc0 ⊢
  refine own_istoreN X0 hx 7 #[.val (.int v0), .val (.int c0), .unset, .unset] (hb hby own_d1_6) rfl ?_
  refine own_iloadN X0 hx 8 (hb hby own_d1_7) rfl ?_
  refine own_bipush X0 hx 10 (8 : Int32) (hb hby own_d1_8) rfl ?_
  refine own_iushr X0 hx 11 (hb hby own_d1_10) ?_
  refine own_sipush X0 hx 14 (255 : Int32) (hb hby own_d1_11) rfl ?_
  refine own_iand X0 hx 15 (hb hby own_d1_14) ?_
  refine own_i2c X0 hx 16 (hb hby own_d1_15) ?_
  have hc1 := own_c255 ((v0.toUInt32 >>> ((8 : Int32) &&& 31).toUInt32).toInt32)
  generalize ((((v0.toUInt32 >>> ((8 : Int32) &&& 31).toUInt32).toInt32) &&& (255 : Int32)).toUInt32.toUInt16.toUInt32.toInt32) = c1 at hc1 ⊢
  refine own_istoreN X0 hx 17 #[.val (.int v0), .val (.int c0), .val (.int c1), .unset] (hb hby own_d1_16) rfl ?_
  refine own_iloadN X0 hx 18 (hb hby own_d1_17) rfl ?_
  refine own_bipush X0 hx 20 (16 : Int32) (hb hby own_d1_18) rfl ?_
  refine own_iushr X0 hx 21 (hb hby own_d1_20) ?_
  refine own_iconst X0 hx 22 (1 : Int32) (hb hby own_d1_21) rfl ?_
  refine own_iand X0 hx 23 (hb hby own_d1_22) ?_
  by_cases hc23_1 : (((v0.toUInt32 >>> ((16 : Int32) &&& 31).toUInt32).toInt32) &&& (1 : Int32)) = (0 : Int32)
  · refine own_ifNo X0 hx 26 (hb hby own_d1_23) (teq hc23_1).2 ?_
    refine own_iconst X0 hx 27 (1 : Int32) (hb hby own_d1_26) rfl ?_
    obtain ⟨T2, h2, k2, X2, e2, E2, A2, st2⟩ := newP X0 hx hZ (hw _ (List.mem_of_getElem? (i := 4) rfl)) e0 (g := (mkF m 27 #[.val (.int v0), .val (.int c0), .val (.int c1), .unset] [(.int (1 : Int32))])) rfl (hb hby own_d1_27) rfl (by decide) (cap := 1) (by decide) (by decide) (by decide) (by decide)
    obtain ⟨b2, g2⟩ : ∃ z, z = h0.size := ⟨_, rfl⟩
    rw [← g2] at A2 st2
    have gt_b2 : n0 ≤ b2 := Nat.le_trans Z0 (Nat.le_of_eq g2.symm)
    have sz_b2 : h0.size ≤ b2 := Nat.le_trans KC0.1 (Nat.le_of_eq g2.symm)
    have V2 : Arv Z h2 b2 k2 .char (1 : Int32) [(.int (0 : Int32))] (.int (0 : Int32)) := (Arv.new A2 (by decide)).pad (pad_rep [] (.int (0 : Int32)) 1)
    have O3 := O0.ext E2
    have KC4 := KC0.ext E2
    have Z5 := Nat.le_trans Z0 E2.1
    refine own_st (G' := T2.setTop (mkF m 29 #[.val (.int v0), .val (.int c0), .val (.int c1), .unset] [(.ref b2)])) st2 ?_
    obtain ⟨_, X2h, N2h⟩ := own_hide X2 N0
    refine own_astoreN X2h hx 30 #[.val (.int v0), .val (.int c0), .val (.int c1), .val (.ref b2)] (hb hby own_d1_29) rfl rfl ?_
    refine own_aloadN X2h hx 31 (hb hby own_d1_30) rfl rfl ?_
    refine own_iconst X2h hx 32 (0 : Int32) (hb hby own_d1_31) rfl ?_
    refine own_iloadN X2h hx 33 (hb hby own_d1_32) rfl ?_
    obtain ⟨cl6, Ar6, qv6, S6, M6, H6, G6⟩ := id V2
    have hin6 : ¬ ((0 : Int32) < 0 ∨ cl6.slots.size ≤ ((0 : Int32)).toNatClampNeg) := inb_of S6 ⟨by decide, by decide⟩
    obtain ⟨T6, h6, X6, e6, W6, st6⟩ := stC X2h hx hZ e2 Ar6 (j := (0 : Int32)) hin6 (g := (mkF m 33 #[.val (.int v0), .val (.int c0), .val (.int c1), .val (.ref b2)] [(.int c0), (.int (0 : Int32)), (.ref b2)])) rfl rfl (hb hby own_d1_33)
    have V6 : Arv Z h6 b2 k2 .char (1 : Int32) [(.int (nar .char c0))] (.int (0 : Int32)) := Arv.set Ar6 qv6 S6 M6 H6 G6 (fits_nar_char _) W6 0 rfl (Nat.le_of_ble_eq_true rfl)
    have N6 := Fr.snoc X6 N2h gt_b2
    have O7 := O3.wr W6 gt_b2
    have KC8 := KC4.wr W6 (Or.inr sz_b2)
    have Z9 := Nat.le_trans Z5 (Nat.le_of_eq W6.size.symm)
    refine own_st (G' := T6.setTop (mkF m 34 #[.val (.int v0), .val (.int c0), .val (.int c1), .val (.ref b2)] [])) st6 ?_
    obtain ⟨_, X6h, N6h⟩ := own_hide X6 N6
    obtain ⟨T10, h10, X10, e10, E10, A10, D10, -, st10⟩ := newO X6h hx hZ hown (hw _ (List.mem_of_getElem? (i := 5) rfl)) (hw _ (List.mem_of_getElem? (i := 6) rfl)) (hw _ (List.mem_of_getElem? (i := 7) rfl)) e6 (g := (mkF m 34 #[.val (.int v0), .val (.int c0), .val (.int c1), .val (.ref b2)] [])) rfl (hb hby own_d1_34) (by decide) (by decide)
    obtain ⟨b10, g10⟩ : ∃ z, z = h6.size := ⟨_, rfl⟩
    rw [← g10] at A10 D10 st10
    have ne11 : b2 ≠ b10 := Nat.ne_of_lt (Nat.lt_of_lt_of_le V6.lt (Nat.le_of_eq g10.symm))
    have gt_b10 : n0 ≤ b10 := Nat.le_trans Z9 (Nat.le_of_eq g10.symm)
    have sz_b10 : h0.size ≤ b10 := Nat.le_trans KC8.1 (Nat.le_of_eq g10.symm)
    have O12 := O7.ext E10
    have KC13 := KC8.ext E10
    have Z14 := Nat.le_trans Z9 E10.1
    have F10_coder : Fld Z h10 b10 "java/lang/String" "coder" "B" (.int (0 : Int32)) := D10 (Or.inr (hw _ (List.mem_of_getElem? (i := 31) rfl))) (ty := .byte) (by decide)
    have F10_value : Fld Z h10 b10 "java/lang/String" "value" "[B" .null := D10 (Or.inr (hw _ (List.mem_of_getElem? (i := 33) rfl))) (ty := (.array .byte)) (by decide)
    refine own_st (G' := T10.setTop (mkF m 37 #[.val (.int v0), .val (.int c0), .val (.int c1), .val (.ref b2)] [(.ref b10)])) st10 ?_
    obtain ⟨_, X10h, N10h⟩ := own_hide X10 N6h
    refine own_dup X10h hx 38 (hb hby own_d1_37) rfl ?_
    refine own_aloadN X10h hx 39 (hb hby own_d1_38) rfl rfl ?_
    have f15 := (V6.ext E10)
    obtain ⟨_, _, ⟨T16, Lx16, kc16, nc16⟩, -, X16, ⟨Lc16, hQ16, lq16, yq16, zq16⟩, st16⟩ := X10h.specialBack hx (y := (⟨"java/lang/String", "<init>", "([C)V"⟩ : MethodName)) rfl hown (mvT hZ (hw _ (List.mem_of_getElem? (i := 8) rfl))) (mvT hZ (hw _ (List.mem_of_getElem? (i := 9) rfl))) (mvT hZ (hw _ (List.mem_of_getElem? (i := 10) rfl))) (by decide) (backOf (W := 1) (own_rm2n1 l Z a0 hw [] cs S_cs hcs sf S_sf hsf b10 b2 k2 (nar .char c0) h10 n0 Z14 A10 F10_value F10_coder gt_b10 O12 f15 (hc0 : ¬ (255 : Int32) < (nar .char c0))) hZ (hw _ (List.mem_of_getElem? (i := 10) rfl)) (hw _ (List.mem_of_getElem? (i := 7) rfl)) (by decide) (by decide)) (g := (mkF m 39 #[.val (.int v0), .val (.int c0), .val (.int c1), .val (.ref b2)] [(.ref b2), (.ref b10), (.ref b10)])) rfl (by rw [hml]; rfl) (Steps.refl _) (a := b10) (argsL := [(.ref b2)]) (rest := [(.ref b10)]) (lenOf own_pd4 rfl) rfl (by show 2 * 0 + _ ≤ _; exact Nat.le_of_eq rfl) (hb hby own_d1_39) (fun _ _ => ⟨rfl, e10, (by decide : 2 + 1 ≤ _), (by decide : 5 + 1 ≤ _)⟩)
    dsimp only [Pt.U, Pt.locs, Pt.cells, Pt.slots] at X16 lq16 yq16 zq16 st16 hQ16
    subst lq16 yq16 zq16
    obtain ⟨bb_16, kb_16, rfl, Nq16, Kp16, G16_0, G16_1, G16_2, G16_3, G16_4⟩ := hQ16
    have N16 := Fr.app N10h Nq16
    have ne17 : b2 ≠ bb_16 := Nat.ne_of_lt (Nat.lt_of_lt_of_le f15.lt G16_1)
    have ne18 : b10 ≠ bb_16 := Nat.ne_of_lt (Nat.lt_of_lt_of_le A10.lt G16_1)
    have gt_bb_16 : n0 ≤ bb_16 := Nat.le_trans Z14 G16_1
    have sz_bb_16 : h0.size ≤ bb_16 := Nat.le_trans KC13.1 G16_1
    have O19 := O12.keep Kp16 (allS gt_b10 all0)
    have KC20 := KC13.trans Kp16 (allS (Or.inr sz_b10) all0)
    have Z21 := Nat.le_trans Z14 Kp16.1
    refine own_st (G' := T16.setTop (mkF m 42 #[.val (.int v0), .val (.int c0), .val (.int c1), .val (.ref b2)] [(.ref b10)])) (fun t k => st16.trans k) ?_
    obtain ⟨_, X16h, N16h⟩ := own_hide X16 N16
    exact own_retA (z := (.ref b10)) (Q := own_Q1 Z cs S_cs hcs sf S_sf hsf v0 h0 n0) X16h hx hrt rfl rfl (hb hby own_d1_42) hlk rfl ⟨b10, bb_16, kb_16, (1 : Int32), (nar .byte (nar .char c0).toInt8.toInt32), (0 : Int32), rfl, N16h, KC20, sz_b10, sz_bb_16, G16_0, G16_2, G16_3, (by rw [own_sl1]; exact G16_4), (Or.inl rfl), ⟨own_bn _, by unfold own_B; decide⟩⟩ (by decide) (by decide)
  · refine own_ifYes X0 hx 43 (hb hby own_d1_23) (feq hc23_1).2 ?_
    refine own_iconst X0 hx 44 (2 : Int32) (hb hby own_d1_43) rfl ?_
    obtain ⟨T22, h22, k22, X22, e22, E22, A22, st22⟩ := newP X0 hx hZ (hw _ (List.mem_of_getElem? (i := 4) rfl)) e0 (g := (mkF m 44 #[.val (.int v0), .val (.int c0), .val (.int c1), .unset] [(.int (2 : Int32))])) rfl (hb hby own_d1_44) rfl (by decide) (cap := 2) (by decide) (by decide) (by decide) (by decide)
    obtain ⟨b22, g22⟩ : ∃ z, z = h0.size := ⟨_, rfl⟩
    rw [← g22] at A22 st22
    have gt_b22 : n0 ≤ b22 := Nat.le_trans Z0 (Nat.le_of_eq g22.symm)
    have sz_b22 : h0.size ≤ b22 := Nat.le_trans KC0.1 (Nat.le_of_eq g22.symm)
    have V22 : Arv Z h22 b22 k22 .char (2 : Int32) [(.int (0 : Int32)), (.int (0 : Int32))] (.int (0 : Int32)) := (Arv.new A22 (by decide)).pad (pad_rep [] (.int (0 : Int32)) 2)
    have O23 := O0.ext E22
    have KC24 := KC0.ext E22
    have Z25 := Nat.le_trans Z0 E22.1
    refine own_st (G' := T22.setTop (mkF m 46 #[.val (.int v0), .val (.int c0), .val (.int c1), .unset] [(.ref b22)])) st22 ?_
    obtain ⟨_, X22h, N22h⟩ := own_hide X22 N0
    refine own_astoreN X22h hx 47 #[.val (.int v0), .val (.int c0), .val (.int c1), .val (.ref b22)] (hb hby own_d1_46) rfl rfl ?_
    refine own_aloadN X22h hx 48 (hb hby own_d1_47) rfl rfl ?_
    refine own_iconst X22h hx 49 (0 : Int32) (hb hby own_d1_48) rfl ?_
    refine own_iloadN X22h hx 50 (hb hby own_d1_49) rfl ?_
    obtain ⟨cl26, Ar26, qv26, S26, M26, H26, G26⟩ := id V22
    have hin26 : ¬ ((0 : Int32) < 0 ∨ cl26.slots.size ≤ ((0 : Int32)).toNatClampNeg) := inb_of S26 ⟨by decide, by decide⟩
    obtain ⟨T26, h26, X26, e26, W26, st26⟩ := stC X22h hx hZ e22 Ar26 (j := (0 : Int32)) hin26 (g := (mkF m 50 #[.val (.int v0), .val (.int c0), .val (.int c1), .val (.ref b22)] [(.int c0), (.int (0 : Int32)), (.ref b22)])) rfl rfl (hb hby own_d1_50)
    have V26 : Arv Z h26 b22 k22 .char (2 : Int32) [(.int (nar .char c0)), (.int (0 : Int32))] (.int (0 : Int32)) := Arv.set Ar26 qv26 S26 M26 H26 G26 (fits_nar_char _) W26 0 rfl (Nat.le_of_ble_eq_true rfl)
    have N26 := Fr.snoc X26 N22h gt_b22
    have O27 := O23.wr W26 gt_b22
    have KC28 := KC24.wr W26 (Or.inr sz_b22)
    have Z29 := Nat.le_trans Z25 (Nat.le_of_eq W26.size.symm)
    refine own_st (G' := T26.setTop (mkF m 51 #[.val (.int v0), .val (.int c0), .val (.int c1), .val (.ref b22)] [])) st26 ?_
    obtain ⟨_, X26h, N26h⟩ := own_hide X26 N26
    refine own_aloadN X26h hx 52 (hb hby own_d1_51) rfl rfl ?_
    refine own_iconst X26h hx 53 (1 : Int32) (hb hby own_d1_52) rfl ?_
    refine own_iloadN X26h hx 54 (hb hby own_d1_53) rfl ?_
    obtain ⟨cl30, Ar30, qv30, S30, M30, H30, G30⟩ := id V26
    have hin30 : ¬ ((1 : Int32) < 0 ∨ cl30.slots.size ≤ ((1 : Int32)).toNatClampNeg) := inb_of S30 ⟨by decide, by decide⟩
    obtain ⟨T30, h30, X30, e30, W30, st30⟩ := stC X26h hx hZ e26 Ar30 (j := (1 : Int32)) hin30 (g := (mkF m 54 #[.val (.int v0), .val (.int c0), .val (.int c1), .val (.ref b22)] [(.int c1), (.int (1 : Int32)), (.ref b22)])) rfl rfl (hb hby own_d1_54)
    have V30 : Arv Z h30 b22 k22 .char (2 : Int32) [(.int (nar .char c0)), (.int (nar .char c1))] (.int (0 : Int32)) := Arv.set Ar30 qv30 S30 M30 H30 G30 (fits_nar_char _) W30 1 rfl (Nat.le_of_ble_eq_true rfl)
    have N30 := Fr.snoc X30 N26h gt_b22
    have O31 := O27.wr W30 gt_b22
    have KC32 := KC28.wr W30 (Or.inr sz_b22)
    have Z33 := Nat.le_trans Z29 (Nat.le_of_eq W30.size.symm)
    refine own_st (G' := T30.setTop (mkF m 55 #[.val (.int v0), .val (.int c0), .val (.int c1), .val (.ref b22)] [])) st30 ?_
    obtain ⟨_, X30h, N30h⟩ := own_hide X30 N30
    obtain ⟨T34, h34, X34, e34, E34, A34, D34, -, st34⟩ := newO X30h hx hZ hown (hw _ (List.mem_of_getElem? (i := 5) rfl)) (hw _ (List.mem_of_getElem? (i := 6) rfl)) (hw _ (List.mem_of_getElem? (i := 7) rfl)) e30 (g := (mkF m 55 #[.val (.int v0), .val (.int c0), .val (.int c1), .val (.ref b22)] [])) rfl (hb hby own_d1_55) (by decide) (by decide)
    obtain ⟨b34, g34⟩ : ∃ z, z = h30.size := ⟨_, rfl⟩
    rw [← g34] at A34 D34 st34
    have ne35 : b22 ≠ b34 := Nat.ne_of_lt (Nat.lt_of_lt_of_le V30.lt (Nat.le_of_eq g34.symm))
    have gt_b34 : n0 ≤ b34 := Nat.le_trans Z33 (Nat.le_of_eq g34.symm)
    have sz_b34 : h0.size ≤ b34 := Nat.le_trans KC32.1 (Nat.le_of_eq g34.symm)
    have O36 := O31.ext E34
    have KC37 := KC32.ext E34
    have Z38 := Nat.le_trans Z33 E34.1
    have F34_coder : Fld Z h34 b34 "java/lang/String" "coder" "B" (.int (0 : Int32)) := D34 (Or.inr (hw _ (List.mem_of_getElem? (i := 31) rfl))) (ty := .byte) (by decide)
    have F34_value : Fld Z h34 b34 "java/lang/String" "value" "[B" .null := D34 (Or.inr (hw _ (List.mem_of_getElem? (i := 33) rfl))) (ty := (.array .byte)) (by decide)
    refine own_st (G' := T34.setTop (mkF m 58 #[.val (.int v0), .val (.int c0), .val (.int c1), .val (.ref b22)] [(.ref b34)])) st34 ?_
    obtain ⟨_, X34h, N34h⟩ := own_hide X34 N30h
    refine own_dup X34h hx 59 (hb hby own_d1_58) rfl ?_
    refine own_aloadN X34h hx 60 (hb hby own_d1_59) rfl rfl ?_
    have f39 := (V30.ext E34)
    obtain ⟨_, _, ⟨T40, Lx40, kc40, nc40⟩, -, X40, ⟨Lc40, hQ40, lq40, yq40, zq40⟩, st40⟩ := X34h.specialBack hx (y := (⟨"java/lang/String", "<init>", "([C)V"⟩ : MethodName)) rfl hown (mvT hZ (hw _ (List.mem_of_getElem? (i := 8) rfl))) (mvT hZ (hw _ (List.mem_of_getElem? (i := 9) rfl))) (mvT hZ (hw _ (List.mem_of_getElem? (i := 10) rfl))) (by decide) (backOf (W := 1) (own_rm2n2 l Z a0 hw [] cs S_cs hcs sf S_sf hsf b34 b22 k22 (nar .char c0) (nar .char c1) h34 n0 Z38 A34 F34_value F34_coder gt_b34 O36 f39 (hc0 : ¬ (255 : Int32) < (nar .char c0)) (hc1 : ¬ (255 : Int32) < (nar .char c1))) hZ (hw _ (List.mem_of_getElem? (i := 10) rfl)) (hw _ (List.mem_of_getElem? (i := 7) rfl)) (by decide) (by decide)) (g := (mkF m 60 #[.val (.int v0), .val (.int c0), .val (.int c1), .val (.ref b22)] [(.ref b22), (.ref b34), (.ref b34)])) rfl (by rw [hml]; rfl) (Steps.refl _) (a := b34) (argsL := [(.ref b22)]) (rest := [(.ref b34)]) (lenOf own_pd4 rfl) rfl (by show 2 * 0 + _ ≤ _; exact Nat.le_of_eq rfl) (hb hby own_d1_60) (fun _ _ => ⟨rfl, e34, (by decide : 2 + 1 ≤ _), (by decide : 6 + 2 ≤ _)⟩)
    dsimp only [Pt.U, Pt.locs, Pt.cells, Pt.slots] at X40 lq40 yq40 zq40 st40 hQ40
    subst lq40 yq40 zq40
    obtain ⟨bb_40, kb_40, rfl, Nq40, Kp40, G40_0, G40_1, G40_2, G40_3, G40_4⟩ := hQ40
    have N40 := Fr.app N34h Nq40
    have ne41 : b22 ≠ bb_40 := Nat.ne_of_lt (Nat.lt_of_lt_of_le f39.lt G40_1)
    have ne42 : b34 ≠ bb_40 := Nat.ne_of_lt (Nat.lt_of_lt_of_le A34.lt G40_1)
    have gt_bb_40 : n0 ≤ bb_40 := Nat.le_trans Z38 G40_1
    have sz_bb_40 : h0.size ≤ bb_40 := Nat.le_trans KC37.1 G40_1
    have O43 := O36.keep Kp40 (allS gt_b34 all0)
    have KC44 := KC37.trans Kp40 (allS (Or.inr sz_b34) all0)
    have Z45 := Nat.le_trans Z38 Kp40.1
    refine own_st (G' := T40.setTop (mkF m 63 #[.val (.int v0), .val (.int c0), .val (.int c1), .val (.ref b22)] [(.ref b34)])) (fun t k => st40.trans k) ?_
    obtain ⟨_, X40h, N40h⟩ := own_hide X40 N40
    exact own_retA (z := (.ref b34)) (Q := own_Q1 Z cs S_cs hcs sf S_sf hsf v0 h0 n0) X40h hx hrt rfl rfl (hb hby own_d1_63) hlk rfl ⟨b34, bb_40, kb_40, (2 : Int32), (nar .byte (nar .char c0).toInt8.toInt32), (nar .byte (nar .char c1).toInt8.toInt32), rfl, N40h, KC44, sz_b34, sz_bb_40, G40_0, G40_2, G40_3, (by rw [own_sl2]; exact G40_4), (Or.inr rfl), ⟨own_bn _, own_bn _⟩⟩ (by decide) (by decide)
-- the String's own methods
theorem own_d11_0 : decode jdk_42_method_55_code 0 = .ok (.aload_n 0, 1) := by decide +kernel
theorem own_d11_1 : decode jdk_42_method_55_code 1 = .ok (.getfield 9, 3) := by decide +kernel
theorem own_d11_4 : decode jdk_42_method_55_code 4 = .ok (.arraylength, 1) := by decide +kernel
theorem own_d11_5 : decode jdk_42_method_55_code 5 = .ok (.ifCond .ne 7, 3) := by decide +kernel
theorem own_d11_12 : decode jdk_42_method_55_code 12 = .ok (.iconst 0, 1) := by decide +kernel
theorem own_d11_13 : decode jdk_42_method_55_code 13 = .ok (.ireturn, 1) := by decide +kernel
theorem own_ef11 (m : MethodId) (o1 : Addr) : entryFrame m #[(.ref o1)] 1 = mkF m 0 #[.val (.ref o1)] [] := by first | (simp [entryFrame, mkF, argsToLocals, Value.category]; done) | rfl
def own_Q11 (Z : State) (o1 : Addr) (b : Addr) (kb : ClassId) (n : Int32) (x : Int32) (y : Int32) (h0 : Heap) (n0 : Nat) (v : Option Value) (h : Heap) (L : List Loc) : Prop := v = some (.int (0 : Int32)) ∧ Fr n0 L ∧ h = h0
set_option maxRecDepth 65536 in
set_option maxHeartbeats 40000000 in
theorem own_rm11 (l : Launch) (Z : State) (a0 : Array Value) (hw : ∀ d ∈ tables_1, d.before a0 Z = true) (ws : List Jvm.Cond) (o1 : Addr) (b : Addr) (kb : ClassId) (n : Int32) (x : Int32) (y : Int32) (h0 : Heap) (n0 : Nat) (Z0 : n0 ≤ h0.size) (pF1 : Fld Z h0 o1 "java/lang/String" "value" "[B" (.ref b)) (pV2 : Arv Z h0 b kb .byte n (own_sl n x y) (.int (0 : Int32))) (hn : own_N n) :
    MetFree l (⟨"java/lang/String", "isEmpty", "()Z"⟩ : MethodName) (head1 (Jvm.Cond.code (⟨"java/lang/String", "isEmpty", "()Z"⟩ : MethodName) jdk_42_method_55_code 1 (some .boolean) :: ws) ({ frames := 0, cells := 0, slots := 0, locals := 0 } : Room)) (fun a U => a = #[(.ref o1)] ∧ Z.Warmed39 U.vm ∧ U.heap = h0) (fun _ _ _ _ _ => True) (fun _ U o U' => ∃ v L, o = .returned v ∧ own_Q11 Z o1 b kb n x y h0 n0 v U'.heap L ∧ FrameEnd U o U' L ({ frames := 0, cells := 0, slots := 0, locals := 0 } : Room).cells ({ frames := 0, cells := 0, slots := 0, locals := 0 } : Room).slots) := by
  refine MetFree.of_bodySF (plainFor_of_name own_pn1) hisR ?_
  intro p e s m args below meth c s₁ Bd hml0 hP hK
  obtain ⟨rfl, hZ, hh⟩ := hP
  have hx := Bd.exec
  have hby := Bd.bytes
  have hlk := Bd.notSynchronized
  have hrt := Bd.returns
  have hml : c.maxLocals = 1 := hml0
  have hown : s.vm.findClass "java/lang/String" = some m.cls := findClass_of_methodNamed Bd.named
  have hnm := (name_of_methodNamed Bd.named Bd.method).1
  have X0 : Stand p l e ({ frames := 0, cells := 0, slots := 0, locals := 0 } : Room) s m #[(.ref o1)] below meth c s₁ [] 0 0 := Stand.of_body Bd
  have e0 : s₁.heap = h0 := by rw [← hh, Bd.state]; rfl
  have N0 := Fr.nil n0
  refine own_in (own_ef11 m o1) ?_
  refine own_aloadN X0 hx 1 (hb hby own_d11_0) rfl rfl ?_
  obtain ⟨T1, X1, e1, st1⟩ := getF X0 hx hZ hown (host := "") (Or.inl (hw _ (List.mem_of_getElem? (i := 32) rfl))) Via.refl e0 pF1 (g := (mkF m 1 #[.val (.ref o1)] [(.ref o1)])) rfl rfl (hb hby own_d11_1)
  refine own_st (G' := T1.setTop (mkF m 4 #[.val (.ref o1)] [(.ref b)])) st1 ?_
  obtain ⟨_, X1h, N1h⟩ := own_hide X1 N0
  obtain ⟨cl2, Ar2, qv2, S2, M2, H2, G2⟩ := id pV2
  have ln2 := len_of S2 M2
  refine own_st (G' := T1.setTop (mkF m 5 #[.val (.ref o1)] [(.int n)])) (fun t k => X1h.arraylength hx (by rw [e1]; exact Ar2.1) (State.isArrayOf_alike hZ.alike Ar2.2.1) (g := (mkF m 4 #[.val (.ref o1)] [(.ref b)])) rfl rfl (hb hby own_d11_4) _ (by rw [ln2]; exact k)) ?_
  refine own_ifYes X1h hx 12 (hb hby own_d11_5) (feq (own_n0 hn : ¬ (n = (0 : Int32)))).2 ?_
  refine own_iconst X1h hx 13 (0 : Int32) (hb hby own_d11_12) rfl ?_
  exact own_retN (t := .boolean) (z := (0 : Int32)) (Q := own_Q11 Z o1 b kb n x y h0 n0) X1h hx hrt (by simp) (hb hby own_d11_13) hlk e1 ⟨rfl, N1h, rfl⟩ (by decide) (by decide)
theorem own_d14_0 : decode jdk_42_method_152_code 0 = .ok (.getstatic 38, 3) := by decide +kernel
theorem own_d14_3 : decode jdk_42_method_152_code 3 = .ok (.ifCond .eq 10, 3) := by decide +kernel
theorem own_d14_6 : decode jdk_42_method_152_code 6 = .ok (.aload_n 0, 1) := by decide +kernel
theorem own_d14_7 : decode jdk_42_method_152_code 7 = .ok (.getfield 15, 3) := by decide +kernel
theorem own_d14_10 : decode jdk_42_method_152_code 10 = .ok (.goto 4, 3) := by decide +kernel
theorem own_d14_14 : decode jdk_42_method_152_code 14 = .ok (.ireturn, 1) := by decide +kernel
theorem own_ef14 (m : MethodId) (o1 : Addr) : entryFrame m #[(.ref o1)] 1 = mkF m 0 #[.val (.ref o1)] [] := by first | (simp [entryFrame, mkF, argsToLocals, Value.category]; done) | rfl
def own_Q14 (Z : State) (cs : Int32) (S_cs : Sta Z Z.heap "java/lang/String" "COMPACT_STRINGS" "Z" (.int cs)) (hcs : ¬ cs = (0 : Int32)) (sf : Value) (S_sf : Sta Z Z.heap "jdk/internal/util/Preconditions" "SIOOBE_FORMATTER" "Ljava/util/function/BiFunction;" sf) (hsf : sf.isRef = true) (o1 : Addr) (h0 : Heap) (n0 : Nat) (v : Option Value) (h : Heap) (L : List Loc) : Prop := v = some (.int (0 : Int32)) ∧ Fr n0 L ∧ h = h0
set_option maxRecDepth 65536 in
set_option maxHeartbeats 40000000 in
theorem own_rm14 (l : Launch) (Z : State) (a0 : Array Value) (hw : ∀ d ∈ tables_1, d.before a0 Z = true) (ws : List Jvm.Cond) (cs : Int32) (S_cs : Sta Z Z.heap "java/lang/String" "COMPACT_STRINGS" "Z" (.int cs)) (hcs : ¬ cs = (0 : Int32)) (sf : Value) (S_sf : Sta Z Z.heap "jdk/internal/util/Preconditions" "SIOOBE_FORMATTER" "Ljava/util/function/BiFunction;" sf) (hsf : sf.isRef = true) (o1 : Addr) (h0 : Heap) (n0 : Nat) (Z0 : n0 ≤ h0.size) (pF1 : Fld Z h0 o1 "java/lang/String" "coder" "B" (.int (0 : Int32))) (O0 : Old Z n0 h0) :
    MetFree l (⟨"java/lang/String", "coder", "()B"⟩ : MethodName) (head1 (Jvm.Cond.code (⟨"java/lang/String", "coder", "()B"⟩ : MethodName) jdk_42_method_152_code 1 (some .byte) :: ws) ({ frames := 0, cells := 0, slots := 0, locals := 0 } : Room)) (fun a U => a = #[(.ref o1)] ∧ Z.Warmed39 U.vm ∧ U.heap = h0) (fun _ _ _ _ _ => True) (fun _ U o U' => ∃ v L, o = .returned v ∧ own_Q14 Z cs S_cs hcs sf S_sf hsf o1 h0 n0 v U'.heap L ∧ FrameEnd U o U' L ({ frames := 0, cells := 0, slots := 0, locals := 0 } : Room).cells ({ frames := 0, cells := 0, slots := 0, locals := 0 } : Room).slots) := by
  refine MetFree.of_bodySF (plainFor_of_name own_pn1) hisR ?_
  intro p e s m args below meth c s₁ Bd hml0 hP hK
  obtain ⟨rfl, hZ, hh⟩ := hP
  have hx := Bd.exec
  have hby := Bd.bytes
  have hlk := Bd.notSynchronized
  have hrt := Bd.returns
  have hml : c.maxLocals = 1 := hml0
  have hown : s.vm.findClass "java/lang/String" = some m.cls := findClass_of_methodNamed Bd.named
  have hnm := (name_of_methodNamed Bd.named Bd.method).1
  have X0 : Stand p l e ({ frames := 0, cells := 0, slots := 0, locals := 0 } : Room) s m #[(.ref o1)] below meth c s₁ [] 0 0 := Stand.of_body Bd
  have e0 : s₁.heap = h0 := by rw [← hh, Bd.state]; rfl
  have N0 := Fr.nil n0
  refine own_in (own_ef14 m o1) ?_
  obtain ⟨T1, X1, e1, st1⟩ := getS2 X0 hx hZ hown (host := "") (Or.inl (hw _ (List.mem_of_getElem? (i := 18) rfl))) Via.refl e0 (S_cs.ext O0.2) (g := (mkF m 0 #[.val (.ref o1)] [])) rfl (hb hby own_d14_0)
  refine own_st (G' := T1.setTop (mkF m 3 #[.val (.ref o1)] [(.int cs)])) st1 ?_
  obtain ⟨_, X1h, N1h⟩ := own_hide X1 N0
  refine own_ifNo X1h hx 6 (hb hby own_d14_3) (feq (hcs : ¬ (cs = (0 : Int32)))).1 ?_
  refine own_aloadN X1h hx 7 (hb hby own_d14_6) rfl rfl ?_
  obtain ⟨T2, X2, e2, st2⟩ := getF X1h hx hZ hown (host := "") (Or.inl (hw _ (List.mem_of_getElem? (i := 30) rfl))) Via.refl e1 pF1 (g := (mkF m 7 #[.val (.ref o1)] [(.ref o1)])) rfl rfl (hb hby own_d14_7)
  refine own_st (G' := T2.setTop (mkF m 10 #[.val (.ref o1)] [(.int (0 : Int32))])) st2 ?_
  obtain ⟨_, X2h, N2h⟩ := own_hide X2 N1h
  refine own_goto X2h hx 14 (hb hby own_d14_10) ?_
  exact own_retN (t := .byte) (z := (0 : Int32)) (Q := own_Q14 Z cs S_cs hcs sf S_sf hsf o1 h0 n0) X2h hx hrt (by simp) (hb hby own_d14_14) hlk e2 ⟨rfl, N2h, rfl⟩ (by decide) (by decide)
theorem own_d13_0 : decode jdk_42_method_54_code 0 = .ok (.aload_n 0, 1) := by decide +kernel
theorem own_d13_1 : decode jdk_42_method_54_code 1 = .ok (.getfield 9, 3) := by decide +kernel
theorem own_d13_4 : decode jdk_42_method_54_code 4 = .ok (.arraylength, 1) := by decide +kernel
theorem own_d13_5 : decode jdk_42_method_54_code 5 = .ok (.aload_n 0, 1) := by decide +kernel
theorem own_d13_6 : decode jdk_42_method_54_code 6 = .ok (.invokevirtual 335, 3) := by decide +kernel
theorem own_d13_9 : decode jdk_42_method_54_code 9 = .ok (.ishr, 1) := by decide +kernel
theorem own_d13_10 : decode jdk_42_method_54_code 10 = .ok (.ireturn, 1) := by decide +kernel
theorem own_pd5 : parseMethodDescriptor "()B" = some ⟨[], some .byte⟩ := by decide +kernel
theorem own_ef13 (m : MethodId) (o1 : Addr) : entryFrame m #[(.ref o1)] 1 = mkF m 0 #[.val (.ref o1)] [] := by first | (simp [entryFrame, mkF, argsToLocals, Value.category]; done) | rfl
def own_Q13 (Z : State) (cs : Int32) (S_cs : Sta Z Z.heap "java/lang/String" "COMPACT_STRINGS" "Z" (.int cs)) (hcs : ¬ cs = (0 : Int32)) (sf : Value) (S_sf : Sta Z Z.heap "jdk/internal/util/Preconditions" "SIOOBE_FORMATTER" "Ljava/util/function/BiFunction;" sf) (hsf : sf.isRef = true) (o1 : Addr) (b : Addr) (kb : ClassId) (n : Int32) (x : Int32) (y : Int32) (h0 : Heap) (n0 : Nat) (v : Option Value) (h : Heap) (L : List Loc) : Prop := v = some (.int n) ∧ Fr n0 L ∧ h = h0
set_option maxRecDepth 65536 in
set_option maxHeartbeats 40000000 in
theorem own_rm13 (l : Launch) (Z : State) (a0 : Array Value) (hw : ∀ d ∈ tables_1, d.before a0 Z = true) (ws : List Jvm.Cond) (cs : Int32) (S_cs : Sta Z Z.heap "java/lang/String" "COMPACT_STRINGS" "Z" (.int cs)) (hcs : ¬ cs = (0 : Int32)) (sf : Value) (S_sf : Sta Z Z.heap "jdk/internal/util/Preconditions" "SIOOBE_FORMATTER" "Ljava/util/function/BiFunction;" sf) (hsf : sf.isRef = true) (o1 : Addr) (b : Addr) (kb : ClassId) (n : Int32) (x : Int32) (y : Int32) (h0 : Heap) (n0 : Nat) (Z0 : n0 ≤ h0.size) (pE1 : Exa Z h0 o1 "java/lang/String") (pF2 : Fld Z h0 o1 "java/lang/String" "value" "[B" (.ref b)) (pF3 : Fld Z h0 o1 "java/lang/String" "coder" "B" (.int (0 : Int32))) (pV4 : Arv Z h0 b kb .byte n (own_sl n x y) (.int (0 : Int32))) (O0 : Old Z n0 h0) :
    MetFree l (⟨"java/lang/String", "length", "()I"⟩ : MethodName) (head1 (Jvm.Cond.code (⟨"java/lang/String", "length", "()I"⟩ : MethodName) jdk_42_method_54_code 1 (some .int) :: ws) ({ frames := 1, cells := 0, slots := 0, locals := 13 } : Room)) (fun a U => a = #[(.ref o1)] ∧ Z.Warmed39 U.vm ∧ U.heap = h0) (fun _ _ _ _ _ => True) (fun _ U o U' => ∃ v L, o = .returned v ∧ own_Q13 Z cs S_cs hcs sf S_sf hsf o1 b kb n x y h0 n0 v U'.heap L ∧ FrameEnd U o U' L ({ frames := 1, cells := 0, slots := 0, locals := 13 } : Room).cells ({ frames := 1, cells := 0, slots := 0, locals := 13 } : Room).slots) := by
  refine MetFree.of_bodySF (plainFor_of_name own_pn1) hisR ?_
  intro p e s m args below meth c s₁ Bd hml0 hP hK
  obtain ⟨rfl, hZ, hh⟩ := hP
  have hx := Bd.exec
  have hby := Bd.bytes
  have hlk := Bd.notSynchronized
  have hrt := Bd.returns
  have hml : c.maxLocals = 1 := hml0
  have hown : s.vm.findClass "java/lang/String" = some m.cls := findClass_of_methodNamed Bd.named
  have hnm := (name_of_methodNamed Bd.named Bd.method).1
  have X0 : Stand p l e ({ frames := 1, cells := 0, slots := 0, locals := 13 } : Room) s m #[(.ref o1)] below meth c s₁ [] 0 0 := Stand.of_body Bd
  have e0 : s₁.heap = h0 := by rw [← hh, Bd.state]; rfl
  have N0 := Fr.nil n0
  refine own_in (own_ef13 m o1) ?_
  refine own_aloadN X0 hx 1 (hb hby own_d13_0) rfl rfl ?_
  obtain ⟨T1, X1, e1, st1⟩ := getF X0 hx hZ hown (host := "") (Or.inl (hw _ (List.mem_of_getElem? (i := 32) rfl))) Via.refl e0 pF2 (g := (mkF m 1 #[.val (.ref o1)] [(.ref o1)])) rfl rfl (hb hby own_d13_1)
  refine own_st (G' := T1.setTop (mkF m 4 #[.val (.ref o1)] [(.ref b)])) st1 ?_
  obtain ⟨_, X1h, N1h⟩ := own_hide X1 N0
  obtain ⟨cl2, Ar2, qv2, S2, M2, H2, G2⟩ := id pV4
  have ln2 := len_of S2 M2
  refine own_st (G' := T1.setTop (mkF m 5 #[.val (.ref o1)] [(.int n)])) (fun t k => X1h.arraylength hx (by rw [e1]; exact Ar2.1) (State.isArrayOf_alike hZ.alike Ar2.2.1) (g := (mkF m 4 #[.val (.ref o1)] [(.ref b)])) rfl rfl (hb hby own_d13_4) _ (by rw [ln2]; exact k)) ?_
  refine own_aloadN X1h hx 6 (hb hby own_d13_5) rfl rfl ?_
  obtain ⟨cq3, kq3, q3a, q3b, q3c⟩ := isOf hZ e1 pE1
  obtain ⟨_, _, ⟨T3, Lx3, kc3, nc3⟩, -, X3, ⟨Lc3, hQ3, lq3, yq3, zq3⟩, st3⟩ := X1h.virtualBack hx (y := (⟨"java/lang/String", "coder", "()B"⟩ : MethodName)) (z := (⟨"java/lang/String", "coder", "()B"⟩ : MethodName)) hown (mvT hZ (hw _ (List.mem_of_getElem? (i := 65) rfl))) (mvT hZ (hw _ (List.mem_of_getElem? (i := 66) rfl))) (notFace_of_selects (args := #[]) (mvT hZ (hw _ (List.mem_of_getElem? (i := 68) rfl)))) (mvT hZ (hw _ (List.mem_of_getElem? (i := 68) rfl))) (mvT hZ (hw _ (List.mem_of_getElem? (i := 67) rfl))) (by decide) (backOf (W := 1) (own_rm14 l Z a0 hw [] cs S_cs hcs sf S_sf hsf o1 h0 n0 Z0 pF3 O0) hZ (hw _ (List.mem_of_getElem? (i := 69) rfl)) (hw _ (List.mem_of_getElem? (i := 7) rfl)) (by decide) (by decide)) q3a q3c (g := (mkF m 6 #[.val (.ref o1)] [(.ref o1), (.int n)])) rfl (by rw [hml]; rfl) (Steps.refl _) (argsL := []) (rest := [(.int n)]) (lenOf own_pd5 rfl) rfl (by show 2 * 0 + _ ≤ _; exact Nat.le_of_eq rfl) (hb hby own_d13_6) (fun _ _ => ⟨rfl, e1, (by decide : 0 + 0 ≤ _), (by decide : 0 + 0 ≤ _)⟩)
  dsimp only [Pt.U, Pt.locs, Pt.cells, Pt.slots] at X3 lq3 yq3 zq3 st3 hQ3
  subst lq3 yq3 zq3
  obtain ⟨rfl, Nq3, eh3⟩ := hQ3
  have N3 := Fr.app N1h Nq3
  refine own_st (G' := T3.setTop (mkF m 9 #[.val (.ref o1)] [(.int (0 : Int32)), (.int n)])) (fun t k => st3.trans k) ?_
  obtain ⟨_, X3h, N3h⟩ := own_hide X3 N3
  refine own_ishr X3h hx 10 (hb hby own_d13_9) ?_
  exact own_retI (z := (n >>> ((0 : Int32) &&& 31))) (Q := own_Q13 Z cs S_cs hcs sf S_sf hsf o1 b kb n x y h0 n0) X3h hx hrt (hb hby own_d13_10) hlk eh3 ⟨(own_leafI (own_shr0 n)), N3h, rfl⟩ (by decide) (by decide)
theorem own_d17_0 : decode jdk_42_method_154_code 0 = .ok (.getstatic 38, 3) := by decide +kernel
theorem own_d17_3 : decode jdk_42_method_154_code 3 = .ok (.ifCond .eq 14, 3) := by decide +kernel
theorem own_d17_6 : decode jdk_42_method_154_code 6 = .ok (.aload_n 0, 1) := by decide +kernel
theorem own_d17_7 : decode jdk_42_method_154_code 7 = .ok (.getfield 15, 3) := by decide +kernel
theorem own_d17_10 : decode jdk_42_method_154_code 10 = .ok (.ifCond .ne 7, 3) := by decide +kernel
theorem own_d17_13 : decode jdk_42_method_154_code 13 = .ok (.iconst 1, 1) := by decide +kernel
theorem own_d17_14 : decode jdk_42_method_154_code 14 = .ok (.goto 4, 3) := by decide +kernel
theorem own_d17_18 : decode jdk_42_method_154_code 18 = .ok (.ireturn, 1) := by decide +kernel
theorem own_ef17 (m : MethodId) (o1 : Addr) : entryFrame m #[(.ref o1)] 1 = mkF m 0 #[.val (.ref o1)] [] := by first | (simp [entryFrame, mkF, argsToLocals, Value.category]; done) | rfl
def own_Q17 (Z : State) (cs : Int32) (S_cs : Sta Z Z.heap "java/lang/String" "COMPACT_STRINGS" "Z" (.int cs)) (hcs : ¬ cs = (0 : Int32)) (sf : Value) (S_sf : Sta Z Z.heap "jdk/internal/util/Preconditions" "SIOOBE_FORMATTER" "Ljava/util/function/BiFunction;" sf) (hsf : sf.isRef = true) (o1 : Addr) (h0 : Heap) (n0 : Nat) (v : Option Value) (h : Heap) (L : List Loc) : Prop := v = some (.int (1 : Int32)) ∧ Fr n0 L ∧ h = h0
set_option maxRecDepth 65536 in
set_option maxHeartbeats 40000000 in
theorem own_rm17 (l : Launch) (Z : State) (a0 : Array Value) (hw : ∀ d ∈ tables_1, d.before a0 Z = true) (ws : List Jvm.Cond) (cs : Int32) (S_cs : Sta Z Z.heap "java/lang/String" "COMPACT_STRINGS" "Z" (.int cs)) (hcs : ¬ cs = (0 : Int32)) (sf : Value) (S_sf : Sta Z Z.heap "jdk/internal/util/Preconditions" "SIOOBE_FORMATTER" "Ljava/util/function/BiFunction;" sf) (hsf : sf.isRef = true) (o1 : Addr) (h0 : Heap) (n0 : Nat) (Z0 : n0 ≤ h0.size) (pF1 : Fld Z h0 o1 "java/lang/String" "coder" "B" (.int (0 : Int32))) (O0 : Old Z n0 h0) :
    MetFree l (⟨"java/lang/String", "isLatin1", "()Z"⟩ : MethodName) (head1 (Jvm.Cond.code (⟨"java/lang/String", "isLatin1", "()Z"⟩ : MethodName) jdk_42_method_154_code 1 (some .boolean) :: ws) ({ frames := 0, cells := 0, slots := 0, locals := 0 } : Room)) (fun a U => a = #[(.ref o1)] ∧ Z.Warmed39 U.vm ∧ U.heap = h0) (fun _ _ _ _ _ => True) (fun _ U o U' => ∃ v L, o = .returned v ∧ own_Q17 Z cs S_cs hcs sf S_sf hsf o1 h0 n0 v U'.heap L ∧ FrameEnd U o U' L ({ frames := 0, cells := 0, slots := 0, locals := 0 } : Room).cells ({ frames := 0, cells := 0, slots := 0, locals := 0 } : Room).slots) := by
  refine MetFree.of_bodySF (plainFor_of_name own_pn1) hisR ?_
  intro p e s m args below meth c s₁ Bd hml0 hP hK
  obtain ⟨rfl, hZ, hh⟩ := hP
  have hx := Bd.exec
  have hby := Bd.bytes
  have hlk := Bd.notSynchronized
  have hrt := Bd.returns
  have hml : c.maxLocals = 1 := hml0
  have hown : s.vm.findClass "java/lang/String" = some m.cls := findClass_of_methodNamed Bd.named
  have hnm := (name_of_methodNamed Bd.named Bd.method).1
  have X0 : Stand p l e ({ frames := 0, cells := 0, slots := 0, locals := 0 } : Room) s m #[(.ref o1)] below meth c s₁ [] 0 0 := Stand.of_body Bd
  have e0 : s₁.heap = h0 := by rw [← hh, Bd.state]; rfl
  have N0 := Fr.nil n0
  refine own_in (own_ef17 m o1) ?_
  obtain ⟨T1, X1, e1, st1⟩ := getS2 X0 hx hZ hown (host := "") (Or.inl (hw _ (List.mem_of_getElem? (i := 18) rfl))) Via.refl e0 (S_cs.ext O0.2) (g := (mkF m 0 #[.val (.ref o1)] [])) rfl (hb hby own_d17_0)
  refine own_st (G' := T1.setTop (mkF m 3 #[.val (.ref o1)] [(.int cs)])) st1 ?_
  obtain ⟨_, X1h, N1h⟩ := own_hide X1 N0
  refine own_ifNo X1h hx 6 (hb hby own_d17_3) (feq (hcs : ¬ (cs = (0 : Int32)))).1 ?_
  refine own_aloadN X1h hx 7 (hb hby own_d17_6) rfl rfl ?_
  obtain ⟨T2, X2, e2, st2⟩ := getF X1h hx hZ hown (host := "") (Or.inl (hw _ (List.mem_of_getElem? (i := 30) rfl))) Via.refl e1 pF1 (g := (mkF m 7 #[.val (.ref o1)] [(.ref o1)])) rfl rfl (hb hby own_d17_7)
  refine own_st (G' := T2.setTop (mkF m 10 #[.val (.ref o1)] [(.int (0 : Int32))])) st2 ?_
  obtain ⟨_, X2h, N2h⟩ := own_hide X2 N1h
  refine own_ifNo X2h hx 13 (hb hby own_d17_10) (teq (rfl : (0 : Int32) = (0 : Int32))).2 ?_
  refine own_iconst X2h hx 14 (1 : Int32) (hb hby own_d17_13) rfl ?_
  refine own_goto X2h hx 18 (hb hby own_d17_14) ?_
  exact own_retN (t := .boolean) (z := (1 : Int32)) (Q := own_Q17 Z cs S_cs hcs sf S_sf hsf o1 h0 n0) X2h hx hrt (by simp) (hb hby own_d17_18) hlk e2 ⟨rfl, N2h, rfl⟩ (by decide) (by decide)
theorem own_d20_0 : decode jdk_41_method_11_code 0 = .ok (.iload_n 0, 1) := by decide +kernel
theorem own_d20_1 : decode jdk_41_method_11_code 1 = .ok (.ifCond .lt 8, 3) := by decide +kernel
theorem own_d20_4 : decode jdk_41_method_11_code 4 = .ok (.iload_n 0, 1) := by decide +kernel
theorem own_d20_5 : decode jdk_41_method_11_code 5 = .ok (.iload_n 1, 1) := by decide +kernel
theorem own_d20_6 : decode jdk_41_method_11_code 6 = .ok (.if_icmp .lt 10, 3) := by decide +kernel
theorem own_d20_16 : decode jdk_41_method_11_code 16 = .ok (.iload_n 0, 1) := by decide +kernel
theorem own_d20_17 : decode jdk_41_method_11_code 17 = .ok (.ireturn, 1) := by decide +kernel
theorem own_pn3 : plainName "jdk/internal/util/Preconditions" = true := by first | (simp [plainName, overriddenIn]; done) | decide +kernel
theorem own_ef20 (m : MethodId) (v1 : Int32) (v2 : Int32) (sf : Value) (hsf : sf.isRef = true) : entryFrame m #[(.int v1), (.int v2), sf] 3 = mkF m 0 #[.val (.int v1), .val (.int v2), .val sf] [] := by
  cases sf <;> first | (simp [Value.isRef] at hsf; done) | (simp [entryFrame, mkF, argsToLocals, Value.category]; done) | rfl
def own_Q20 (Z : State) (cs : Int32) (S_cs : Sta Z Z.heap "java/lang/String" "COMPACT_STRINGS" "Z" (.int cs)) (hcs : ¬ cs = (0 : Int32)) (sf : Value) (S_sf : Sta Z Z.heap "jdk/internal/util/Preconditions" "SIOOBE_FORMATTER" "Ljava/util/function/BiFunction;" sf) (hsf : sf.isRef = true) (v1 : Int32) (v2 : Int32) (h0 : Heap) (n0 : Nat) (v : Option Value) (h : Heap) (L : List Loc) : Prop := v = some (.int v1) ∧ Fr n0 L ∧ h = h0
set_option maxRecDepth 65536 in
set_option maxHeartbeats 40000000 in
theorem own_rm20 (l : Launch) (Z : State) (a0 : Array Value) (hw : ∀ d ∈ tables_1, d.before a0 Z = true) (ws : List Jvm.Cond) (cs : Int32) (S_cs : Sta Z Z.heap "java/lang/String" "COMPACT_STRINGS" "Z" (.int cs)) (hcs : ¬ cs = (0 : Int32)) (sf : Value) (S_sf : Sta Z Z.heap "jdk/internal/util/Preconditions" "SIOOBE_FORMATTER" "Ljava/util/function/BiFunction;" sf) (hsf : sf.isRef = true) (v1 : Int32) (v2 : Int32) (h0 : Heap) (n0 : Nat) (Z0 : n0 ≤ h0.size) (h1 : ¬ v1 < 0) (h2 : v1 < v2) :
    MetFree l (⟨"jdk/internal/util/Preconditions", "checkIndex", "(IILjava/util/function/BiFunction;)I"⟩ : MethodName) (head1 (Jvm.Cond.code (⟨"jdk/internal/util/Preconditions", "checkIndex", "(IILjava/util/function/BiFunction;)I"⟩ : MethodName) jdk_41_method_11_code 3 (some .int) :: ws) ({ frames := 0, cells := 0, slots := 0, locals := 0 } : Room)) (fun a U => a = #[(.int v1), (.int v2), sf] ∧ Z.Warmed39 U.vm ∧ U.heap = h0) (fun _ _ _ _ _ => True) (fun _ U o U' => ∃ v L, o = .returned v ∧ own_Q20 Z cs S_cs hcs sf S_sf hsf v1 v2 h0 n0 v U'.heap L ∧ FrameEnd U o U' L ({ frames := 0, cells := 0, slots := 0, locals := 0 } : Room).cells ({ frames := 0, cells := 0, slots := 0, locals := 0 } : Room).slots) := by
  refine MetFree.of_bodySF (plainFor_of_name own_pn3) hisR ?_
  intro p e s m args below meth c s₁ Bd hml0 hP hK
  obtain ⟨rfl, hZ, hh⟩ := hP
  have hx := Bd.exec
  have hby := Bd.bytes
  have hlk := Bd.notSynchronized
  have hrt := Bd.returns
  have hml : c.maxLocals = 3 := hml0
  have hown : s.vm.findClass "jdk/internal/util/Preconditions" = some m.cls := findClass_of_methodNamed Bd.named
  have hnm := (name_of_methodNamed Bd.named Bd.method).1
  have X0 : Stand p l e ({ frames := 0, cells := 0, slots := 0, locals := 0 } : Room) s m #[(.int v1), (.int v2), sf] below meth c s₁ [] 0 0 := Stand.of_body Bd
  have e0 : s₁.heap = h0 := by rw [← hh, Bd.state]; rfl
  have N0 := Fr.nil n0
  refine own_in (own_ef20 m v1 v2 sf hsf) ?_
  refine own_iloadN X0 hx 1 (hb hby own_d20_0) rfl ?_
  refine own_ifNo X0 hx 4 (hb hby own_d20_1) (flt (h1 : ¬ (v1 < (0 : Int32)))).1 ?_
  refine own_iloadN X0 hx 5 (hb hby own_d20_4) rfl ?_
  refine own_iloadN X0 hx 6 (hb hby own_d20_5) rfl ?_
  refine own_icmpYes X0 hx 16 (hb hby own_d20_6) (tlt h2).1 ?_
  refine own_iloadN X0 hx 17 (hb hby own_d20_16) rfl ?_
  exact own_retI (z := v1) (Q := own_Q20 Z cs S_cs hcs sf S_sf hsf v1 v2 h0 n0) X0 hx hrt (hb hby own_d20_17) hlk e0 ⟨rfl, N0, rfl⟩ (by decide) (by decide)
theorem own_d19_0 : decode jdk_42_method_155_code 0 = .ok (.iload_n 0, 1) := by decide +kernel
theorem own_d19_1 : decode jdk_42_method_155_code 1 = .ok (.iload_n 1, 1) := by decide +kernel
theorem own_d19_2 : decode jdk_42_method_155_code 2 = .ok (.getstatic 1053, 3) := by decide +kernel
theorem own_d19_5 : decode jdk_42_method_155_code 5 = .ok (.invokestatic 1059, 3) := by decide +kernel
theorem own_d19_8 : decode jdk_42_method_155_code 8 = .ok (.pop, 1) := by decide +kernel
theorem own_d19_9 : decode jdk_42_method_155_code 9 = .ok (.return_, 1) := by decide +kernel
theorem own_pd6 : parseMethodDescriptor "(IILjava/util/function/BiFunction;)I" = some ⟨[.int, .int, (.object "java/util/function/BiFunction")], some .int⟩ := by decide +kernel
theorem own_ef19 (m : MethodId) (v1 : Int32) (v2 : Int32) : entryFrame m #[(.int v1), (.int v2)] 2 = mkF m 0 #[.val (.int v1), .val (.int v2)] [] := by first | (simp [entryFrame, mkF, argsToLocals, Value.category]; done) | rfl
def own_Q19 (Z : State) (cs : Int32) (S_cs : Sta Z Z.heap "java/lang/String" "COMPACT_STRINGS" "Z" (.int cs)) (hcs : ¬ cs = (0 : Int32)) (sf : Value) (S_sf : Sta Z Z.heap "jdk/internal/util/Preconditions" "SIOOBE_FORMATTER" "Ljava/util/function/BiFunction;" sf) (hsf : sf.isRef = true) (v1 : Int32) (v2 : Int32) (h0 : Heap) (n0 : Nat) (v : Option Value) (h : Heap) (L : List Loc) : Prop := v = none ∧ Fr n0 L ∧ h = h0
set_option maxRecDepth 65536 in
set_option maxHeartbeats 40000000 in
theorem own_rm19 (l : Launch) (Z : State) (a0 : Array Value) (hw : ∀ d ∈ tables_1, d.before a0 Z = true) (ws : List Jvm.Cond) (cs : Int32) (S_cs : Sta Z Z.heap "java/lang/String" "COMPACT_STRINGS" "Z" (.int cs)) (hcs : ¬ cs = (0 : Int32)) (sf : Value) (S_sf : Sta Z Z.heap "jdk/internal/util/Preconditions" "SIOOBE_FORMATTER" "Ljava/util/function/BiFunction;" sf) (hsf : sf.isRef = true) (v1 : Int32) (v2 : Int32) (h0 : Heap) (n0 : Nat) (Z0 : n0 ≤ h0.size) (h1 : ¬ v1 < 0) (h2 : v1 < v2) (O0 : Old Z n0 h0) :
    MetFree l (⟨"java/lang/String", "checkIndex", "(II)V"⟩ : MethodName) (head1 (Jvm.Cond.code (⟨"java/lang/String", "checkIndex", "(II)V"⟩ : MethodName) jdk_42_method_155_code 2 none :: ws) ({ frames := 1, cells := 0, slots := 0, locals := 14 } : Room)) (fun a U => a = #[(.int v1), (.int v2)] ∧ Z.Warmed39 U.vm ∧ U.heap = h0) (fun _ _ _ _ _ => True) (fun _ U o U' => ∃ v L, o = .returned v ∧ own_Q19 Z cs S_cs hcs sf S_sf hsf v1 v2 h0 n0 v U'.heap L ∧ FrameEnd U o U' L ({ frames := 1, cells := 0, slots := 0, locals := 14 } : Room).cells ({ frames := 1, cells := 0, slots := 0, locals := 14 } : Room).slots) := by
  refine MetFree.of_bodySF (plainFor_of_name own_pn1) hisR ?_
  intro p e s m args below meth c s₁ Bd hml0 hP hK
  obtain ⟨rfl, hZ, hh⟩ := hP
  have hx := Bd.exec
  have hby := Bd.bytes
  have hlk := Bd.notSynchronized
  have hrt := Bd.returns
  have hml : c.maxLocals = 2 := hml0
  have hown : s.vm.findClass "java/lang/String" = some m.cls := findClass_of_methodNamed Bd.named
  have hnm := (name_of_methodNamed Bd.named Bd.method).1
  have X0 : Stand p l e ({ frames := 1, cells := 0, slots := 0, locals := 14 } : Room) s m #[(.int v1), (.int v2)] below meth c s₁ [] 0 0 := Stand.of_body Bd
  have e0 : s₁.heap = h0 := by rw [← hh, Bd.state]; rfl
  have N0 := Fr.nil n0
  refine own_in (own_ef19 m v1 v2) ?_
  refine own_iloadN X0 hx 1 (hb hby own_d19_0) rfl ?_
  refine own_iloadN X0 hx 2 (hb hby own_d19_1) rfl ?_
  obtain ⟨T1, X1, e1, st1⟩ := getS2 X0 hx hZ hown (host := "") (Or.inl (hw _ (List.mem_of_getElem? (i := 96) rfl))) Via.refl e0 (S_sf.ext O0.2) (g := (mkF m 2 #[.val (.int v1), .val (.int v2)] [(.int v2), (.int v1)])) rfl (hb hby own_d19_2)
  refine own_st (G' := T1.setTop (mkF m 5 #[.val (.int v1), .val (.int v2)] [sf, (.int v2), (.int v1)])) st1 ?_
  obtain ⟨_, X1h, N1h⟩ := own_hide X1 N0
  obtain ⟨_, _, ⟨T2, Lx2, kc2, nc2⟩, -, X2, ⟨Lc2, hQ2, lq2, yq2, zq2⟩, st2⟩ := Jvm.LawKit.callS X1h hx (y := (⟨"jdk/internal/util/Preconditions", "checkIndex", "(IILjava/util/function/BiFunction;)I"⟩ : MethodName)) hown (mvT hZ (hw _ (List.mem_of_getElem? (i := 98) rfl))) (mvT hZ (hw _ (List.mem_of_getElem? (i := 99) rfl))) (mvT hZ (hw _ (List.mem_of_getElem? (i := 97) rfl))) (mvT hZ (hw _ (List.mem_of_getElem? (i := 100) rfl))) (by decide) (backOf (W := 0) (own_rm20 l Z a0 hw [] cs S_cs hcs sf S_sf hsf v1 v2 h0 n0 Z0 (h1 : ¬ v1 < 0) (h2 : v1 < v2)) hZ (hw _ (List.mem_of_getElem? (i := 100) rfl)) (hw _ (List.mem_of_getElem? (i := 97) rfl)) (by decide) (by decide)) (g := (mkF m 5 #[.val (.int v1), .val (.int v2)] [sf, (.int v2), (.int v1)])) rfl (by rw [hml]; rfl) (argsL := [(.int v1), (.int v2), sf]) (rest := []) (lenOf own_pd6 rfl) rfl (by show 2 * 0 + _ ≤ _; exact Nat.le_of_eq rfl) (hb hby own_d19_5) (fun _ _ => ⟨rfl, e1, (by decide : 0 + 0 ≤ _), (by decide : 0 + 0 ≤ _)⟩)
  dsimp only [Pt.U, Pt.locs, Pt.cells, Pt.slots] at X2 lq2 yq2 zq2 st2 hQ2
  subst lq2 yq2 zq2
  obtain ⟨rfl, Nq2, eh2⟩ := hQ2
  have N2 := Fr.app N1h Nq2
  refine own_st (G' := T2.setTop (mkF m 8 #[.val (.int v1), .val (.int v2)] [(.int v1)])) st2 ?_
  obtain ⟨_, X2h, N2h⟩ := own_hide X2 N2
  refine own_pop X2h hx 9 (hb hby own_d19_8) rfl ?_
  exact own_retV (Q := own_Q19 Z cs S_cs hcs sf S_sf hsf v1 v2 h0 n0) X2h hx hrt (hb hby own_d19_9) hlk eh2 ⟨rfl, N2h, rfl⟩ (by decide) (by decide)
theorem own_d18_0 : decode jdk_43_method_2_code 0 = .ok (.iload_n 1, 1) := by decide +kernel
theorem own_d18_1 : decode jdk_43_method_2_code 1 = .ok (.aload_n 0, 1) := by decide +kernel
theorem own_d18_2 : decode jdk_43_method_2_code 2 = .ok (.arraylength, 1) := by decide +kernel
theorem own_d18_3 : decode jdk_43_method_2_code 3 = .ok (.invokestatic 9, 3) := by decide +kernel
theorem own_d18_6 : decode jdk_43_method_2_code 6 = .ok (.aload_n 0, 1) := by decide +kernel
theorem own_d18_7 : decode jdk_43_method_2_code 7 = .ok (.iload_n 1, 1) := by decide +kernel
theorem own_d18_8 : decode jdk_43_method_2_code 8 = .ok (.baload, 1) := by decide +kernel
theorem own_d18_9 : decode jdk_43_method_2_code 9 = .ok (.sipush 255, 3) := by decide +kernel
theorem own_d18_12 : decode jdk_43_method_2_code 12 = .ok (.iand, 1) := by decide +kernel
theorem own_d18_13 : decode jdk_43_method_2_code 13 = .ok (.i2c, 1) := by decide +kernel
theorem own_d18_14 : decode jdk_43_method_2_code 14 = .ok (.ireturn, 1) := by decide +kernel
theorem own_pn4 : plainName "java/lang/StringLatin1" = true := by first | (simp [plainName, overriddenIn]; done) | decide +kernel
theorem own_pd7 : parseMethodDescriptor "(II)V" = some ⟨[.int, .int], none⟩ := by decide +kernel
theorem own_ef18i0 (m : MethodId) (o1 : Addr) : entryFrame m #[(.ref o1), (.int (0 : Int32))] 2 = mkF m 0 #[.val (.ref o1), .val (.int (0 : Int32))] [] := by first | (simp [entryFrame, mkF, argsToLocals, Value.category]; done) | rfl
def own_Q18i0 (Z : State) (cs : Int32) (S_cs : Sta Z Z.heap "java/lang/String" "COMPACT_STRINGS" "Z" (.int cs)) (hcs : ¬ cs = (0 : Int32)) (sf : Value) (S_sf : Sta Z Z.heap "jdk/internal/util/Preconditions" "SIOOBE_FORMATTER" "Ljava/util/function/BiFunction;" sf) (hsf : sf.isRef = true) (o1 : Addr) (kb : ClassId) (n : Int32) (x : Int32) (y : Int32) (h0 : Heap) (n0 : Nat) (v : Option Value) (h : Heap) (L : List Loc) : Prop := v = some (.int (own_ch x)) ∧ Fr n0 L ∧ h = h0
set_option maxRecDepth 65536 in
set_option maxHeartbeats 40000000 in
theorem own_rm18i0 (l : Launch) (Z : State) (a0 : Array Value) (hw : ∀ d ∈ tables_1, d.before a0 Z = true) (ws : List Jvm.Cond) (cs : Int32) (S_cs : Sta Z Z.heap "java/lang/String" "COMPACT_STRINGS" "Z" (.int cs)) (hcs : ¬ cs = (0 : Int32)) (sf : Value) (S_sf : Sta Z Z.heap "jdk/internal/util/Preconditions" "SIOOBE_FORMATTER" "Ljava/util/function/BiFunction;" sf) (hsf : sf.isRef = true) (o1 : Addr) (kb : ClassId) (n : Int32) (x : Int32) (y : Int32) (h0 : Heap) (n0 : Nat) (Z0 : n0 ≤ h0.size) (pV1 : Arv Z h0 o1 kb .byte n (own_sl n x y) (.int (0 : Int32))) (O0 : Old Z n0 h0) (hn : own_N n) :
    MetFree l (⟨"java/lang/StringLatin1", "charAt", "([BI)C"⟩ : MethodName) (head1 (Jvm.Cond.code (⟨"java/lang/StringLatin1", "charAt", "([BI)C"⟩ : MethodName) jdk_43_method_2_code 2 (some .char) :: ws) ({ frames := 2, cells := 0, slots := 0, locals := 27 } : Room)) (fun a U => a = #[(.ref o1), (.int (0 : Int32))] ∧ Z.Warmed39 U.vm ∧ U.heap = h0) (fun _ _ _ _ _ => True) (fun _ U o U' => ∃ v L, o = .returned v ∧ own_Q18i0 Z cs S_cs hcs sf S_sf hsf o1 kb n x y h0 n0 v U'.heap L ∧ FrameEnd U o U' L ({ frames := 2, cells := 0, slots := 0, locals := 27 } : Room).cells ({ frames := 2, cells := 0, slots := 0, locals := 27 } : Room).slots) := by
  refine MetFree.of_bodySF (plainFor_of_name own_pn4) hisR ?_
  intro p e s m args below meth c s₁ Bd hml0 hP hK
  obtain ⟨rfl, hZ, hh⟩ := hP
  have hx := Bd.exec
  have hby := Bd.bytes
  have hlk := Bd.notSynchronized
  have hrt := Bd.returns
  have hml : c.maxLocals = 2 := hml0
  have hown : s.vm.findClass "java/lang/StringLatin1" = some m.cls := findClass_of_methodNamed Bd.named
  have hnm := (name_of_methodNamed Bd.named Bd.method).1
  have X0 : Stand p l e ({ frames := 2, cells := 0, slots := 0, locals := 27 } : Room) s m #[(.ref o1), (.int (0 : Int32))] below meth c s₁ [] 0 0 := Stand.of_body Bd
  have e0 : s₁.heap = h0 := by rw [← hh, Bd.state]; rfl
  have N0 := Fr.nil n0
  refine own_in (own_ef18i0 m o1) ?_
  refine own_iloadN X0 hx 1 (hb hby own_d18_0) rfl ?_
  refine own_aloadN X0 hx 2 (hb hby own_d18_1) rfl rfl ?_
  obtain ⟨cl1, Ar1, qv1, S1, M1, H1, G1⟩ := id pV1
  have ln1 := len_of S1 M1
  refine own_st (G' := s₁.setTop (mkF m 3 #[.val (.ref o1), .val (.int (0 : Int32))] [(.int n), (.int (0 : Int32))])) (fun t k => X0.arraylength hx (by rw [e0]; exact Ar1.1) (State.isArrayOf_alike hZ.alike Ar1.2.1) (g := (mkF m 2 #[.val (.ref o1), .val (.int (0 : Int32))] [(.ref o1), (.int (0 : Int32))])) rfl rfl (hb hby own_d18_2) _ (by rw [ln1]; exact k)) ?_
  obtain ⟨_, _, ⟨T2, Lx2, kc2, nc2⟩, -, X2, ⟨Lc2, hQ2, lq2, yq2, zq2⟩, st2⟩ := Jvm.LawKit.callS X0 hx (y := (⟨"java/lang/String", "checkIndex", "(II)V"⟩ : MethodName)) hown (mvT hZ (hw _ (List.mem_of_getElem? (i := 93) rfl))) (mvT hZ (hw _ (List.mem_of_getElem? (i := 94) rfl))) (mvT hZ (hw _ (List.mem_of_getElem? (i := 7) rfl))) (mvT hZ (hw _ (List.mem_of_getElem? (i := 95) rfl))) (by decide) (backOf (W := 0) (own_rm19 l Z a0 hw [] cs S_cs hcs sf S_sf hsf (0 : Int32) n h0 n0 Z0 (by decide : ¬ (0 : Int32) < 0) ((own_in0 hn).2 : (0 : Int32) < n) O0) hZ (hw _ (List.mem_of_getElem? (i := 95) rfl)) (hw _ (List.mem_of_getElem? (i := 7) rfl)) (by decide) (by decide)) (g := (mkF m 3 #[.val (.ref o1), .val (.int (0 : Int32))] [(.int n), (.int (0 : Int32))])) rfl (by rw [hml]; rfl) (argsL := [(.int (0 : Int32)), (.int n)]) (rest := []) (lenOf own_pd7 rfl) rfl (by show 2 * 0 + _ ≤ _; exact Nat.le_of_eq rfl) (hb hby own_d18_3) (fun _ _ => ⟨rfl, e0, (by decide : 0 + 0 ≤ _), (by decide : 0 + 0 ≤ _)⟩)
  dsimp only [Pt.U, Pt.locs, Pt.cells, Pt.slots] at X2 lq2 yq2 zq2 st2 hQ2
  subst lq2 yq2 zq2
  obtain ⟨rfl, Nq2, eh2⟩ := hQ2
  have N2 := Fr.app N0 Nq2
  refine own_st (G' := T2.setTop (mkF m 6 #[.val (.ref o1), .val (.int (0 : Int32))] [])) st2 ?_
  obtain ⟨_, X2h, N2h⟩ := own_hide X2 N2
  refine own_aloadN X2h hx 7 (hb hby own_d18_6) rfl rfl ?_
  refine own_iloadN X2h hx 8 (hb hby own_d18_7) rfl ?_
  obtain ⟨cl3, Ar3, qv3, S3, M3, H3, G3⟩ := id pV1
  have hin3 : ¬ ((0 : Int32) < 0 ∨ cl3.slots.size ≤ ((0 : Int32)).toNatClampNeg) := inb_of S3 (own_in0 hn)
  refine own_st (G' := T2.setTop (mkF m 9 #[.val (.ref o1), .val (.int (0 : Int32))] [(.int x)])) (fun t k => X2h.baloadBytes hx (j := (0 : Int32)) (v := (.int x)) (by rw [eh2]; exact Ar3.1) (State.isArrayOf_alike hZ.alike Ar3.2.1) Ar3.2.2 hin3 (H3.at hin3 (own_el0 _ _ _ _)) (g := (mkF m 8 #[.val (.ref o1), .val (.int (0 : Int32))] [(.int (0 : Int32)), (.ref o1)])) rfl rfl (hb hby own_d18_8) _ k) ?_
  refine own_sipush X2h hx 12 (255 : Int32) (hb hby own_d18_9) rfl ?_
  refine own_iand X2h hx 13 (hb hby own_d18_12) ?_
  refine own_i2c X2h hx 14 (hb hby own_d18_13) ?_
  exact own_retN (t := .char) (z := ((x &&& (255 : Int32)).toUInt32.toUInt16.toUInt32.toInt32)) (Q := own_Q18i0 Z cs S_cs hcs sf S_sf hsf o1 kb n x y h0 n0) X2h hx hrt (by simp) (hb hby own_d18_14) hlk eh2 ⟨rfl, N2h, rfl⟩ (by decide) (by decide)
theorem own_d16_0 : decode jdk_42_method_56_code 0 = .ok (.aload_n 0, 1) := by decide +kernel
theorem own_d16_1 : decode jdk_42_method_56_code 1 = .ok (.invokevirtual 492, 3) := by decide +kernel
theorem own_d16_4 : decode jdk_42_method_56_code 4 = .ok (.ifCond .eq 12, 3) := by decide +kernel
theorem own_d16_7 : decode jdk_42_method_56_code 7 = .ok (.aload_n 0, 1) := by decide +kernel
theorem own_d16_8 : decode jdk_42_method_56_code 8 = .ok (.getfield 9, 3) := by decide +kernel
theorem own_d16_11 : decode jdk_42_method_56_code 11 = .ok (.iload_n 1, 1) := by decide +kernel
theorem own_d16_12 : decode jdk_42_method_56_code 12 = .ok (.invokestatic 495, 3) := by decide +kernel
theorem own_d16_15 : decode jdk_42_method_56_code 15 = .ok (.ireturn, 1) := by decide +kernel
theorem own_pd8 : parseMethodDescriptor "()Z" = some ⟨[], some .boolean⟩ := by decide +kernel
theorem own_pd9 : parseMethodDescriptor "([BI)C" = some ⟨[(.array .byte), .int], some .char⟩ := by decide +kernel
theorem own_ef16i0 (m : MethodId) (o1 : Addr) : entryFrame m #[(.ref o1), (.int (0 : Int32))] 2 = mkF m 0 #[.val (.ref o1), .val (.int (0 : Int32))] [] := by first | (simp [entryFrame, mkF, argsToLocals, Value.category]; done) | rfl
def own_Q16i0 (Z : State) (cs : Int32) (S_cs : Sta Z Z.heap "java/lang/String" "COMPACT_STRINGS" "Z" (.int cs)) (hcs : ¬ cs = (0 : Int32)) (sf : Value) (S_sf : Sta Z Z.heap "jdk/internal/util/Preconditions" "SIOOBE_FORMATTER" "Ljava/util/function/BiFunction;" sf) (hsf : sf.isRef = true) (o1 : Addr) (b : Addr) (kb : ClassId) (n : Int32) (x : Int32) (y : Int32) (h0 : Heap) (n0 : Nat) (v : Option Value) (h : Heap) (L : List Loc) : Prop := v = some (.int (own_ch x)) ∧ Fr n0 L ∧ h = h0
set_option maxRecDepth 65536 in
set_option maxHeartbeats 40000000 in
theorem own_rm16i0 (l : Launch) (Z : State) (a0 : Array Value) (hw : ∀ d ∈ tables_1, d.before a0 Z = true) (ws : List Jvm.Cond) (cs : Int32) (S_cs : Sta Z Z.heap "java/lang/String" "COMPACT_STRINGS" "Z" (.int cs)) (hcs : ¬ cs = (0 : Int32)) (sf : Value) (S_sf : Sta Z Z.heap "jdk/internal/util/Preconditions" "SIOOBE_FORMATTER" "Ljava/util/function/BiFunction;" sf) (hsf : sf.isRef = true) (o1 : Addr) (b : Addr) (kb : ClassId) (n : Int32) (x : Int32) (y : Int32) (h0 : Heap) (n0 : Nat) (Z0 : n0 ≤ h0.size) (pE1 : Exa Z h0 o1 "java/lang/String") (pF2 : Fld Z h0 o1 "java/lang/String" "value" "[B" (.ref b)) (pF3 : Fld Z h0 o1 "java/lang/String" "coder" "B" (.int (0 : Int32))) (pV4 : Arv Z h0 b kb .byte n (own_sl n x y) (.int (0 : Int32))) (O0 : Old Z n0 h0) (hn : own_N n) :
    MetFree l (⟨"java/lang/String", "charAt", "(I)C"⟩ : MethodName) (head1 (Jvm.Cond.code (⟨"java/lang/String", "charAt", "(I)C"⟩ : MethodName) jdk_42_method_56_code 2 (some .char) :: ws) ({ frames := 3, cells := 0, slots := 0, locals := 40 } : Room)) (fun a U => a = #[(.ref o1), (.int (0 : Int32))] ∧ Z.Warmed39 U.vm ∧ U.heap = h0) (fun _ _ _ _ _ => True) (fun _ U o U' => ∃ v L, o = .returned v ∧ own_Q16i0 Z cs S_cs hcs sf S_sf hsf o1 b kb n x y h0 n0 v U'.heap L ∧ FrameEnd U o U' L ({ frames := 3, cells := 0, slots := 0, locals := 40 } : Room).cells ({ frames := 3, cells := 0, slots := 0, locals := 40 } : Room).slots) := by
  refine MetFree.of_bodySF (plainFor_of_name own_pn1) hisR ?_
  intro p e s m args below meth c s₁ Bd hml0 hP hK
  obtain ⟨rfl, hZ, hh⟩ := hP
  have hx := Bd.exec
  have hby := Bd.bytes
  have hlk := Bd.notSynchronized
  have hrt := Bd.returns
  have hml : c.maxLocals = 2 := hml0
  have hown : s.vm.findClass "java/lang/String" = some m.cls := findClass_of_methodNamed Bd.named
  have hnm := (name_of_methodNamed Bd.named Bd.method).1
  have X0 : Stand p l e ({ frames := 3, cells := 0, slots := 0, locals := 40 } : Room) s m #[(.ref o1), (.int (0 : Int32))] below meth c s₁ [] 0 0 := Stand.of_body Bd
  have e0 : s₁.heap = h0 := by rw [← hh, Bd.state]; rfl
  have N0 := Fr.nil n0
  refine own_in (own_ef16i0 m o1) ?_
  refine own_aloadN X0 hx 1 (hb hby own_d16_0) rfl rfl ?_
  obtain ⟨cq1, kq1, q1a, q1b, q1c⟩ := isOf hZ e0 pE1
  obtain ⟨_, _, ⟨T1, Lx1, kc1, nc1⟩, -, X1, ⟨Lc1, hQ1, lq1, yq1, zq1⟩, st1⟩ := X0.virtualBack hx (y := (⟨"java/lang/String", "isLatin1", "()Z"⟩ : MethodName)) (z := (⟨"java/lang/String", "isLatin1", "()Z"⟩ : MethodName)) hown (mvT hZ (hw _ (List.mem_of_getElem? (i := 84) rfl))) (mvT hZ (hw _ (List.mem_of_getElem? (i := 85) rfl))) (notFace_of_selects (args := #[]) (mvT hZ (hw _ (List.mem_of_getElem? (i := 87) rfl)))) (mvT hZ (hw _ (List.mem_of_getElem? (i := 87) rfl))) (mvT hZ (hw _ (List.mem_of_getElem? (i := 86) rfl))) (by decide) (backOf (W := 0) (own_rm17 l Z a0 hw [] cs S_cs hcs sf S_sf hsf o1 h0 n0 Z0 pF3 O0) hZ (hw _ (List.mem_of_getElem? (i := 88) rfl)) (hw _ (List.mem_of_getElem? (i := 7) rfl)) (by decide) (by decide)) q1a q1c (g := (mkF m 1 #[.val (.ref o1), .val (.int (0 : Int32))] [(.ref o1)])) rfl (by rw [hml]; rfl) (Steps.refl _) (argsL := []) (rest := []) (lenOf own_pd8 rfl) rfl (by show 2 * 0 + _ ≤ _; exact Nat.le_of_eq rfl) (hb hby own_d16_1) (fun _ _ => ⟨rfl, e0, (by decide : 0 + 0 ≤ _), (by decide : 0 + 0 ≤ _)⟩)
  dsimp only [Pt.U, Pt.locs, Pt.cells, Pt.slots] at X1 lq1 yq1 zq1 st1 hQ1
  subst lq1 yq1 zq1
  obtain ⟨rfl, Nq1, eh1⟩ := hQ1
  have N1 := Fr.app N0 Nq1
  refine own_st (G' := T1.setTop (mkF m 4 #[.val (.ref o1), .val (.int (0 : Int32))] [(.int (1 : Int32))])) (fun t k => st1.trans k) ?_
  obtain ⟨_, X1h, N1h⟩ := own_hide X1 N1
  refine own_ifNo X1h hx 7 (hb hby own_d16_4) (feq (by decide : ¬ ((1 : Int32) = (0 : Int32)))).1 ?_
  refine own_aloadN X1h hx 8 (hb hby own_d16_7) rfl rfl ?_
  obtain ⟨T2, X2, e2, st2⟩ := getF X1h hx hZ hown (host := "") (Or.inl (hw _ (List.mem_of_getElem? (i := 32) rfl))) Via.refl eh1 pF2 (g := (mkF m 8 #[.val (.ref o1), .val (.int (0 : Int32))] [(.ref o1)])) rfl rfl (hb hby own_d16_8)
  refine own_st (G' := T2.setTop (mkF m 11 #[.val (.ref o1), .val (.int (0 : Int32))] [(.ref b)])) st2 ?_
  obtain ⟨_, X2h, N2h⟩ := own_hide X2 N1h
  refine own_iloadN X2h hx 12 (hb hby own_d16_11) rfl ?_
  obtain ⟨_, _, ⟨T3, Lx3, kc3, nc3⟩, -, X3, ⟨Lc3, hQ3, lq3, yq3, zq3⟩, st3⟩ := Jvm.LawKit.callS X2h hx (y := (⟨"java/lang/StringLatin1", "charAt", "([BI)C"⟩ : MethodName)) hown (mvT hZ (hw _ (List.mem_of_getElem? (i := 89) rfl))) (mvT hZ (hw _ (List.mem_of_getElem? (i := 90) rfl))) (mvT hZ (hw _ (List.mem_of_getElem? (i := 91) rfl))) (mvT hZ (hw _ (List.mem_of_getElem? (i := 92) rfl))) (by decide) (backOf (W := 0) (own_rm18i0 l Z a0 hw [] cs S_cs hcs sf S_sf hsf b kb n x y h0 n0 Z0 pV4 O0 (hn : own_N n)) hZ (hw _ (List.mem_of_getElem? (i := 92) rfl)) (hw _ (List.mem_of_getElem? (i := 91) rfl)) (by decide) (by decide)) (g := (mkF m 12 #[.val (.ref o1), .val (.int (0 : Int32))] [(.int (0 : Int32)), (.ref b)])) rfl (by rw [hml]; rfl) (argsL := [(.ref b), (.int (0 : Int32))]) (rest := []) (lenOf own_pd9 rfl) rfl (by show 2 * 0 + _ ≤ _; exact Nat.le_of_eq rfl) (hb hby own_d16_12) (fun _ _ => ⟨rfl, e2, (by decide : 0 + 0 ≤ _), (by decide : 0 + 0 ≤ _)⟩)
  dsimp only [Pt.U, Pt.locs, Pt.cells, Pt.slots] at X3 lq3 yq3 zq3 st3 hQ3
  subst lq3 yq3 zq3
  obtain ⟨rfl, Nq3, eh3⟩ := hQ3
  have N3 := Fr.app N2h Nq3
  refine own_st (G' := T3.setTop (mkF m 15 #[.val (.ref o1), .val (.int (0 : Int32))] [(.int (own_ch x))])) st3 ?_
  obtain ⟨_, X3h, N3h⟩ := own_hide X3 N3
  exact own_retN (t := .char) (z := (own_ch x)) (Q := own_Q16i0 Z cs S_cs hcs sf S_sf hsf o1 b kb n x y h0 n0) X3h hx hrt (by simp) (hb hby own_d16_15) hlk eh3 ⟨(own_leafI (own_ch2 _)), N3h, rfl⟩ (by decide) (by decide)
theorem own_ef18i1 (m : MethodId) (o1 : Addr) : entryFrame m #[(.ref o1), (.int (1 : Int32))] 2 = mkF m 0 #[.val (.ref o1), .val (.int (1 : Int32))] [] := by first | (simp [entryFrame, mkF, argsToLocals, Value.category]; done) | rfl
def own_Q18i1 (Z : State) (cs : Int32) (S_cs : Sta Z Z.heap "java/lang/String" "COMPACT_STRINGS" "Z" (.int cs)) (hcs : ¬ cs = (0 : Int32)) (sf : Value) (S_sf : Sta Z Z.heap "jdk/internal/util/Preconditions" "SIOOBE_FORMATTER" "Ljava/util/function/BiFunction;" sf) (hsf : sf.isRef = true) (o1 : Addr) (kb : ClassId) (n : Int32) (x : Int32) (y : Int32) (h0 : Heap) (n0 : Nat) (v : Option Value) (h : Heap) (L : List Loc) : Prop := v = some (.int (own_ch y)) ∧ Fr n0 L ∧ h = h0
set_option maxRecDepth 65536 in
set_option maxHeartbeats 40000000 in
theorem own_rm18i1 (l : Launch) (Z : State) (a0 : Array Value) (hw : ∀ d ∈ tables_1, d.before a0 Z = true) (ws : List Jvm.Cond) (cs : Int32) (S_cs : Sta Z Z.heap "java/lang/String" "COMPACT_STRINGS" "Z" (.int cs)) (hcs : ¬ cs = (0 : Int32)) (sf : Value) (S_sf : Sta Z Z.heap "jdk/internal/util/Preconditions" "SIOOBE_FORMATTER" "Ljava/util/function/BiFunction;" sf) (hsf : sf.isRef = true) (o1 : Addr) (kb : ClassId) (n : Int32) (x : Int32) (y : Int32) (h0 : Heap) (n0 : Nat) (Z0 : n0 ≤ h0.size) (pV1 : Arv Z h0 o1 kb .byte n (own_sl n x y) (.int (0 : Int32))) (O0 : Old Z n0 h0) (hn : own_N n) (h2 : n = (2 : Int32)) :
    MetFree l (⟨"java/lang/StringLatin1", "charAt", "([BI)C"⟩ : MethodName) (head1 (Jvm.Cond.code (⟨"java/lang/StringLatin1", "charAt", "([BI)C"⟩ : MethodName) jdk_43_method_2_code 2 (some .char) :: ws) ({ frames := 2, cells := 0, slots := 0, locals := 27 } : Room)) (fun a U => a = #[(.ref o1), (.int (1 : Int32))] ∧ Z.Warmed39 U.vm ∧ U.heap = h0) (fun _ _ _ _ _ => True) (fun _ U o U' => ∃ v L, o = .returned v ∧ own_Q18i1 Z cs S_cs hcs sf S_sf hsf o1 kb n x y h0 n0 v U'.heap L ∧ FrameEnd U o U' L ({ frames := 2, cells := 0, slots := 0, locals := 27 } : Room).cells ({ frames := 2, cells := 0, slots := 0, locals := 27 } : Room).slots) := by
  refine MetFree.of_bodySF (plainFor_of_name own_pn4) hisR ?_
  intro p e s m args below meth c s₁ Bd hml0 hP hK
  obtain ⟨rfl, hZ, hh⟩ := hP
  have hx := Bd.exec
  have hby := Bd.bytes
  have hlk := Bd.notSynchronized
  have hrt := Bd.returns
  have hml : c.maxLocals = 2 := hml0
  have hown : s.vm.findClass "java/lang/StringLatin1" = some m.cls := findClass_of_methodNamed Bd.named
  have hnm := (name_of_methodNamed Bd.named Bd.method).1
  have X0 : Stand p l e ({ frames := 2, cells := 0, slots := 0, locals := 27 } : Room) s m #[(.ref o1), (.int (1 : Int32))] below meth c s₁ [] 0 0 := Stand.of_body Bd
  have e0 : s₁.heap = h0 := by rw [← hh, Bd.state]; rfl
  have N0 := Fr.nil n0
  refine own_in (own_ef18i1 m o1) ?_
  refine own_iloadN X0 hx 1 (hb hby own_d18_0) rfl ?_
  refine own_aloadN X0 hx 2 (hb hby own_d18_1) rfl rfl ?_
  obtain ⟨cl1, Ar1, qv1, S1, M1, H1, G1⟩ := id pV1
  have ln1 := len_of S1 M1
  refine own_st (G' := s₁.setTop (mkF m 3 #[.val (.ref o1), .val (.int (1 : Int32))] [(.int n), (.int (1 : Int32))])) (fun t k => X0.arraylength hx (by rw [e0]; exact Ar1.1) (State.isArrayOf_alike hZ.alike Ar1.2.1) (g := (mkF m 2 #[.val (.ref o1), .val (.int (1 : Int32))] [(.ref o1), (.int (1 : Int32))])) rfl rfl (hb hby own_d18_2) _ (by rw [ln1]; exact k)) ?_
  obtain ⟨_, _, ⟨T2, Lx2, kc2, nc2⟩, -, X2, ⟨Lc2, hQ2, lq2, yq2, zq2⟩, st2⟩ := Jvm.LawKit.callS X0 hx (y := (⟨"java/lang/String", "checkIndex", "(II)V"⟩ : MethodName)) hown (mvT hZ (hw _ (List.mem_of_getElem? (i := 93) rfl))) (mvT hZ (hw _ (List.mem_of_getElem? (i := 94) rfl))) (mvT hZ (hw _ (List.mem_of_getElem? (i := 7) rfl))) (mvT hZ (hw _ (List.mem_of_getElem? (i := 95) rfl))) (by decide) (backOf (W := 0) (own_rm19 l Z a0 hw [] cs S_cs hcs sf S_sf hsf (1 : Int32) n h0 n0 Z0 (by decide : ¬ (1 : Int32) < 0) ((own_in1 h2).2 : (1 : Int32) < n) O0) hZ (hw _ (List.mem_of_getElem? (i := 95) rfl)) (hw _ (List.mem_of_getElem? (i := 7) rfl)) (by decide) (by decide)) (g := (mkF m 3 #[.val (.ref o1), .val (.int (1 : Int32))] [(.int n), (.int (1 : Int32))])) rfl (by rw [hml]; rfl) (argsL := [(.int (1 : Int32)), (.int n)]) (rest := []) (lenOf own_pd7 rfl) rfl (by show 2 * 0 + _ ≤ _; exact Nat.le_of_eq rfl) (hb hby own_d18_3) (fun _ _ => ⟨rfl, e0, (by decide : 0 + 0 ≤ _), (by decide : 0 + 0 ≤ _)⟩)
  dsimp only [Pt.U, Pt.locs, Pt.cells, Pt.slots] at X2 lq2 yq2 zq2 st2 hQ2
  subst lq2 yq2 zq2
  obtain ⟨rfl, Nq2, eh2⟩ := hQ2
  have N2 := Fr.app N0 Nq2
  refine own_st (G' := T2.setTop (mkF m 6 #[.val (.ref o1), .val (.int (1 : Int32))] [])) st2 ?_
  obtain ⟨_, X2h, N2h⟩ := own_hide X2 N2
  refine own_aloadN X2h hx 7 (hb hby own_d18_6) rfl rfl ?_
  refine own_iloadN X2h hx 8 (hb hby own_d18_7) rfl ?_
  obtain ⟨cl3, Ar3, qv3, S3, M3, H3, G3⟩ := id pV1
  have hin3 : ¬ ((1 : Int32) < 0 ∨ cl3.slots.size ≤ ((1 : Int32)).toNatClampNeg) := inb_of S3 (own_in1 h2)
  refine own_st (G' := T2.setTop (mkF m 9 #[.val (.ref o1), .val (.int (1 : Int32))] [(.int y)])) (fun t k => X2h.baloadBytes hx (j := (1 : Int32)) (v := (.int y)) (by rw [eh2]; exact Ar3.1) (State.isArrayOf_alike hZ.alike Ar3.2.1) Ar3.2.2 hin3 (H3.at hin3 (own_el1 h2 _ _ _)) (g := (mkF m 8 #[.val (.ref o1), .val (.int (1 : Int32))] [(.int (1 : Int32)), (.ref o1)])) rfl rfl (hb hby own_d18_8) _ k) ?_
  refine own_sipush X2h hx 12 (255 : Int32) (hb hby own_d18_9) rfl ?_
  refine own_iand X2h hx 13 (hb hby own_d18_12) ?_
  refine own_i2c X2h hx 14 (hb hby own_d18_13) ?_
  exact own_retN (t := .char) (z := ((y &&& (255 : Int32)).toUInt32.toUInt16.toUInt32.toInt32)) (Q := own_Q18i1 Z cs S_cs hcs sf S_sf hsf o1 kb n x y h0 n0) X2h hx hrt (by simp) (hb hby own_d18_14) hlk eh2 ⟨rfl, N2h, rfl⟩ (by decide) (by decide)
theorem own_ef16i1 (m : MethodId) (o1 : Addr) : entryFrame m #[(.ref o1), (.int (1 : Int32))] 2 = mkF m 0 #[.val (.ref o1), .val (.int (1 : Int32))] [] := by first | (simp [entryFrame, mkF, argsToLocals, Value.category]; done) | rfl
def own_Q16i1 (Z : State) (cs : Int32) (S_cs : Sta Z Z.heap "java/lang/String" "COMPACT_STRINGS" "Z" (.int cs)) (hcs : ¬ cs = (0 : Int32)) (sf : Value) (S_sf : Sta Z Z.heap "jdk/internal/util/Preconditions" "SIOOBE_FORMATTER" "Ljava/util/function/BiFunction;" sf) (hsf : sf.isRef = true) (o1 : Addr) (b : Addr) (kb : ClassId) (n : Int32) (x : Int32) (y : Int32) (h0 : Heap) (n0 : Nat) (v : Option Value) (h : Heap) (L : List Loc) : Prop := v = some (.int (own_ch y)) ∧ Fr n0 L ∧ h = h0
set_option maxRecDepth 65536 in
set_option maxHeartbeats 40000000 in
theorem own_rm16i1 (l : Launch) (Z : State) (a0 : Array Value) (hw : ∀ d ∈ tables_1, d.before a0 Z = true) (ws : List Jvm.Cond) (cs : Int32) (S_cs : Sta Z Z.heap "java/lang/String" "COMPACT_STRINGS" "Z" (.int cs)) (hcs : ¬ cs = (0 : Int32)) (sf : Value) (S_sf : Sta Z Z.heap "jdk/internal/util/Preconditions" "SIOOBE_FORMATTER" "Ljava/util/function/BiFunction;" sf) (hsf : sf.isRef = true) (o1 : Addr) (b : Addr) (kb : ClassId) (n : Int32) (x : Int32) (y : Int32) (h0 : Heap) (n0 : Nat) (Z0 : n0 ≤ h0.size) (pE1 : Exa Z h0 o1 "java/lang/String") (pF2 : Fld Z h0 o1 "java/lang/String" "value" "[B" (.ref b)) (pF3 : Fld Z h0 o1 "java/lang/String" "coder" "B" (.int (0 : Int32))) (pV4 : Arv Z h0 b kb .byte n (own_sl n x y) (.int (0 : Int32))) (O0 : Old Z n0 h0) (hn : own_N n) (h2 : n = (2 : Int32)) :
    MetFree l (⟨"java/lang/String", "charAt", "(I)C"⟩ : MethodName) (head1 (Jvm.Cond.code (⟨"java/lang/String", "charAt", "(I)C"⟩ : MethodName) jdk_42_method_56_code 2 (some .char) :: ws) ({ frames := 3, cells := 0, slots := 0, locals := 40 } : Room)) (fun a U => a = #[(.ref o1), (.int (1 : Int32))] ∧ Z.Warmed39 U.vm ∧ U.heap = h0) (fun _ _ _ _ _ => True) (fun _ U o U' => ∃ v L, o = .returned v ∧ own_Q16i1 Z cs S_cs hcs sf S_sf hsf o1 b kb n x y h0 n0 v U'.heap L ∧ FrameEnd U o U' L ({ frames := 3, cells := 0, slots := 0, locals := 40 } : Room).cells ({ frames := 3, cells := 0, slots := 0, locals := 40 } : Room).slots) := by
  refine MetFree.of_bodySF (plainFor_of_name own_pn1) hisR ?_
  intro p e s m args below meth c s₁ Bd hml0 hP hK
  obtain ⟨rfl, hZ, hh⟩ := hP
  have hx := Bd.exec
  have hby := Bd.bytes
  have hlk := Bd.notSynchronized
  have hrt := Bd.returns
  have hml : c.maxLocals = 2 := hml0
  have hown : s.vm.findClass "java/lang/String" = some m.cls := findClass_of_methodNamed Bd.named
  have hnm := (name_of_methodNamed Bd.named Bd.method).1
  have X0 : Stand p l e ({ frames := 3, cells := 0, slots := 0, locals := 40 } : Room) s m #[(.ref o1), (.int (1 : Int32))] below meth c s₁ [] 0 0 := Stand.of_body Bd
  have e0 : s₁.heap = h0 := by rw [← hh, Bd.state]; rfl
  have N0 := Fr.nil n0
  refine own_in (own_ef16i1 m o1) ?_
  refine own_aloadN X0 hx 1 (hb hby own_d16_0) rfl rfl ?_
  obtain ⟨cq1, kq1, q1a, q1b, q1c⟩ := isOf hZ e0 pE1
  obtain ⟨_, _, ⟨T1, Lx1, kc1, nc1⟩, -, X1, ⟨Lc1, hQ1, lq1, yq1, zq1⟩, st1⟩ := X0.virtualBack hx (y := (⟨"java/lang/String", "isLatin1", "()Z"⟩ : MethodName)) (z := (⟨"java/lang/String", "isLatin1", "()Z"⟩ : MethodName)) hown (mvT hZ (hw _ (List.mem_of_getElem? (i := 84) rfl))) (mvT hZ (hw _ (List.mem_of_getElem? (i := 85) rfl))) (notFace_of_selects (args := #[]) (mvT hZ (hw _ (List.mem_of_getElem? (i := 87) rfl)))) (mvT hZ (hw _ (List.mem_of_getElem? (i := 87) rfl))) (mvT hZ (hw _ (List.mem_of_getElem? (i := 86) rfl))) (by decide) (backOf (W := 0) (own_rm17 l Z a0 hw [] cs S_cs hcs sf S_sf hsf o1 h0 n0 Z0 pF3 O0) hZ (hw _ (List.mem_of_getElem? (i := 88) rfl)) (hw _ (List.mem_of_getElem? (i := 7) rfl)) (by decide) (by decide)) q1a q1c (g := (mkF m 1 #[.val (.ref o1), .val (.int (1 : Int32))] [(.ref o1)])) rfl (by rw [hml]; rfl) (Steps.refl _) (argsL := []) (rest := []) (lenOf own_pd8 rfl) rfl (by show 2 * 0 + _ ≤ _; exact Nat.le_of_eq rfl) (hb hby own_d16_1) (fun _ _ => ⟨rfl, e0, (by decide : 0 + 0 ≤ _), (by decide : 0 + 0 ≤ _)⟩)
  dsimp only [Pt.U, Pt.locs, Pt.cells, Pt.slots] at X1 lq1 yq1 zq1 st1 hQ1
  subst lq1 yq1 zq1
  obtain ⟨rfl, Nq1, eh1⟩ := hQ1
  have N1 := Fr.app N0 Nq1
  refine own_st (G' := T1.setTop (mkF m 4 #[.val (.ref o1), .val (.int (1 : Int32))] [(.int (1 : Int32))])) (fun t k => st1.trans k) ?_
  obtain ⟨_, X1h, N1h⟩ := own_hide X1 N1
  refine own_ifNo X1h hx 7 (hb hby own_d16_4) (feq (by decide : ¬ ((1 : Int32) = (0 : Int32)))).1 ?_
  refine own_aloadN X1h hx 8 (hb hby own_d16_7) rfl rfl ?_
  obtain ⟨T2, X2, e2, st2⟩ := getF X1h hx hZ hown (host := "") (Or.inl (hw _ (List.mem_of_getElem? (i := 32) rfl))) Via.refl eh1 pF2 (g := (mkF m 8 #[.val (.ref o1), .val (.int (1 : Int32))] [(.ref o1)])) rfl rfl (hb hby own_d16_8)
  refine own_st (G' := T2.setTop (mkF m 11 #[.val (.ref o1), .val (.int (1 : Int32))] [(.ref b)])) st2 ?_
  obtain ⟨_, X2h, N2h⟩ := own_hide X2 N1h
  refine own_iloadN X2h hx 12 (hb hby own_d16_11) rfl ?_
  obtain ⟨_, _, ⟨T3, Lx3, kc3, nc3⟩, -, X3, ⟨Lc3, hQ3, lq3, yq3, zq3⟩, st3⟩ := Jvm.LawKit.callS X2h hx (y := (⟨"java/lang/StringLatin1", "charAt", "([BI)C"⟩ : MethodName)) hown (mvT hZ (hw _ (List.mem_of_getElem? (i := 89) rfl))) (mvT hZ (hw _ (List.mem_of_getElem? (i := 90) rfl))) (mvT hZ (hw _ (List.mem_of_getElem? (i := 91) rfl))) (mvT hZ (hw _ (List.mem_of_getElem? (i := 92) rfl))) (by decide) (backOf (W := 0) (own_rm18i1 l Z a0 hw [] cs S_cs hcs sf S_sf hsf b kb n x y h0 n0 Z0 pV4 O0 (hn : own_N n) (h2 : n = (2 : Int32))) hZ (hw _ (List.mem_of_getElem? (i := 92) rfl)) (hw _ (List.mem_of_getElem? (i := 91) rfl)) (by decide) (by decide)) (g := (mkF m 12 #[.val (.ref o1), .val (.int (1 : Int32))] [(.int (1 : Int32)), (.ref b)])) rfl (by rw [hml]; rfl) (argsL := [(.ref b), (.int (1 : Int32))]) (rest := []) (lenOf own_pd9 rfl) rfl (by show 2 * 0 + _ ≤ _; exact Nat.le_of_eq rfl) (hb hby own_d16_12) (fun _ _ => ⟨rfl, e2, (by decide : 0 + 0 ≤ _), (by decide : 0 + 0 ≤ _)⟩)
  dsimp only [Pt.U, Pt.locs, Pt.cells, Pt.slots] at X3 lq3 yq3 zq3 st3 hQ3
  subst lq3 yq3 zq3
  obtain ⟨rfl, Nq3, eh3⟩ := hQ3
  have N3 := Fr.app N2h Nq3
  refine own_st (G' := T3.setTop (mkF m 15 #[.val (.ref o1), .val (.int (1 : Int32))] [(.int (own_ch y))])) st3 ?_
  obtain ⟨_, X3h, N3h⟩ := own_hide X3 N3
  exact own_retN (t := .char) (z := (own_ch y)) (Q := own_Q16i1 Z cs S_cs hcs sf S_sf hsf o1 b kb n x y h0 n0) X3h hx hrt (by simp) (hb hby own_d16_15) hlk eh3 ⟨(own_leafI (own_ch2 _)), N3h, rfl⟩ (by decide) (by decide)
theorem own_d15_0 : decode method_3_code 0 = .ok (.aload_n 0, 1) := by decide +kernel
theorem own_d15_1 : decode method_3_code 1 = .ok (.invokevirtual 12, 3) := by decide +kernel
theorem own_d15_4 : decode method_3_code 4 = .ok (.aload_n 1, 1) := by decide +kernel
theorem own_d15_5 : decode method_3_code 5 = .ok (.invokevirtual 12, 3) := by decide +kernel
theorem own_d15_8 : decode method_3_code 8 = .ok (.if_icmp .eq 5, 3) := by decide +kernel
theorem own_d15_11 : decode method_3_code 11 = .ok (.iconst 0, 1) := by decide +kernel
theorem own_d15_12 : decode method_3_code 12 = .ok (.ireturn, 1) := by decide +kernel
theorem own_d15_13 : decode method_3_code 13 = .ok (.aload_n 0, 1) := by decide +kernel
theorem own_d15_14 : decode method_3_code 14 = .ok (.iconst 0, 1) := by decide +kernel
theorem own_d15_15 : decode method_3_code 15 = .ok (.invokevirtual 16, 3) := by decide +kernel
theorem own_d15_18 : decode method_3_code 18 = .ok (.aload_n 1, 1) := by decide +kernel
theorem own_d15_19 : decode method_3_code 19 = .ok (.iconst 0, 1) := by decide +kernel
theorem own_d15_20 : decode method_3_code 20 = .ok (.invokevirtual 16, 3) := by decide +kernel
theorem own_d15_23 : decode method_3_code 23 = .ok (.if_icmp .eq 5, 3) := by decide +kernel
theorem own_d15_26 : decode method_3_code 26 = .ok (.iconst 0, 1) := by decide +kernel
theorem own_d15_27 : decode method_3_code 27 = .ok (.ireturn, 1) := by decide +kernel
theorem own_d15_28 : decode method_3_code 28 = .ok (.aload_n 0, 1) := by decide +kernel
theorem own_d15_29 : decode method_3_code 29 = .ok (.invokevirtual 12, 3) := by decide +kernel
theorem own_d15_32 : decode method_3_code 32 = .ok (.iconst 2, 1) := by decide +kernel
theorem own_d15_33 : decode method_3_code 33 = .ok (.if_icmp .ge 5, 3) := by decide +kernel
theorem own_d15_36 : decode method_3_code 36 = .ok (.iconst 1, 1) := by decide +kernel
theorem own_d15_37 : decode method_3_code 37 = .ok (.ireturn, 1) := by decide +kernel
theorem own_d15_38 : decode method_3_code 38 = .ok (.aload_n 0, 1) := by decide +kernel
theorem own_d15_39 : decode method_3_code 39 = .ok (.iconst 1, 1) := by decide +kernel
theorem own_d15_40 : decode method_3_code 40 = .ok (.invokevirtual 16, 3) := by decide +kernel
theorem own_d15_43 : decode method_3_code 43 = .ok (.aload_n 1, 1) := by decide +kernel
theorem own_d15_44 : decode method_3_code 44 = .ok (.iconst 1, 1) := by decide +kernel
theorem own_d15_45 : decode method_3_code 45 = .ok (.invokevirtual 16, 3) := by decide +kernel
theorem own_d15_48 : decode method_3_code 48 = .ok (.if_icmp .ne 7, 3) := by decide +kernel
theorem own_d15_51 : decode method_3_code 51 = .ok (.iconst 1, 1) := by decide +kernel
theorem own_d15_52 : decode method_3_code 52 = .ok (.goto 4, 3) := by decide +kernel
theorem own_d15_55 : decode method_3_code 55 = .ok (.iconst 0, 1) := by decide +kernel
theorem own_d15_56 : decode method_3_code 56 = .ok (.ireturn, 1) := by decide +kernel
theorem own_pd10 : parseMethodDescriptor "()I" = some ⟨[], some .int⟩ := by decide +kernel
theorem own_pd11 : parseMethodDescriptor "(I)C" = some ⟨[.int], some .char⟩ := by decide +kernel
theorem own_ef15 (m : MethodId) (o1 : Addr) (o2 : Addr) : entryFrame m #[(.ref o1), (.ref o2)] 2 = mkF m 0 #[.val (.ref o1), .val (.ref o2)] [] := by first | (simp [entryFrame, mkF, argsToLocals, Value.category]; done) | rfl
def own_Q15 (Z : State) (cs : Int32) (S_cs : Sta Z Z.heap "java/lang/String" "COMPACT_STRINGS" "Z" (.int cs)) (hcs : ¬ cs = (0 : Int32)) (sf : Value) (S_sf : Sta Z Z.heap "jdk/internal/util/Preconditions" "SIOOBE_FORMATTER" "Ljava/util/function/BiFunction;" sf) (hsf : sf.isRef = true) (o1 : Addr) (o2 : Addr) (b1 : Addr) (kb1 : ClassId) (n1 : Int32) (x1 : Int32) (y1 : Int32) (b2 : Addr) (kb2 : ClassId) (n2 : Int32) (x2 : Int32) (y2 : Int32) (h0 : Heap) (n0 : Nat) (v : Option Value) (h : Heap) (L : List Loc) : Prop := v = some (.int (own_eqB n1 x1 y1 n2 x2 y2)) ∧ Fr n0 L ∧ h = h0
set_option maxRecDepth 65536 in
set_option maxHeartbeats 40000000 in
theorem own_rm15 (l : Launch) (Z : State) (a0 : Array Value) (hw : ∀ d ∈ tables_1, d.before a0 Z = true) (ws : List Jvm.Cond) (cs : Int32) (S_cs : Sta Z Z.heap "java/lang/String" "COMPACT_STRINGS" "Z" (.int cs)) (hcs : ¬ cs = (0 : Int32)) (sf : Value) (S_sf : Sta Z Z.heap "jdk/internal/util/Preconditions" "SIOOBE_FORMATTER" "Ljava/util/function/BiFunction;" sf) (hsf : sf.isRef = true) (o1 : Addr) (o2 : Addr) (b1 : Addr) (kb1 : ClassId) (n1 : Int32) (x1 : Int32) (y1 : Int32) (b2 : Addr) (kb2 : ClassId) (n2 : Int32) (x2 : Int32) (y2 : Int32) (h0 : Heap) (n0 : Nat) (Z0 : n0 ≤ h0.size) (pE1 : Exa Z h0 o1 "java/lang/String") (pF2 : Fld Z h0 o1 "java/lang/String" "value" "[B" (.ref b1)) (pF3 : Fld Z h0 o1 "java/lang/String" "coder" "B" (.int (0 : Int32))) (pV4 : Arv Z h0 b1 kb1 .byte n1 (own_sl n1 x1 y1) (.int (0 : Int32))) (pE5 : Exa Z h0 o2 "java/lang/String") (pF6 : Fld Z h0 o2 "java/lang/String" "value" "[B" (.ref b2)) (pF7 : Fld Z h0 o2 "java/lang/String" "coder" "B" (.int (0 : Int32))) (pV8 : Arv Z h0 b2 kb2 .byte n2 (own_sl n2 x2 y2) (.int (0 : Int32))) (O0 : Old Z n0 h0) (hn1 : own_N n1) (hn2 : own_N n2) (hb1 : own_B x1 ∧ own_B y1) (hb2 : own_B x2 ∧ own_B y2) :
    MetFree l (⟨"com/example/fates/fates/KeyEqualsPinLaw", "same", "(Ljava/lang/String;Ljava/lang/String;)Z"⟩ : MethodName) (head1 (Jvm.Cond.code (⟨"com/example/fates/fates/KeyEqualsPinLaw", "same", "(Ljava/lang/String;Ljava/lang/String;)Z"⟩ : MethodName) method_3_code 2 (some .boolean) :: ws) ({ frames := 4, cells := 0, slots := 0, locals := 54 } : Room)) (fun a U => a = #[(.ref o1), (.ref o2)] ∧ Z.Warmed39 U.vm ∧ U.heap = h0) (fun _ _ _ _ _ => True) (fun _ U o U' => ∃ v L, o = .returned v ∧ own_Q15 Z cs S_cs hcs sf S_sf hsf o1 o2 b1 kb1 n1 x1 y1 b2 kb2 n2 x2 y2 h0 n0 v U'.heap L ∧ FrameEnd U o U' L ({ frames := 4, cells := 0, slots := 0, locals := 54 } : Room).cells ({ frames := 4, cells := 0, slots := 0, locals := 54 } : Room).slots) := by
  refine MetFree.of_bodySF (plainFor_of_name own_pn2) hisR ?_
  intro p e s m args below meth c s₁ Bd hml0 hP hK
  obtain ⟨rfl, hZ, hh⟩ := hP
  have hx := Bd.exec
  have hby := Bd.bytes
  have hlk := Bd.notSynchronized
  have hrt := Bd.returns
  have hml : c.maxLocals = 2 := hml0
  have hown : s.vm.findClass "com/example/fates/fates/KeyEqualsPinLaw" = some m.cls := findClass_of_methodNamed Bd.named
  have hnm := (name_of_methodNamed Bd.named Bd.method).1
  have X0 : Stand p l e ({ frames := 4, cells := 0, slots := 0, locals := 54 } : Room) s m #[(.ref o1), (.ref o2)] below meth c s₁ [] 0 0 := Stand.of_body Bd
  have e0 : s₁.heap = h0 := by rw [← hh, Bd.state]; rfl
  have N0 := Fr.nil n0
  refine own_in (own_ef15 m o1 o2) ?_
  refine own_aloadN X0 hx 1 (hb hby own_d15_0) rfl rfl ?_
  obtain ⟨cq1, kq1, q1a, q1b, q1c⟩ := isOf hZ e0 pE1
  obtain ⟨_, _, ⟨T1, Lx1, kc1, nc1⟩, -, X1, ⟨Lc1, hQ1, lq1, yq1, zq1⟩, st1⟩ := X0.virtualBack hx (y := (⟨"java/lang/String", "length", "()I"⟩ : MethodName)) (z := (⟨"java/lang/String", "length", "()I"⟩ : MethodName)) hown (mvT hZ (hw _ (List.mem_of_getElem? (i := 78) rfl))) (mvT hZ (hw _ (List.mem_of_getElem? (i := 61) rfl))) (notFace_of_selects (args := #[]) (mvT hZ (hw _ (List.mem_of_getElem? (i := 63) rfl)))) (mvT hZ (hw _ (List.mem_of_getElem? (i := 63) rfl))) (mvT hZ (hw _ (List.mem_of_getElem? (i := 62) rfl))) (by decide) (backOf (W := 0) (own_rm13 l Z a0 hw [] cs S_cs hcs sf S_sf hsf o1 b1 kb1 n1 x1 y1 h0 n0 Z0 pE1 pF2 pF3 pV4 O0) hZ (hw _ (List.mem_of_getElem? (i := 64) rfl)) (hw _ (List.mem_of_getElem? (i := 7) rfl)) (by decide) (by decide)) q1a q1c (g := (mkF m 1 #[.val (.ref o1), .val (.ref o2)] [(.ref o1)])) rfl (by rw [hml]; rfl) (Steps.refl _) (argsL := []) (rest := []) (lenOf own_pd10 rfl) rfl (by show 2 * 0 + _ ≤ _; exact Nat.le_of_eq rfl) (hb hby own_d15_1) (fun _ _ => ⟨rfl, e0, (by decide : 0 + 0 ≤ _), (by decide : 0 + 0 ≤ _)⟩)
  dsimp only [Pt.U, Pt.locs, Pt.cells, Pt.slots] at X1 lq1 yq1 zq1 st1 hQ1
  subst lq1 yq1 zq1
  obtain ⟨rfl, Nq1, eh1⟩ := hQ1
  have N1 := Fr.app N0 Nq1
  refine own_st (G' := T1.setTop (mkF m 4 #[.val (.ref o1), .val (.ref o2)] [(.int n1)])) (fun t k => st1.trans k) ?_
  obtain ⟨_, X1h, N1h⟩ := own_hide X1 N1
  refine own_aloadN X1h hx 5 (hb hby own_d15_4) rfl rfl ?_
  obtain ⟨cq2, kq2, q2a, q2b, q2c⟩ := isOf hZ eh1 pE5
  obtain ⟨_, _, ⟨T2, Lx2, kc2, nc2⟩, -, X2, ⟨Lc2, hQ2, lq2, yq2, zq2⟩, st2⟩ := X1h.virtualBack hx (y := (⟨"java/lang/String", "length", "()I"⟩ : MethodName)) (z := (⟨"java/lang/String", "length", "()I"⟩ : MethodName)) hown (mvT hZ (hw _ (List.mem_of_getElem? (i := 78) rfl))) (mvT hZ (hw _ (List.mem_of_getElem? (i := 61) rfl))) (notFace_of_selects (args := #[]) (mvT hZ (hw _ (List.mem_of_getElem? (i := 63) rfl)))) (mvT hZ (hw _ (List.mem_of_getElem? (i := 63) rfl))) (mvT hZ (hw _ (List.mem_of_getElem? (i := 62) rfl))) (by decide) (backOf (W := 1) (own_rm13 l Z a0 hw [] cs S_cs hcs sf S_sf hsf o2 b2 kb2 n2 x2 y2 h0 n0 Z0 pE5 pF6 pF7 pV8 O0) hZ (hw _ (List.mem_of_getElem? (i := 64) rfl)) (hw _ (List.mem_of_getElem? (i := 7) rfl)) (by decide) (by decide)) q2a q2c (g := (mkF m 5 #[.val (.ref o1), .val (.ref o2)] [(.ref o2), (.int n1)])) rfl (by rw [hml]; rfl) (Steps.refl _) (argsL := []) (rest := [(.int n1)]) (lenOf own_pd10 rfl) rfl (by show 2 * 0 + _ ≤ _; exact Nat.le_of_eq rfl) (hb hby own_d15_5) (fun _ _ => ⟨rfl, eh1, (by decide : 0 + 0 ≤ _), (by decide : 0 + 0 ≤ _)⟩)
  dsimp only [Pt.U, Pt.locs, Pt.cells, Pt.slots] at X2 lq2 yq2 zq2 st2 hQ2
  subst lq2 yq2 zq2
  obtain ⟨rfl, Nq2, eh2⟩ := hQ2
  have N2 := Fr.app N1h Nq2
  refine own_st (G' := T2.setTop (mkF m 8 #[.val (.ref o1), .val (.ref o2)] [(.int n2), (.int n1)])) (fun t k => st2.trans k) ?_
  obtain ⟨_, X2h, N2h⟩ := own_hide X2 N2
  by_cases hc8_3 : n1 = n2
  · refine own_icmpYes X2h hx 13 (hb hby own_d15_8) (teq hc8_3).1 ?_
    refine own_aloadN X2h hx 14 (hb hby own_d15_13) rfl rfl ?_
    refine own_iconst X2h hx 15 (0 : Int32) (hb hby own_d15_14) rfl ?_
    obtain ⟨cq4, kq4, q4a, q4b, q4c⟩ := isOf hZ eh2 pE1
    obtain ⟨_, _, ⟨T4, Lx4, kc4, nc4⟩, -, X4, ⟨Lc4, hQ4, lq4, yq4, zq4⟩, st4⟩ := X2h.virtualBack hx (y := (⟨"java/lang/String", "charAt", "(I)C"⟩ : MethodName)) (z := (⟨"java/lang/String", "charAt", "(I)C"⟩ : MethodName)) hown (mvT hZ (hw _ (List.mem_of_getElem? (i := 79) rfl))) (mvT hZ (hw _ (List.mem_of_getElem? (i := 80) rfl))) (notFace_of_selects (args := #[]) (mvT hZ (hw _ (List.mem_of_getElem? (i := 82) rfl)))) (mvT hZ (hw _ (List.mem_of_getElem? (i := 82) rfl))) (mvT hZ (hw _ (List.mem_of_getElem? (i := 81) rfl))) (by decide) (backOf (W := 0) (own_rm16i0 l Z a0 hw [] cs S_cs hcs sf S_sf hsf o1 b1 kb1 n1 x1 y1 h0 n0 Z0 pE1 pF2 pF3 pV4 O0 (hn1 : own_N n1)) hZ (hw _ (List.mem_of_getElem? (i := 83) rfl)) (hw _ (List.mem_of_getElem? (i := 7) rfl)) (by decide) (by decide)) q4a q4c (g := (mkF m 15 #[.val (.ref o1), .val (.ref o2)] [(.int (0 : Int32)), (.ref o1)])) rfl (by rw [hml]; rfl) (Steps.refl _) (argsL := [(.int (0 : Int32))]) (rest := []) (lenOf own_pd11 rfl) rfl (by show 2 * 0 + _ ≤ _; exact Nat.le_of_eq rfl) (hb hby own_d15_15) (fun _ _ => ⟨rfl, eh2, (by decide : 0 + 0 ≤ _), (by decide : 0 + 0 ≤ _)⟩)
    dsimp only [Pt.U, Pt.locs, Pt.cells, Pt.slots] at X4 lq4 yq4 zq4 st4 hQ4
    subst lq4 yq4 zq4
    obtain ⟨rfl, Nq4, eh4⟩ := hQ4
    have N4 := Fr.app N2h Nq4
    refine own_st (G' := T4.setTop (mkF m 18 #[.val (.ref o1), .val (.ref o2)] [(.int (own_ch x1))])) (fun t k => st4.trans k) ?_
    obtain ⟨_, X4h, N4h⟩ := own_hide X4 N4
    refine own_aloadN X4h hx 19 (hb hby own_d15_18) rfl rfl ?_
    refine own_iconst X4h hx 20 (0 : Int32) (hb hby own_d15_19) rfl ?_
    obtain ⟨cq5, kq5, q5a, q5b, q5c⟩ := isOf hZ eh4 pE5
    obtain ⟨_, _, ⟨T5, Lx5, kc5, nc5⟩, -, X5, ⟨Lc5, hQ5, lq5, yq5, zq5⟩, st5⟩ := X4h.virtualBack hx (y := (⟨"java/lang/String", "charAt", "(I)C"⟩ : MethodName)) (z := (⟨"java/lang/String", "charAt", "(I)C"⟩ : MethodName)) hown (mvT hZ (hw _ (List.mem_of_getElem? (i := 79) rfl))) (mvT hZ (hw _ (List.mem_of_getElem? (i := 80) rfl))) (notFace_of_selects (args := #[]) (mvT hZ (hw _ (List.mem_of_getElem? (i := 82) rfl)))) (mvT hZ (hw _ (List.mem_of_getElem? (i := 82) rfl))) (mvT hZ (hw _ (List.mem_of_getElem? (i := 81) rfl))) (by decide) (backOf (W := 1) (own_rm16i0 l Z a0 hw [] cs S_cs hcs sf S_sf hsf o2 b2 kb2 n2 x2 y2 h0 n0 Z0 pE5 pF6 pF7 pV8 O0 (hn2 : own_N n2)) hZ (hw _ (List.mem_of_getElem? (i := 83) rfl)) (hw _ (List.mem_of_getElem? (i := 7) rfl)) (by decide) (by decide)) q5a q5c (g := (mkF m 20 #[.val (.ref o1), .val (.ref o2)] [(.int (0 : Int32)), (.ref o2), (.int (own_ch x1))])) rfl (by rw [hml]; rfl) (Steps.refl _) (argsL := [(.int (0 : Int32))]) (rest := [(.int (own_ch x1))]) (lenOf own_pd11 rfl) rfl (by show 2 * 0 + _ ≤ _; exact Nat.le_of_eq rfl) (hb hby own_d15_20) (fun _ _ => ⟨rfl, eh4, (by decide : 0 + 0 ≤ _), (by decide : 0 + 0 ≤ _)⟩)
    dsimp only [Pt.U, Pt.locs, Pt.cells, Pt.slots] at X5 lq5 yq5 zq5 st5 hQ5
    subst lq5 yq5 zq5
    obtain ⟨rfl, Nq5, eh5⟩ := hQ5
    have N5 := Fr.app N4h Nq5
    refine own_st (G' := T5.setTop (mkF m 23 #[.val (.ref o1), .val (.ref o2)] [(.int (own_ch x2)), (.int (own_ch x1))])) (fun t k => st5.trans k) ?_
    obtain ⟨_, X5h, N5h⟩ := own_hide X5 N5
    by_cases hc23_6 : (own_ch x1) = (own_ch x2)
    · refine own_icmpYes X5h hx 28 (hb hby own_d15_23) (teq hc23_6).1 ?_
      refine own_aloadN X5h hx 29 (hb hby own_d15_28) rfl rfl ?_
      obtain ⟨cq7, kq7, q7a, q7b, q7c⟩ := isOf hZ eh5 pE1
      obtain ⟨_, _, ⟨T7, Lx7, kc7, nc7⟩, -, X7, ⟨Lc7, hQ7, lq7, yq7, zq7⟩, st7⟩ := X5h.virtualBack hx (y := (⟨"java/lang/String", "length", "()I"⟩ : MethodName)) (z := (⟨"java/lang/String", "length", "()I"⟩ : MethodName)) hown (mvT hZ (hw _ (List.mem_of_getElem? (i := 78) rfl))) (mvT hZ (hw _ (List.mem_of_getElem? (i := 61) rfl))) (notFace_of_selects (args := #[]) (mvT hZ (hw _ (List.mem_of_getElem? (i := 63) rfl)))) (mvT hZ (hw _ (List.mem_of_getElem? (i := 63) rfl))) (mvT hZ (hw _ (List.mem_of_getElem? (i := 62) rfl))) (by decide) (backOf (W := 0) (own_rm13 l Z a0 hw [] cs S_cs hcs sf S_sf hsf o1 b1 kb1 n1 x1 y1 h0 n0 Z0 pE1 pF2 pF3 pV4 O0) hZ (hw _ (List.mem_of_getElem? (i := 64) rfl)) (hw _ (List.mem_of_getElem? (i := 7) rfl)) (by decide) (by decide)) q7a q7c (g := (mkF m 29 #[.val (.ref o1), .val (.ref o2)] [(.ref o1)])) rfl (by rw [hml]; rfl) (Steps.refl _) (argsL := []) (rest := []) (lenOf own_pd10 rfl) rfl (by show 2 * 0 + _ ≤ _; exact Nat.le_of_eq rfl) (hb hby own_d15_29) (fun _ _ => ⟨rfl, eh5, (by decide : 0 + 0 ≤ _), (by decide : 0 + 0 ≤ _)⟩)
      dsimp only [Pt.U, Pt.locs, Pt.cells, Pt.slots] at X7 lq7 yq7 zq7 st7 hQ7
      subst lq7 yq7 zq7
      obtain ⟨rfl, Nq7, eh7⟩ := hQ7
      have N7 := Fr.app N5h Nq7
      refine own_st (G' := T7.setTop (mkF m 32 #[.val (.ref o1), .val (.ref o2)] [(.int n1)])) (fun t k => st7.trans k) ?_
      obtain ⟨_, X7h, N7h⟩ := own_hide X7 N7
      refine own_iconst X7h hx 33 (2 : Int32) (hb hby own_d15_32) rfl ?_
      by_cases hc33_8 : n1 < (2 : Int32)
      · refine own_icmpNo X7h hx 36 (hb hby own_d15_33) (tlt hc33_8).2.1 ?_
        refine own_iconst X7h hx 37 (1 : Int32) (hb hby own_d15_36) rfl ?_
        exact own_retN (t := .boolean) (z := (1 : Int32)) (Q := own_Q15 Z cs S_cs hcs sf S_sf hsf o1 o2 b1 kb1 n1 x1 y1 b2 kb2 n2 x2 y2 h0 n0) X7h hx hrt (by simp) (hb hby own_d15_37) hlk eh7 ⟨(own_leafI (show ((1 : Int32) : Int32) = (own_eqB n1 x1 y1 n2 x2 y2) by rw [own_sm hn1 hb1.1 hb1.2 hb2.1 hb2.2, if_pos hc8_3, if_pos hc23_6, if_pos hc33_8])), N7h, rfl⟩ (by decide) (by decide)
      · refine own_icmpYes X7h hx 38 (hb hby own_d15_33) (flt hc33_8).2.1 ?_
        refine own_aloadN X7h hx 39 (hb hby own_d15_38) rfl rfl ?_
        refine own_iconst X7h hx 40 (1 : Int32) (hb hby own_d15_39) rfl ?_
        obtain ⟨cq9, kq9, q9a, q9b, q9c⟩ := isOf hZ eh7 pE1
        obtain ⟨_, _, ⟨T9, Lx9, kc9, nc9⟩, -, X9, ⟨Lc9, hQ9, lq9, yq9, zq9⟩, st9⟩ := X7h.virtualBack hx (y := (⟨"java/lang/String", "charAt", "(I)C"⟩ : MethodName)) (z := (⟨"java/lang/String", "charAt", "(I)C"⟩ : MethodName)) hown (mvT hZ (hw _ (List.mem_of_getElem? (i := 79) rfl))) (mvT hZ (hw _ (List.mem_of_getElem? (i := 80) rfl))) (notFace_of_selects (args := #[]) (mvT hZ (hw _ (List.mem_of_getElem? (i := 82) rfl)))) (mvT hZ (hw _ (List.mem_of_getElem? (i := 82) rfl))) (mvT hZ (hw _ (List.mem_of_getElem? (i := 81) rfl))) (by decide) (backOf (W := 0) (own_rm16i1 l Z a0 hw [] cs S_cs hcs sf S_sf hsf o1 b1 kb1 n1 x1 y1 h0 n0 Z0 pE1 pF2 pF3 pV4 O0 (hn1 : own_N n1) (own_2 hn1 hc33_8 : n1 = (2 : Int32))) hZ (hw _ (List.mem_of_getElem? (i := 83) rfl)) (hw _ (List.mem_of_getElem? (i := 7) rfl)) (by decide) (by decide)) q9a q9c (g := (mkF m 40 #[.val (.ref o1), .val (.ref o2)] [(.int (1 : Int32)), (.ref o1)])) rfl (by rw [hml]; rfl) (Steps.refl _) (argsL := [(.int (1 : Int32))]) (rest := []) (lenOf own_pd11 rfl) rfl (by show 2 * 0 + _ ≤ _; exact Nat.le_of_eq rfl) (hb hby own_d15_40) (fun _ _ => ⟨rfl, eh7, (by decide : 0 + 0 ≤ _), (by decide : 0 + 0 ≤ _)⟩)
        dsimp only [Pt.U, Pt.locs, Pt.cells, Pt.slots] at X9 lq9 yq9 zq9 st9 hQ9
        subst lq9 yq9 zq9
        obtain ⟨rfl, Nq9, eh9⟩ := hQ9
        have N9 := Fr.app N7h Nq9
        refine own_st (G' := T9.setTop (mkF m 43 #[.val (.ref o1), .val (.ref o2)] [(.int (own_ch y1))])) (fun t k => st9.trans k) ?_
        obtain ⟨_, X9h, N9h⟩ := own_hide X9 N9
        refine own_aloadN X9h hx 44 (hb hby own_d15_43) rfl rfl ?_
        refine own_iconst X9h hx 45 (1 : Int32) (hb hby own_d15_44) rfl ?_
        obtain ⟨cq10, kq10, q10a, q10b, q10c⟩ := isOf hZ eh9 pE5
        obtain ⟨_, _, ⟨T10, Lx10, kc10, nc10⟩, -, X10, ⟨Lc10, hQ10, lq10, yq10, zq10⟩, st10⟩ := X9h.virtualBack hx (y := (⟨"java/lang/String", "charAt", "(I)C"⟩ : MethodName)) (z := (⟨"java/lang/String", "charAt", "(I)C"⟩ : MethodName)) hown (mvT hZ (hw _ (List.mem_of_getElem? (i := 79) rfl))) (mvT hZ (hw _ (List.mem_of_getElem? (i := 80) rfl))) (notFace_of_selects (args := #[]) (mvT hZ (hw _ (List.mem_of_getElem? (i := 82) rfl)))) (mvT hZ (hw _ (List.mem_of_getElem? (i := 82) rfl))) (mvT hZ (hw _ (List.mem_of_getElem? (i := 81) rfl))) (by decide) (backOf (W := 1) (own_rm16i1 l Z a0 hw [] cs S_cs hcs sf S_sf hsf o2 b2 kb2 n2 x2 y2 h0 n0 Z0 pE5 pF6 pF7 pV8 O0 (hn2 : own_N n2) (own_N2 hc8_3 (own_2 hn1 hc33_8) : n2 = (2 : Int32))) hZ (hw _ (List.mem_of_getElem? (i := 83) rfl)) (hw _ (List.mem_of_getElem? (i := 7) rfl)) (by decide) (by decide)) q10a q10c (g := (mkF m 45 #[.val (.ref o1), .val (.ref o2)] [(.int (1 : Int32)), (.ref o2), (.int (own_ch y1))])) rfl (by rw [hml]; rfl) (Steps.refl _) (argsL := [(.int (1 : Int32))]) (rest := [(.int (own_ch y1))]) (lenOf own_pd11 rfl) rfl (by show 2 * 0 + _ ≤ _; exact Nat.le_of_eq rfl) (hb hby own_d15_45) (fun _ _ => ⟨rfl, eh9, (by decide : 0 + 0 ≤ _), (by decide : 0 + 0 ≤ _)⟩)
        dsimp only [Pt.U, Pt.locs, Pt.cells, Pt.slots] at X10 lq10 yq10 zq10 st10 hQ10
        subst lq10 yq10 zq10
        obtain ⟨rfl, Nq10, eh10⟩ := hQ10
        have N10 := Fr.app N9h Nq10
        refine own_st (G' := T10.setTop (mkF m 48 #[.val (.ref o1), .val (.ref o2)] [(.int (own_ch y2)), (.int (own_ch y1))])) (fun t k => st10.trans k) ?_
        obtain ⟨_, X10h, N10h⟩ := own_hide X10 N10
        by_cases hc48_11 : (own_ch y1) = (own_ch y2)
        · refine own_icmpNo X10h hx 51 (hb hby own_d15_48) (teq hc48_11).2 ?_
          refine own_iconst X10h hx 52 (1 : Int32) (hb hby own_d15_51) rfl ?_
          refine own_goto X10h hx 56 (hb hby own_d15_52) ?_
          exact own_retN (t := .boolean) (z := (1 : Int32)) (Q := own_Q15 Z cs S_cs hcs sf S_sf hsf o1 o2 b1 kb1 n1 x1 y1 b2 kb2 n2 x2 y2 h0 n0) X10h hx hrt (by simp) (hb hby own_d15_56) hlk eh10 ⟨(own_leafI (show ((1 : Int32) : Int32) = (own_eqB n1 x1 y1 n2 x2 y2) by rw [own_sm hn1 hb1.1 hb1.2 hb2.1 hb2.2, if_pos hc8_3, if_pos hc23_6, if_neg hc33_8, if_pos hc48_11])), N10h, rfl⟩ (by decide) (by decide)
        · refine own_icmpYes X10h hx 55 (hb hby own_d15_48) (feq hc48_11).2 ?_
          refine own_iconst X10h hx 56 (0 : Int32) (hb hby own_d15_55) rfl ?_
          exact own_retN (t := .boolean) (z := (0 : Int32)) (Q := own_Q15 Z cs S_cs hcs sf S_sf hsf o1 o2 b1 kb1 n1 x1 y1 b2 kb2 n2 x2 y2 h0 n0) X10h hx hrt (by simp) (hb hby own_d15_56) hlk eh10 ⟨(own_leafI (show ((0 : Int32) : Int32) = (own_eqB n1 x1 y1 n2 x2 y2) by rw [own_sm hn1 hb1.1 hb1.2 hb2.1 hb2.2, if_pos hc8_3, if_pos hc23_6, if_neg hc33_8, if_neg hc48_11])), N10h, rfl⟩ (by decide) (by decide)
    · refine own_icmpNo X5h hx 26 (hb hby own_d15_23) (feq hc23_6).1 ?_
      refine own_iconst X5h hx 27 (0 : Int32) (hb hby own_d15_26) rfl ?_
      exact own_retN (t := .boolean) (z := (0 : Int32)) (Q := own_Q15 Z cs S_cs hcs sf S_sf hsf o1 o2 b1 kb1 n1 x1 y1 b2 kb2 n2 x2 y2 h0 n0) X5h hx hrt (by simp) (hb hby own_d15_27) hlk eh5 ⟨(own_leafI (show ((0 : Int32) : Int32) = (own_eqB n1 x1 y1 n2 x2 y2) by rw [own_sm hn1 hb1.1 hb1.2 hb2.1 hb2.2, if_pos hc8_3, if_neg hc23_6])), N5h, rfl⟩ (by decide) (by decide)
  · refine own_icmpNo X2h hx 11 (hb hby own_d15_8) (feq hc8_3).1 ?_
    refine own_iconst X2h hx 12 (0 : Int32) (hb hby own_d15_11) rfl ?_
    exact own_retN (t := .boolean) (z := (0 : Int32)) (Q := own_Q15 Z cs S_cs hcs sf S_sf hsf o1 o2 b1 kb1 n1 x1 y1 b2 kb2 n2 x2 y2 h0 n0) X2h hx hrt (by simp) (hb hby own_d15_12) hlk eh2 ⟨(own_leafI (show ((0 : Int32) : Int32) = (own_eqB n1 x1 y1 n2 x2 y2) by rw [own_sm hn1 hb1.1 hb1.2 hb2.1 hb2.2, if_neg hc8_3])), N2h, rfl⟩ (by decide) (by decide)
theorem own_d23_0 : decode jdk_43_method_13_code 0 = .ok (.aload_n 0, 1) := by decide +kernel
theorem own_d23_1 : decode jdk_43_method_13_code 1 = .ok (.arraylength, 1) := by decide +kernel
theorem own_d23_2 : decode jdk_43_method_13_code 2 = .ok (.aload_n 1, 1) := by decide +kernel
theorem own_d23_3 : decode jdk_43_method_13_code 3 = .ok (.arraylength, 1) := by decide +kernel
theorem own_d23_4 : decode jdk_43_method_13_code 4 = .ok (.if_icmp .ne 30, 3) := by decide +kernel
theorem own_d23_7 : decode jdk_43_method_13_code 7 = .ok (.iconst 0, 1) := by decide +kernel
theorem own_d23_8 : decode jdk_43_method_13_code 8 = .ok (.istore_n 2, 1) := by decide +kernel
theorem own_d23_9 : decode jdk_43_method_13_code 9 = .ok (.iload_n 2, 1) := by decide +kernel
theorem own_d23_10 : decode jdk_43_method_13_code 10 = .ok (.aload_n 0, 1) := by decide +kernel
theorem own_d23_11 : decode jdk_43_method_13_code 11 = .ok (.arraylength, 1) := by decide +kernel
theorem own_d23_12 : decode jdk_43_method_13_code 12 = .ok (.if_icmp .ge 20, 3) := by decide +kernel
theorem own_d23_15 : decode jdk_43_method_13_code 15 = .ok (.aload_n 0, 1) := by decide +kernel
theorem own_d23_16 : decode jdk_43_method_13_code 16 = .ok (.iload_n 2, 1) := by decide +kernel
theorem own_d23_17 : decode jdk_43_method_13_code 17 = .ok (.baload, 1) := by decide +kernel
theorem own_d23_18 : decode jdk_43_method_13_code 18 = .ok (.aload_n 1, 1) := by decide +kernel
theorem own_d23_19 : decode jdk_43_method_13_code 19 = .ok (.iload_n 2, 1) := by decide +kernel
theorem own_d23_20 : decode jdk_43_method_13_code 20 = .ok (.baload, 1) := by decide +kernel
theorem own_d23_21 : decode jdk_43_method_13_code 21 = .ok (.if_icmp .eq 5, 3) := by decide +kernel
theorem own_d23_24 : decode jdk_43_method_13_code 24 = .ok (.iconst 0, 1) := by decide +kernel
theorem own_d23_25 : decode jdk_43_method_13_code 25 = .ok (.ireturn, 1) := by decide +kernel
theorem own_d23_26 : decode jdk_43_method_13_code 26 = .ok (.iinc 2 1, 3) := by decide +kernel
theorem own_d23_29 : decode jdk_43_method_13_code 29 = .ok (.goto (-20), 3) := by decide +kernel
theorem own_d23_32 : decode jdk_43_method_13_code 32 = .ok (.iconst 1, 1) := by decide +kernel
theorem own_d23_33 : decode jdk_43_method_13_code 33 = .ok (.ireturn, 1) := by decide +kernel
theorem own_d23_34 : decode jdk_43_method_13_code 34 = .ok (.iconst 0, 1) := by decide +kernel
theorem own_d23_35 : decode jdk_43_method_13_code 35 = .ok (.ireturn, 1) := by decide +kernel
theorem own_ef23 (m : MethodId) (o1 : Addr) (o2 : Addr) : entryFrame m #[(.ref o1), (.ref o2)] 3 = mkF m 0 #[.val (.ref o1), .val (.ref o2), .unset] [] := by first | (simp [entryFrame, mkF, argsToLocals, Value.category]; done) | rfl
def own_Q23 (Z : State) (o1 : Addr) (o2 : Addr) (kb1 : ClassId) (n1 : Int32) (x1 : Int32) (y1 : Int32) (kb2 : ClassId) (n2 : Int32) (x2 : Int32) (y2 : Int32) (h0 : Heap) (n0 : Nat) (v : Option Value) (h : Heap) (L : List Loc) : Prop := v = some (.int (own_eqB n1 x1 y1 n2 x2 y2)) ∧ Fr n0 L ∧ h = h0
set_option maxRecDepth 65536 in
set_option maxHeartbeats 40000000 in
theorem own_rm23 (l : Launch) (Z : State) (a0 : Array Value) (hw : ∀ d ∈ tables_1, d.before a0 Z = true) (ws : List Jvm.Cond) (o1 : Addr) (o2 : Addr) (kb1 : ClassId) (n1 : Int32) (x1 : Int32) (y1 : Int32) (kb2 : ClassId) (n2 : Int32) (x2 : Int32) (y2 : Int32) (h0 : Heap) (n0 : Nat) (Z0 : n0 ≤ h0.size) (pV1 : Arv Z h0 o1 kb1 .byte n1 (own_sl n1 x1 y1) (.int (0 : Int32))) (pV2 : Arv Z h0 o2 kb2 .byte n2 (own_sl n2 x2 y2) (.int (0 : Int32))) (hn1 : own_N n1) (hn2 : own_N n2) :
    MetFree l (⟨"java/lang/StringLatin1", "equals", "([B[B)Z"⟩ : MethodName) (head1 (Jvm.Cond.code (⟨"java/lang/StringLatin1", "equals", "([B[B)Z"⟩ : MethodName) jdk_43_method_13_code 3 (some .boolean) :: ws) ({ frames := 0, cells := 0, slots := 0, locals := 0 } : Room)) (fun a U => a = #[(.ref o1), (.ref o2)] ∧ Z.Warmed39 U.vm ∧ U.heap = h0) (fun _ _ _ _ _ => True) (fun _ U o U' => ∃ v L, o = .returned v ∧ own_Q23 Z o1 o2 kb1 n1 x1 y1 kb2 n2 x2 y2 h0 n0 v U'.heap L ∧ FrameEnd U o U' L ({ frames := 0, cells := 0, slots := 0, locals := 0 } : Room).cells ({ frames := 0, cells := 0, slots := 0, locals := 0 } : Room).slots) := by
  refine MetFree.of_bodySF (plainFor_of_name own_pn4) hisR ?_
  intro p e s m args below meth c s₁ Bd hml0 hP hK
  obtain ⟨rfl, hZ, hh⟩ := hP
  have hx := Bd.exec
  have hby := Bd.bytes
  have hlk := Bd.notSynchronized
  have hrt := Bd.returns
  have hml : c.maxLocals = 3 := hml0
  have hown : s.vm.findClass "java/lang/StringLatin1" = some m.cls := findClass_of_methodNamed Bd.named
  have hnm := (name_of_methodNamed Bd.named Bd.method).1
  have X0 : Stand p l e ({ frames := 0, cells := 0, slots := 0, locals := 0 } : Room) s m #[(.ref o1), (.ref o2)] below meth c s₁ [] 0 0 := Stand.of_body Bd
  have e0 : s₁.heap = h0 := by rw [← hh, Bd.state]; rfl
  have N0 := Fr.nil n0
  refine own_in (own_ef23 m o1 o2) ?_
  rcases hn1 with hk1 | hk1
  · have V1 := pV1
    rw [hk1, own_sl1] at V1
    rcases hn2 with hk2 | hk2
    · have V2 := pV2
      rw [hk2, own_sl1] at V2
      refine own_aloadN X0 hx 1 (hb hby own_d23_0) rfl rfl ?_
      obtain ⟨cl3, Ar3, qv3, S3, M3, H3, G3⟩ := id V1
      have ln3 := len_of S3 M3
      refine own_st (G' := s₁.setTop (mkF m 2 #[.val (.ref o1), .val (.ref o2), .unset] [(.int (1 : Int32))])) (fun t k => X0.arraylength hx (by rw [e0]; exact Ar3.1) (State.isArrayOf_alike hZ.alike Ar3.2.1) (g := (mkF m 1 #[.val (.ref o1), .val (.ref o2), .unset] [(.ref o1)])) rfl rfl (hb hby own_d23_1) _ (by rw [ln3]; exact k)) ?_
      refine own_aloadN X0 hx 3 (hb hby own_d23_2) rfl rfl ?_
      obtain ⟨cl4, Ar4, qv4, S4, M4, H4, G4⟩ := id V2
      have ln4 := len_of S4 M4
      refine own_st (G' := s₁.setTop (mkF m 4 #[.val (.ref o1), .val (.ref o2), .unset] [(.int (1 : Int32)), (.int (1 : Int32))])) (fun t k => X0.arraylength hx (by rw [e0]; exact Ar4.1) (State.isArrayOf_alike hZ.alike Ar4.2.1) (g := (mkF m 3 #[.val (.ref o1), .val (.ref o2), .unset] [(.ref o2), (.int (1 : Int32))])) rfl rfl (hb hby own_d23_3) _ (by rw [ln4]; exact k)) ?_
      refine own_icmpNo X0 hx 7 (hb hby own_d23_4) (teq (rfl : (1 : Int32) = (1 : Int32))).2 ?_
      refine own_iconst X0 hx 8 (0 : Int32) (hb hby own_d23_7) rfl ?_
      refine own_istoreN X0 hx 9 #[.val (.ref o1), .val (.ref o2), .val (.int (0 : Int32))] (hb hby own_d23_8) rfl ?_
      refine own_iloadN X0 hx 10 (hb hby own_d23_9) rfl ?_
      refine own_aloadN X0 hx 11 (hb hby own_d23_10) rfl rfl ?_
      obtain ⟨cl5, Ar5, qv5, S5, M5, H5, G5⟩ := id V1
      have ln5 := len_of S5 M5
      refine own_st (G' := s₁.setTop (mkF m 12 #[.val (.ref o1), .val (.ref o2), .val (.int (0 : Int32))] [(.int (1 : Int32)), (.int (0 : Int32))])) (fun t k => X0.arraylength hx (by rw [e0]; exact Ar5.1) (State.isArrayOf_alike hZ.alike Ar5.2.1) (g := (mkF m 11 #[.val (.ref o1), .val (.ref o2), .val (.int (0 : Int32))] [(.ref o1), (.int (0 : Int32))])) rfl rfl (hb hby own_d23_11) _ (by rw [ln5]; exact k)) ?_
      refine own_icmpNo X0 hx 15 (hb hby own_d23_12) (tlt (by decide : (0 : Int32) < (1 : Int32))).2.1 ?_
      refine own_aloadN X0 hx 16 (hb hby own_d23_15) rfl rfl ?_
      refine own_iloadN X0 hx 17 (hb hby own_d23_16) rfl ?_
      obtain ⟨cl6, Ar6, qv6, S6, M6, H6, G6⟩ := id V1
      have hin6 : ¬ ((0 : Int32) < 0 ∨ cl6.slots.size ≤ ((0 : Int32)).toNatClampNeg) := inb_of S6 ⟨by decide, by decide⟩
      refine own_st (G' := s₁.setTop (mkF m 18 #[.val (.ref o1), .val (.ref o2), .val (.int (0 : Int32))] [(.int x1)])) (fun t k => X0.baloadBytes hx (j := (0 : Int32)) (v := (.int x1)) (by rw [e0]; exact Ar6.1) (State.isArrayOf_alike hZ.alike Ar6.2.1) Ar6.2.2 hin6 (H6.at hin6 rfl) (g := (mkF m 17 #[.val (.ref o1), .val (.ref o2), .val (.int (0 : Int32))] [(.int (0 : Int32)), (.ref o1)])) rfl rfl (hb hby own_d23_17) _ k) ?_
      refine own_aloadN X0 hx 19 (hb hby own_d23_18) rfl rfl ?_
      refine own_iloadN X0 hx 20 (hb hby own_d23_19) rfl ?_
      obtain ⟨cl7, Ar7, qv7, S7, M7, H7, G7⟩ := id V2
      have hin7 : ¬ ((0 : Int32) < 0 ∨ cl7.slots.size ≤ ((0 : Int32)).toNatClampNeg) := inb_of S7 ⟨by decide, by decide⟩
      refine own_st (G' := s₁.setTop (mkF m 21 #[.val (.ref o1), .val (.ref o2), .val (.int (0 : Int32))] [(.int x2), (.int x1)])) (fun t k => X0.baloadBytes hx (j := (0 : Int32)) (v := (.int x2)) (by rw [e0]; exact Ar7.1) (State.isArrayOf_alike hZ.alike Ar7.2.1) Ar7.2.2 hin7 (H7.at hin7 rfl) (g := (mkF m 20 #[.val (.ref o1), .val (.ref o2), .val (.int (0 : Int32))] [(.int (0 : Int32)), (.ref o2), (.int x1)])) rfl rfl (hb hby own_d23_20) _ k) ?_
      by_cases hc21_8 : x1 = x2
      · refine own_icmpYes X0 hx 26 (hb hby own_d23_21) (teq hc21_8).1 ?_
        refine own_iinc X0 hx 29 (1 : Int32) #[.val (.ref o1), .val (.ref o2), .val (.int (1 : Int32))] (hb hby own_d23_26) rfl rfl rfl ?_
        refine own_goto X0 hx 9 (hb hby own_d23_29) ?_
        refine own_iloadN X0 hx 10 (hb hby own_d23_9) rfl ?_
        refine own_aloadN X0 hx 11 (hb hby own_d23_10) rfl rfl ?_
        obtain ⟨cl9, Ar9, qv9, S9, M9, H9, G9⟩ := id V1
        have ln9 := len_of S9 M9
        refine own_st (G' := s₁.setTop (mkF m 12 #[.val (.ref o1), .val (.ref o2), .val (.int (1 : Int32))] [(.int (1 : Int32)), (.int (1 : Int32))])) (fun t k => X0.arraylength hx (by rw [e0]; exact Ar9.1) (State.isArrayOf_alike hZ.alike Ar9.2.1) (g := (mkF m 11 #[.val (.ref o1), .val (.ref o2), .val (.int (1 : Int32))] [(.ref o1), (.int (1 : Int32))])) rfl rfl (hb hby own_d23_11) _ (by rw [ln9]; exact k)) ?_
        refine own_icmpYes X0 hx 32 (hb hby own_d23_12) (flt (by decide : ¬ ((1 : Int32) < (1 : Int32)))).2.1 ?_
        refine own_iconst X0 hx 33 (1 : Int32) (hb hby own_d23_32) rfl ?_
        exact own_retN (t := .boolean) (z := (1 : Int32)) (Q := own_Q23 Z o1 o2 kb1 n1 x1 y1 kb2 n2 x2 y2 h0 n0) X0 hx hrt (by simp) (hb hby own_d23_33) hlk e0 ⟨(own_leafI (show ((1 : Int32) : Int32) = (own_eqB n1 x1 y1 n2 x2 y2) by simp [own_eqB, hk1, hk2, hc21_8])), N0, rfl⟩ (by decide) (by decide)
      · refine own_icmpNo X0 hx 24 (hb hby own_d23_21) (feq hc21_8).1 ?_
        refine own_iconst X0 hx 25 (0 : Int32) (hb hby own_d23_24) rfl ?_
        exact own_retN (t := .boolean) (z := (0 : Int32)) (Q := own_Q23 Z o1 o2 kb1 n1 x1 y1 kb2 n2 x2 y2 h0 n0) X0 hx hrt (by simp) (hb hby own_d23_25) hlk e0 ⟨(own_leafI (show ((0 : Int32) : Int32) = (own_eqB n1 x1 y1 n2 x2 y2) by simp [own_eqB, hk1, hk2, hc21_8])), N0, rfl⟩ (by decide) (by decide)
    · have V10 := pV2
      rw [hk2, own_sl2] at V10
      refine own_aloadN X0 hx 1 (hb hby own_d23_0) rfl rfl ?_
      obtain ⟨cl11, Ar11, qv11, S11, M11, H11, G11⟩ := id V1
      have ln11 := len_of S11 M11
      refine own_st (G' := s₁.setTop (mkF m 2 #[.val (.ref o1), .val (.ref o2), .unset] [(.int (1 : Int32))])) (fun t k => X0.arraylength hx (by rw [e0]; exact Ar11.1) (State.isArrayOf_alike hZ.alike Ar11.2.1) (g := (mkF m 1 #[.val (.ref o1), .val (.ref o2), .unset] [(.ref o1)])) rfl rfl (hb hby own_d23_1) _ (by rw [ln11]; exact k)) ?_
      refine own_aloadN X0 hx 3 (hb hby own_d23_2) rfl rfl ?_
      obtain ⟨cl12, Ar12, qv12, S12, M12, H12, G12⟩ := id V10
      have ln12 := len_of S12 M12
      refine own_st (G' := s₁.setTop (mkF m 4 #[.val (.ref o1), .val (.ref o2), .unset] [(.int (2 : Int32)), (.int (1 : Int32))])) (fun t k => X0.arraylength hx (by rw [e0]; exact Ar12.1) (State.isArrayOf_alike hZ.alike Ar12.2.1) (g := (mkF m 3 #[.val (.ref o1), .val (.ref o2), .unset] [(.ref o2), (.int (1 : Int32))])) rfl rfl (hb hby own_d23_3) _ (by rw [ln12]; exact k)) ?_
      refine own_icmpYes X0 hx 34 (hb hby own_d23_4) (feq (by decide : ¬ ((1 : Int32) = (2 : Int32)))).2 ?_
      refine own_iconst X0 hx 35 (0 : Int32) (hb hby own_d23_34) rfl ?_
      exact own_retN (t := .boolean) (z := (0 : Int32)) (Q := own_Q23 Z o1 o2 kb1 n1 x1 y1 kb2 n2 x2 y2 h0 n0) X0 hx hrt (by simp) (hb hby own_d23_35) hlk e0 ⟨(own_leafI (show ((0 : Int32) : Int32) = (own_eqB n1 x1 y1 n2 x2 y2) by simp [own_eqB, hk1, hk2])), N0, rfl⟩ (by decide) (by decide)
  · have V13 := pV1
    rw [hk1, own_sl2] at V13
    rcases hn2 with hk2 | hk2
    · have V14 := pV2
      rw [hk2, own_sl1] at V14
      refine own_aloadN X0 hx 1 (hb hby own_d23_0) rfl rfl ?_
      obtain ⟨cl15, Ar15, qv15, S15, M15, H15, G15⟩ := id V13
      have ln15 := len_of S15 M15
      refine own_st (G' := s₁.setTop (mkF m 2 #[.val (.ref o1), .val (.ref o2), .unset] [(.int (2 : Int32))])) (fun t k => X0.arraylength hx (by rw [e0]; exact Ar15.1) (State.isArrayOf_alike hZ.alike Ar15.2.1) (g := (mkF m 1 #[.val (.ref o1), .val (.ref o2), .unset] [(.ref o1)])) rfl rfl (hb hby own_d23_1) _ (by rw [ln15]; exact k)) ?_
      refine own_aloadN X0 hx 3 (hb hby own_d23_2) rfl rfl ?_
      obtain ⟨cl16, Ar16, qv16, S16, M16, H16, G16⟩ := id V14
      have ln16 := len_of S16 M16
      refine own_st (G' := s₁.setTop (mkF m 4 #[.val (.ref o1), .val (.ref o2), .unset] [(.int (1 : Int32)), (.int (2 : Int32))])) (fun t k => X0.arraylength hx (by rw [e0]; exact Ar16.1) (State.isArrayOf_alike hZ.alike Ar16.2.1) (g := (mkF m 3 #[.val (.ref o1), .val (.ref o2), .unset] [(.ref o2), (.int (2 : Int32))])) rfl rfl (hb hby own_d23_3) _ (by rw [ln16]; exact k)) ?_
      refine own_icmpYes X0 hx 34 (hb hby own_d23_4) (feq (by decide : ¬ ((2 : Int32) = (1 : Int32)))).2 ?_
      refine own_iconst X0 hx 35 (0 : Int32) (hb hby own_d23_34) rfl ?_
      exact own_retN (t := .boolean) (z := (0 : Int32)) (Q := own_Q23 Z o1 o2 kb1 n1 x1 y1 kb2 n2 x2 y2 h0 n0) X0 hx hrt (by simp) (hb hby own_d23_35) hlk e0 ⟨(own_leafI (show ((0 : Int32) : Int32) = (own_eqB n1 x1 y1 n2 x2 y2) by simp [own_eqB, hk1, hk2])), N0, rfl⟩ (by decide) (by decide)
    · have V17 := pV2
      rw [hk2, own_sl2] at V17
      refine own_aloadN X0 hx 1 (hb hby own_d23_0) rfl rfl ?_
      obtain ⟨cl18, Ar18, qv18, S18, M18, H18, G18⟩ := id V13
      have ln18 := len_of S18 M18
      refine own_st (G' := s₁.setTop (mkF m 2 #[.val (.ref o1), .val (.ref o2), .unset] [(.int (2 : Int32))])) (fun t k => X0.arraylength hx (by rw [e0]; exact Ar18.1) (State.isArrayOf_alike hZ.alike Ar18.2.1) (g := (mkF m 1 #[.val (.ref o1), .val (.ref o2), .unset] [(.ref o1)])) rfl rfl (hb hby own_d23_1) _ (by rw [ln18]; exact k)) ?_
      refine own_aloadN X0 hx 3 (hb hby own_d23_2) rfl rfl ?_
      obtain ⟨cl19, Ar19, qv19, S19, M19, H19, G19⟩ := id V17
      have ln19 := len_of S19 M19
      refine own_st (G' := s₁.setTop (mkF m 4 #[.val (.ref o1), .val (.ref o2), .unset] [(.int (2 : Int32)), (.int (2 : Int32))])) (fun t k => X0.arraylength hx (by rw [e0]; exact Ar19.1) (State.isArrayOf_alike hZ.alike Ar19.2.1) (g := (mkF m 3 #[.val (.ref o1), .val (.ref o2), .unset] [(.ref o2), (.int (2 : Int32))])) rfl rfl (hb hby own_d23_3) _ (by rw [ln19]; exact k)) ?_
      refine own_icmpNo X0 hx 7 (hb hby own_d23_4) (teq (rfl : (2 : Int32) = (2 : Int32))).2 ?_
      refine own_iconst X0 hx 8 (0 : Int32) (hb hby own_d23_7) rfl ?_
      refine own_istoreN X0 hx 9 #[.val (.ref o1), .val (.ref o2), .val (.int (0 : Int32))] (hb hby own_d23_8) rfl ?_
      refine own_iloadN X0 hx 10 (hb hby own_d23_9) rfl ?_
      refine own_aloadN X0 hx 11 (hb hby own_d23_10) rfl rfl ?_
      obtain ⟨cl20, Ar20, qv20, S20, M20, H20, G20⟩ := id V13
      have ln20 := len_of S20 M20
      refine own_st (G' := s₁.setTop (mkF m 12 #[.val (.ref o1), .val (.ref o2), .val (.int (0 : Int32))] [(.int (2 : Int32)), (.int (0 : Int32))])) (fun t k => X0.arraylength hx (by rw [e0]; exact Ar20.1) (State.isArrayOf_alike hZ.alike Ar20.2.1) (g := (mkF m 11 #[.val (.ref o1), .val (.ref o2), .val (.int (0 : Int32))] [(.ref o1), (.int (0 : Int32))])) rfl rfl (hb hby own_d23_11) _ (by rw [ln20]; exact k)) ?_
      refine own_icmpNo X0 hx 15 (hb hby own_d23_12) (tlt (by decide : (0 : Int32) < (2 : Int32))).2.1 ?_
      refine own_aloadN X0 hx 16 (hb hby own_d23_15) rfl rfl ?_
      refine own_iloadN X0 hx 17 (hb hby own_d23_16) rfl ?_
      obtain ⟨cl21, Ar21, qv21, S21, M21, H21, G21⟩ := id V13
      have hin21 : ¬ ((0 : Int32) < 0 ∨ cl21.slots.size ≤ ((0 : Int32)).toNatClampNeg) := inb_of S21 ⟨by decide, by decide⟩
      refine own_st (G' := s₁.setTop (mkF m 18 #[.val (.ref o1), .val (.ref o2), .val (.int (0 : Int32))] [(.int x1)])) (fun t k => X0.baloadBytes hx (j := (0 : Int32)) (v := (.int x1)) (by rw [e0]; exact Ar21.1) (State.isArrayOf_alike hZ.alike Ar21.2.1) Ar21.2.2 hin21 (H21.at hin21 rfl) (g := (mkF m 17 #[.val (.ref o1), .val (.ref o2), .val (.int (0 : Int32))] [(.int (0 : Int32)), (.ref o1)])) rfl rfl (hb hby own_d23_17) _ k) ?_
      refine own_aloadN X0 hx 19 (hb hby own_d23_18) rfl rfl ?_
      refine own_iloadN X0 hx 20 (hb hby own_d23_19) rfl ?_
      obtain ⟨cl22, Ar22, qv22, S22, M22, H22, G22⟩ := id V17
      have hin22 : ¬ ((0 : Int32) < 0 ∨ cl22.slots.size ≤ ((0 : Int32)).toNatClampNeg) := inb_of S22 ⟨by decide, by decide⟩
      refine own_st (G' := s₁.setTop (mkF m 21 #[.val (.ref o1), .val (.ref o2), .val (.int (0 : Int32))] [(.int x2), (.int x1)])) (fun t k => X0.baloadBytes hx (j := (0 : Int32)) (v := (.int x2)) (by rw [e0]; exact Ar22.1) (State.isArrayOf_alike hZ.alike Ar22.2.1) Ar22.2.2 hin22 (H22.at hin22 rfl) (g := (mkF m 20 #[.val (.ref o1), .val (.ref o2), .val (.int (0 : Int32))] [(.int (0 : Int32)), (.ref o2), (.int x1)])) rfl rfl (hb hby own_d23_20) _ k) ?_
      by_cases hc21_23 : x1 = x2
      · refine own_icmpYes X0 hx 26 (hb hby own_d23_21) (teq hc21_23).1 ?_
        refine own_iinc X0 hx 29 (1 : Int32) #[.val (.ref o1), .val (.ref o2), .val (.int (1 : Int32))] (hb hby own_d23_26) rfl rfl rfl ?_
        refine own_goto X0 hx 9 (hb hby own_d23_29) ?_
        refine own_iloadN X0 hx 10 (hb hby own_d23_9) rfl ?_
        refine own_aloadN X0 hx 11 (hb hby own_d23_10) rfl rfl ?_
        obtain ⟨cl24, Ar24, qv24, S24, M24, H24, G24⟩ := id V13
        have ln24 := len_of S24 M24
        refine own_st (G' := s₁.setTop (mkF m 12 #[.val (.ref o1), .val (.ref o2), .val (.int (1 : Int32))] [(.int (2 : Int32)), (.int (1 : Int32))])) (fun t k => X0.arraylength hx (by rw [e0]; exact Ar24.1) (State.isArrayOf_alike hZ.alike Ar24.2.1) (g := (mkF m 11 #[.val (.ref o1), .val (.ref o2), .val (.int (1 : Int32))] [(.ref o1), (.int (1 : Int32))])) rfl rfl (hb hby own_d23_11) _ (by rw [ln24]; exact k)) ?_
        refine own_icmpNo X0 hx 15 (hb hby own_d23_12) (tlt (by decide : (1 : Int32) < (2 : Int32))).2.1 ?_
        refine own_aloadN X0 hx 16 (hb hby own_d23_15) rfl rfl ?_
        refine own_iloadN X0 hx 17 (hb hby own_d23_16) rfl ?_
        obtain ⟨cl25, Ar25, qv25, S25, M25, H25, G25⟩ := id V13
        have hin25 : ¬ ((1 : Int32) < 0 ∨ cl25.slots.size ≤ ((1 : Int32)).toNatClampNeg) := inb_of S25 ⟨by decide, by decide⟩
        refine own_st (G' := s₁.setTop (mkF m 18 #[.val (.ref o1), .val (.ref o2), .val (.int (1 : Int32))] [(.int y1)])) (fun t k => X0.baloadBytes hx (j := (1 : Int32)) (v := (.int y1)) (by rw [e0]; exact Ar25.1) (State.isArrayOf_alike hZ.alike Ar25.2.1) Ar25.2.2 hin25 (H25.at hin25 rfl) (g := (mkF m 17 #[.val (.ref o1), .val (.ref o2), .val (.int (1 : Int32))] [(.int (1 : Int32)), (.ref o1)])) rfl rfl (hb hby own_d23_17) _ k) ?_
        refine own_aloadN X0 hx 19 (hb hby own_d23_18) rfl rfl ?_
        refine own_iloadN X0 hx 20 (hb hby own_d23_19) rfl ?_
        obtain ⟨cl26, Ar26, qv26, S26, M26, H26, G26⟩ := id V17
        have hin26 : ¬ ((1 : Int32) < 0 ∨ cl26.slots.size ≤ ((1 : Int32)).toNatClampNeg) := inb_of S26 ⟨by decide, by decide⟩
        refine own_st (G' := s₁.setTop (mkF m 21 #[.val (.ref o1), .val (.ref o2), .val (.int (1 : Int32))] [(.int y2), (.int y1)])) (fun t k => X0.baloadBytes hx (j := (1 : Int32)) (v := (.int y2)) (by rw [e0]; exact Ar26.1) (State.isArrayOf_alike hZ.alike Ar26.2.1) Ar26.2.2 hin26 (H26.at hin26 rfl) (g := (mkF m 20 #[.val (.ref o1), .val (.ref o2), .val (.int (1 : Int32))] [(.int (1 : Int32)), (.ref o2), (.int y1)])) rfl rfl (hb hby own_d23_20) _ k) ?_
        by_cases hc21_27 : y1 = y2
        · refine own_icmpYes X0 hx 26 (hb hby own_d23_21) (teq hc21_27).1 ?_
          refine own_iinc X0 hx 29 (1 : Int32) #[.val (.ref o1), .val (.ref o2), .val (.int (2 : Int32))] (hb hby own_d23_26) rfl rfl rfl ?_
          refine own_goto X0 hx 9 (hb hby own_d23_29) ?_
          refine own_iloadN X0 hx 10 (hb hby own_d23_9) rfl ?_
          refine own_aloadN X0 hx 11 (hb hby own_d23_10) rfl rfl ?_
          obtain ⟨cl28, Ar28, qv28, S28, M28, H28, G28⟩ := id V13
          have ln28 := len_of S28 M28
          refine own_st (G' := s₁.setTop (mkF m 12 #[.val (.ref o1), .val (.ref o2), .val (.int (2 : Int32))] [(.int (2 : Int32)), (.int (2 : Int32))])) (fun t k => X0.arraylength hx (by rw [e0]; exact Ar28.1) (State.isArrayOf_alike hZ.alike Ar28.2.1) (g := (mkF m 11 #[.val (.ref o1), .val (.ref o2), .val (.int (2 : Int32))] [(.ref o1), (.int (2 : Int32))])) rfl rfl (hb hby own_d23_11) _ (by rw [ln28]; exact k)) ?_
          refine own_icmpYes X0 hx 32 (hb hby own_d23_12) (flt (by decide : ¬ ((2 : Int32) < (2 : Int32)))).2.1 ?_
          refine own_iconst X0 hx 33 (1 : Int32) (hb hby own_d23_32) rfl ?_
          exact own_retN (t := .boolean) (z := (1 : Int32)) (Q := own_Q23 Z o1 o2 kb1 n1 x1 y1 kb2 n2 x2 y2 h0 n0) X0 hx hrt (by simp) (hb hby own_d23_33) hlk e0 ⟨(own_leafI (show ((1 : Int32) : Int32) = (own_eqB n1 x1 y1 n2 x2 y2) by simp [own_eqB, hk1, hk2, hc21_23, hc21_27])), N0, rfl⟩ (by decide) (by decide)
        · refine own_icmpNo X0 hx 24 (hb hby own_d23_21) (feq hc21_27).1 ?_
          refine own_iconst X0 hx 25 (0 : Int32) (hb hby own_d23_24) rfl ?_
          exact own_retN (t := .boolean) (z := (0 : Int32)) (Q := own_Q23 Z o1 o2 kb1 n1 x1 y1 kb2 n2 x2 y2 h0 n0) X0 hx hrt (by simp) (hb hby own_d23_25) hlk e0 ⟨(own_leafI (show ((0 : Int32) : Int32) = (own_eqB n1 x1 y1 n2 x2 y2) by simp [own_eqB, hk1, hk2, hc21_23, hc21_27])), N0, rfl⟩ (by decide) (by decide)
      · refine own_icmpNo X0 hx 24 (hb hby own_d23_21) (feq hc21_23).1 ?_
        refine own_iconst X0 hx 25 (0 : Int32) (hb hby own_d23_24) rfl ?_
        exact own_retN (t := .boolean) (z := (0 : Int32)) (Q := own_Q23 Z o1 o2 kb1 n1 x1 y1 kb2 n2 x2 y2 h0 n0) X0 hx hrt (by simp) (hb hby own_d23_25) hlk e0 ⟨(own_leafI (show ((0 : Int32) : Int32) = (own_eqB n1 x1 y1 n2 x2 y2) by simp [own_eqB, hk1, hk2, hc21_23])), N0, rfl⟩ (by decide) (by decide)
theorem own_d22_0 : decode jdk_42_method_66_code 0 = .ok (.aload_n 0, 1) := by decide +kernel
theorem own_d22_1 : decode jdk_42_method_66_code 1 = .ok (.aload_n 1, 1) := by decide +kernel
theorem own_d22_2 : decode jdk_42_method_66_code 2 = .ok (.if_acmp .ne 5, 3) := by decide +kernel
theorem own_d22_7 : decode jdk_42_method_66_code 7 = .ok (.aload_n 1, 1) := by decide +kernel
theorem own_d22_8 : decode jdk_42_method_66_code 8 = .ok (.instanceof 10, 3) := by decide +kernel
theorem own_d22_11 : decode jdk_42_method_66_code 11 = .ok (.ifCond .eq 43, 3) := by decide +kernel
theorem own_d22_14 : decode jdk_42_method_66_code 14 = .ok (.aload_n 1, 1) := by decide +kernel
theorem own_d22_15 : decode jdk_42_method_66_code 15 = .ok (.checkcast 10, 3) := by decide +kernel
theorem own_d22_18 : decode jdk_42_method_66_code 18 = .ok (.astore_n 2, 1) := by decide +kernel
theorem own_d22_19 : decode jdk_42_method_66_code 19 = .ok (.getstatic 38, 3) := by decide +kernel
theorem own_d22_22 : decode jdk_42_method_66_code 22 = .ok (.ifCond .eq 14, 3) := by decide +kernel
theorem own_d22_25 : decode jdk_42_method_66_code 25 = .ok (.aload_n 0, 1) := by decide +kernel
theorem own_d22_26 : decode jdk_42_method_66_code 26 = .ok (.getfield 15, 3) := by decide +kernel
theorem own_d22_29 : decode jdk_42_method_66_code 29 = .ok (.aload_n 2, 1) := by decide +kernel
theorem own_d22_30 : decode jdk_42_method_66_code 30 = .ok (.getfield 15, 3) := by decide +kernel
theorem own_d22_33 : decode jdk_42_method_66_code 33 = .ok (.if_icmp .ne 21, 3) := by decide +kernel
theorem own_d22_36 : decode jdk_42_method_66_code 36 = .ok (.aload_n 0, 1) := by decide +kernel
theorem own_d22_37 : decode jdk_42_method_66_code 37 = .ok (.getfield 9, 3) := by decide +kernel
theorem own_d22_40 : decode jdk_42_method_66_code 40 = .ok (.aload_n 2, 1) := by decide +kernel
theorem own_d22_41 : decode jdk_42_method_66_code 41 = .ok (.getfield 9, 3) := by decide +kernel
theorem own_d22_44 : decode jdk_42_method_66_code 44 = .ok (.invokestatic 541, 3) := by decide +kernel
theorem own_d22_47 : decode jdk_42_method_66_code 47 = .ok (.ifCond .eq 7, 3) := by decide +kernel
theorem own_d22_50 : decode jdk_42_method_66_code 50 = .ok (.iconst 1, 1) := by decide +kernel
theorem own_d22_51 : decode jdk_42_method_66_code 51 = .ok (.goto 4, 3) := by decide +kernel
theorem own_d22_54 : decode jdk_42_method_66_code 54 = .ok (.iconst 0, 1) := by decide +kernel
theorem own_d22_55 : decode jdk_42_method_66_code 55 = .ok (.ireturn, 1) := by decide +kernel
theorem own_pd12 : parseMethodDescriptor "([B[B)Z" = some ⟨[(.array .byte), (.array .byte)], some .boolean⟩ := by decide +kernel
theorem own_ef22d (m : MethodId) (o1 : Addr) (o2 : Addr) : entryFrame m #[(.ref o1), (.ref o2)] 3 = mkF m 0 #[.val (.ref o1), .val (.ref o2), .unset] [] := by first | (simp [entryFrame, mkF, argsToLocals, Value.category]; done) | rfl
def own_Q22d (Z : State) (cs : Int32) (S_cs : Sta Z Z.heap "java/lang/String" "COMPACT_STRINGS" "Z" (.int cs)) (hcs : ¬ cs = (0 : Int32)) (sf : Value) (S_sf : Sta Z Z.heap "jdk/internal/util/Preconditions" "SIOOBE_FORMATTER" "Ljava/util/function/BiFunction;" sf) (hsf : sf.isRef = true) (o1 : Addr) (o2 : Addr) (b1 : Addr) (kb1 : ClassId) (n1 : Int32) (x1 : Int32) (y1 : Int32) (b2 : Addr) (kb2 : ClassId) (n2 : Int32) (x2 : Int32) (y2 : Int32) (h0 : Heap) (n0 : Nat) (v : Option Value) (h : Heap) (L : List Loc) : Prop := v = some (.int (own_eqB n1 x1 y1 n2 x2 y2)) ∧ Fr n0 L ∧ h = h0
set_option maxRecDepth 65536 in
set_option maxHeartbeats 40000000 in
theorem own_rm22d (l : Launch) (Z : State) (a0 : Array Value) (hw : ∀ d ∈ tables_1, d.before a0 Z = true) (ws : List Jvm.Cond) (cs : Int32) (S_cs : Sta Z Z.heap "java/lang/String" "COMPACT_STRINGS" "Z" (.int cs)) (hcs : ¬ cs = (0 : Int32)) (sf : Value) (S_sf : Sta Z Z.heap "jdk/internal/util/Preconditions" "SIOOBE_FORMATTER" "Ljava/util/function/BiFunction;" sf) (hsf : sf.isRef = true) (o1 : Addr) (o2 : Addr) (b1 : Addr) (kb1 : ClassId) (n1 : Int32) (x1 : Int32) (y1 : Int32) (b2 : Addr) (kb2 : ClassId) (n2 : Int32) (x2 : Int32) (y2 : Int32) (h0 : Heap) (n0 : Nat) (Z0 : n0 ≤ h0.size) (pE1 : Exa Z h0 o1 "java/lang/String") (pF2 : Fld Z h0 o1 "java/lang/String" "value" "[B" (.ref b1)) (pF3 : Fld Z h0 o1 "java/lang/String" "coder" "B" (.int (0 : Int32))) (pV4 : Arv Z h0 b1 kb1 .byte n1 (own_sl n1 x1 y1) (.int (0 : Int32))) (pE5 : Exa Z h0 o2 "java/lang/String") (pF6 : Fld Z h0 o2 "java/lang/String" "value" "[B" (.ref b2)) (pF7 : Fld Z h0 o2 "java/lang/String" "coder" "B" (.int (0 : Int32))) (pV8 : Arv Z h0 b2 kb2 .byte n2 (own_sl n2 x2 y2) (.int (0 : Int32))) (O0 : Old Z n0 h0) (pN10 : o1 ≠ o2) (hn1 : own_N n1) (hn2 : own_N n2) :
    MetFree l (⟨"java/lang/String", "equals", "(Ljava/lang/Object;)Z"⟩ : MethodName) (head1 (Jvm.Cond.code (⟨"java/lang/String", "equals", "(Ljava/lang/Object;)Z"⟩ : MethodName) jdk_42_method_66_code 3 (some .boolean) :: ws) ({ frames := 1, cells := 0, slots := 0, locals := 14 } : Room)) (fun a U => a = #[(.ref o1), (.ref o2)] ∧ Z.Warmed39 U.vm ∧ U.heap = h0) (fun _ _ _ _ _ => True) (fun _ U o U' => ∃ v L, o = .returned v ∧ own_Q22d Z cs S_cs hcs sf S_sf hsf o1 o2 b1 kb1 n1 x1 y1 b2 kb2 n2 x2 y2 h0 n0 v U'.heap L ∧ FrameEnd U o U' L ({ frames := 1, cells := 0, slots := 0, locals := 14 } : Room).cells ({ frames := 1, cells := 0, slots := 0, locals := 14 } : Room).slots) := by
  refine MetFree.of_bodySF (plainFor_of_name own_pn1) hisR ?_
  intro p e s m args below meth c s₁ Bd hml0 hP hK
  obtain ⟨rfl, hZ, hh⟩ := hP
  have hx := Bd.exec
  have hby := Bd.bytes
  have hlk := Bd.notSynchronized
  have hrt := Bd.returns
  have hml : c.maxLocals = 3 := hml0
  have hown : s.vm.findClass "java/lang/String" = some m.cls := findClass_of_methodNamed Bd.named
  have hnm := (name_of_methodNamed Bd.named Bd.method).1
  have X0 : Stand p l e ({ frames := 1, cells := 0, slots := 0, locals := 14 } : Room) s m #[(.ref o1), (.ref o2)] below meth c s₁ [] 0 0 := Stand.of_body Bd
  have e0 : s₁.heap = h0 := by rw [← hh, Bd.state]; rfl
  have N0 := Fr.nil n0
  refine own_in (own_ef22d m o1 o2) ?_
  refine own_aloadN X0 hx 1 (hb hby own_d22_0) rfl rfl ?_
  refine own_aloadN X0 hx 2 (hb hby own_d22_1) rfl rfl ?_
  refine own_acmp X0 hx 7 false (hb hby own_d22_2) rfl rfl (decide_eq_false fun q => (pN10 : ¬ (o1 = o2)) (Value.ref.inj q)) ?_
  refine own_aloadN X0 hx 8 (hb hby own_d22_7) rfl rfl ?_
  obtain ⟨T1, X1, e1, st1⟩ := instY X0 hx hZ hown (hw _ (List.mem_of_getElem? (i := 113) rfl)) e0 (Ins.self pE5) (g := (mkF m 8 #[.val (.ref o1), .val (.ref o2), .unset] [(.ref o2)])) rfl rfl (hb hby own_d22_8)
  refine own_st (G' := T1.setTop (mkF m 11 #[.val (.ref o1), .val (.ref o2), .unset] [(.int (1 : Int32))])) st1 ?_
  obtain ⟨_, X1h, N1h⟩ := own_hide X1 N0
  refine own_ifNo X1h hx 14 (hb hby own_d22_11) (feq (by decide : ¬ ((1 : Int32) = (0 : Int32)))).1 ?_
  refine own_aloadN X1h hx 15 (hb hby own_d22_14) rfl rfl ?_
  obtain ⟨T2, X2, e2, st2⟩ := castY X1h hx hZ hown (hw _ (List.mem_of_getElem? (i := 113) rfl)) e1 (Ins.self pE5) (g := (mkF m 15 #[.val (.ref o1), .val (.ref o2), .unset] [(.ref o2)])) rfl rfl (hb hby own_d22_15)
  refine own_st (G' := T2.setTop (mkF m 18 #[.val (.ref o1), .val (.ref o2), .unset] [(.ref o2)])) st2 ?_
  obtain ⟨_, X2h, N2h⟩ := own_hide X2 N1h
  refine own_astoreN X2h hx 19 #[.val (.ref o1), .val (.ref o2), .val (.ref o2)] (hb hby own_d22_18) rfl rfl ?_
  obtain ⟨T3, X3, e3, st3⟩ := getS2 X2h hx hZ hown (host := "") (Or.inl (hw _ (List.mem_of_getElem? (i := 18) rfl))) Via.refl e2 (S_cs.ext O0.2) (g := (mkF m 19 #[.val (.ref o1), .val (.ref o2), .val (.ref o2)] [])) rfl (hb hby own_d22_19)
  refine own_st (G' := T3.setTop (mkF m 22 #[.val (.ref o1), .val (.ref o2), .val (.ref o2)] [(.int cs)])) st3 ?_
  obtain ⟨_, X3h, N3h⟩ := own_hide X3 N2h
  refine own_ifNo X3h hx 25 (hb hby own_d22_22) (feq (hcs : ¬ (cs = (0 : Int32)))).1 ?_
  refine own_aloadN X3h hx 26 (hb hby own_d22_25) rfl rfl ?_
  obtain ⟨T4, X4, e4, st4⟩ := getF X3h hx hZ hown (host := "") (Or.inl (hw _ (List.mem_of_getElem? (i := 30) rfl))) Via.refl e3 pF3 (g := (mkF m 26 #[.val (.ref o1), .val (.ref o2), .val (.ref o2)] [(.ref o1)])) rfl rfl (hb hby own_d22_26)
  refine own_st (G' := T4.setTop (mkF m 29 #[.val (.ref o1), .val (.ref o2), .val (.ref o2)] [(.int (0 : Int32))])) st4 ?_
  obtain ⟨_, X4h, N4h⟩ := own_hide X4 N3h
  refine own_aloadN X4h hx 30 (hb hby own_d22_29) rfl rfl ?_
  obtain ⟨T5, X5, e5, st5⟩ := getF X4h hx hZ hown (host := "") (Or.inl (hw _ (List.mem_of_getElem? (i := 30) rfl))) Via.refl e4 pF7 (g := (mkF m 30 #[.val (.ref o1), .val (.ref o2), .val (.ref o2)] [(.ref o2), (.int (0 : Int32))])) rfl rfl (hb hby own_d22_30)
  refine own_st (G' := T5.setTop (mkF m 33 #[.val (.ref o1), .val (.ref o2), .val (.ref o2)] [(.int (0 : Int32)), (.int (0 : Int32))])) st5 ?_
  obtain ⟨_, X5h, N5h⟩ := own_hide X5 N4h
  refine own_icmpNo X5h hx 36 (hb hby own_d22_33) (teq (rfl : (0 : Int32) = (0 : Int32))).2 ?_
  refine own_aloadN X5h hx 37 (hb hby own_d22_36) rfl rfl ?_
  obtain ⟨T6, X6, e6, st6⟩ := getF X5h hx hZ hown (host := "") (Or.inl (hw _ (List.mem_of_getElem? (i := 32) rfl))) Via.refl e5 pF2 (g := (mkF m 37 #[.val (.ref o1), .val (.ref o2), .val (.ref o2)] [(.ref o1)])) rfl rfl (hb hby own_d22_37)
  refine own_st (G' := T6.setTop (mkF m 40 #[.val (.ref o1), .val (.ref o2), .val (.ref o2)] [(.ref b1)])) st6 ?_
  obtain ⟨_, X6h, N6h⟩ := own_hide X6 N5h
  refine own_aloadN X6h hx 41 (hb hby own_d22_40) rfl rfl ?_
  obtain ⟨T7, X7, e7, st7⟩ := getF X6h hx hZ hown (host := "") (Or.inl (hw _ (List.mem_of_getElem? (i := 32) rfl))) Via.refl e6 pF6 (g := (mkF m 41 #[.val (.ref o1), .val (.ref o2), .val (.ref o2)] [(.ref o2), (.ref b1)])) rfl rfl (hb hby own_d22_41)
  refine own_st (G' := T7.setTop (mkF m 44 #[.val (.ref o1), .val (.ref o2), .val (.ref o2)] [(.ref b2), (.ref b1)])) st7 ?_
  obtain ⟨_, X7h, N7h⟩ := own_hide X7 N6h
  obtain ⟨_, _, ⟨T8, Lx8, kc8, nc8⟩, -, X8, ⟨Lc8, hQ8, lq8, yq8, zq8⟩, st8⟩ := Jvm.LawKit.callS X7h hx (y := (⟨"java/lang/StringLatin1", "equals", "([B[B)Z"⟩ : MethodName)) hown (mvT hZ (hw _ (List.mem_of_getElem? (i := 114) rfl))) (mvT hZ (hw _ (List.mem_of_getElem? (i := 115) rfl))) (mvT hZ (hw _ (List.mem_of_getElem? (i := 91) rfl))) (mvT hZ (hw _ (List.mem_of_getElem? (i := 116) rfl))) (by decide) (backOf (W := 0) (own_rm23 l Z a0 hw [] b1 b2 kb1 n1 x1 y1 kb2 n2 x2 y2 h0 n0 Z0 pV4 pV8 (hn1 : own_N n1) (hn2 : own_N n2)) hZ (hw _ (List.mem_of_getElem? (i := 116) rfl)) (hw _ (List.mem_of_getElem? (i := 91) rfl)) (by decide) (by decide)) (g := (mkF m 44 #[.val (.ref o1), .val (.ref o2), .val (.ref o2)] [(.ref b2), (.ref b1)])) rfl (by rw [hml]; rfl) (argsL := [(.ref b1), (.ref b2)]) (rest := []) (lenOf own_pd12 rfl) rfl (by show 2 * 0 + _ ≤ _; exact Nat.le_of_eq rfl) (hb hby own_d22_44) (fun _ _ => ⟨rfl, e7, (by decide : 0 + 0 ≤ _), (by decide : 0 + 0 ≤ _)⟩)
  dsimp only [Pt.U, Pt.locs, Pt.cells, Pt.slots] at X8 lq8 yq8 zq8 st8 hQ8
  subst lq8 yq8 zq8
  obtain ⟨rfl, Nq8, eh8⟩ := hQ8
  have N8 := Fr.app N7h Nq8
  refine own_st (G' := T8.setTop (mkF m 47 #[.val (.ref o1), .val (.ref o2), .val (.ref o2)] [(.int (own_eqB n1 x1 y1 n2 x2 y2))])) st8 ?_
  obtain ⟨_, X8h, N8h⟩ := own_hide X8 N8
  by_cases hc47_9 : (own_eqB n1 x1 y1 n2 x2 y2) = (0 : Int32)
  · refine own_ifYes X8h hx 54 (hb hby own_d22_47) (teq hc47_9).1 ?_
    refine own_iconst X8h hx 55 (0 : Int32) (hb hby own_d22_54) rfl ?_
    exact own_retN (t := .boolean) (z := (0 : Int32)) (Q := own_Q22d Z cs S_cs hcs sf S_sf hsf o1 o2 b1 kb1 n1 x1 y1 b2 kb2 n2 x2 y2 h0 n0) X8h hx hrt (by simp) (hb hby own_d22_55) hlk eh8 ⟨(own_leafI (hc47_9.symm)), N8h, rfl⟩ (by decide) (by decide)
  · refine own_ifNo X8h hx 50 (hb hby own_d22_47) (feq hc47_9).1 ?_
    refine own_iconst X8h hx 51 (1 : Int32) (hb hby own_d22_50) rfl ?_
    refine own_goto X8h hx 55 (hb hby own_d22_51) ?_
    exact own_retN (t := .boolean) (z := (1 : Int32)) (Q := own_Q22d Z cs S_cs hcs sf S_sf hsf o1 o2 b1 kb1 n1 x1 y1 b2 kb2 n2 x2 y2 h0 n0) X8h hx hrt (by simp) (hb hby own_d22_55) hlk eh8 ⟨(own_leafI (own_eq1 hc47_9)), N8h, rfl⟩ (by decide) (by decide)
theorem own_d22_5 : decode jdk_42_method_66_code 5 = .ok (.iconst 1, 1) := by decide +kernel
theorem own_d22_6 : decode jdk_42_method_66_code 6 = .ok (.ireturn, 1) := by decide +kernel
theorem own_ef22s (m : MethodId) (o1 : Addr) : entryFrame m #[(.ref o1), (.ref o1)] 3 = mkF m 0 #[.val (.ref o1), .val (.ref o1), .unset] [] := by first | (simp [entryFrame, mkF, argsToLocals, Value.category]; done) | rfl
def own_Q22s (Z : State) (o1 : Addr) (h0 : Heap) (n0 : Nat) (v : Option Value) (h : Heap) (L : List Loc) : Prop := v = some (.int (1 : Int32)) ∧ Fr n0 L ∧ h = h0
set_option maxRecDepth 65536 in
set_option maxHeartbeats 40000000 in
theorem own_rm22s (l : Launch) (Z : State) (a0 : Array Value) (hw : ∀ d ∈ tables_1, d.before a0 Z = true) (ws : List Jvm.Cond) (o1 : Addr) (h0 : Heap) (n0 : Nat) (Z0 : n0 ≤ h0.size)  :
    MetFree l (⟨"java/lang/String", "equals", "(Ljava/lang/Object;)Z"⟩ : MethodName) (head1 (Jvm.Cond.code (⟨"java/lang/String", "equals", "(Ljava/lang/Object;)Z"⟩ : MethodName) jdk_42_method_66_code 3 (some .boolean) :: ws) ({ frames := 0, cells := 0, slots := 0, locals := 0 } : Room)) (fun a U => a = #[(.ref o1), (.ref o1)] ∧ Z.Warmed39 U.vm ∧ U.heap = h0) (fun _ _ _ _ _ => True) (fun _ U o U' => ∃ v L, o = .returned v ∧ own_Q22s Z o1 h0 n0 v U'.heap L ∧ FrameEnd U o U' L ({ frames := 0, cells := 0, slots := 0, locals := 0 } : Room).cells ({ frames := 0, cells := 0, slots := 0, locals := 0 } : Room).slots) := by
  refine MetFree.of_bodySF (plainFor_of_name own_pn1) hisR ?_
  intro p e s m args below meth c s₁ Bd hml0 hP hK
  obtain ⟨rfl, hZ, hh⟩ := hP
  have hx := Bd.exec
  have hby := Bd.bytes
  have hlk := Bd.notSynchronized
  have hrt := Bd.returns
  have hml : c.maxLocals = 3 := hml0
  have hown : s.vm.findClass "java/lang/String" = some m.cls := findClass_of_methodNamed Bd.named
  have hnm := (name_of_methodNamed Bd.named Bd.method).1
  have X0 : Stand p l e ({ frames := 0, cells := 0, slots := 0, locals := 0 } : Room) s m #[(.ref o1), (.ref o1)] below meth c s₁ [] 0 0 := Stand.of_body Bd
  have e0 : s₁.heap = h0 := by rw [← hh, Bd.state]; rfl
  have N0 := Fr.nil n0
  refine own_in (own_ef22s m o1) ?_
  refine own_aloadN X0 hx 1 (hb hby own_d22_0) rfl rfl ?_
  refine own_aloadN X0 hx 2 (hb hby own_d22_1) rfl rfl ?_
  refine own_acmp X0 hx 5 true (hb hby own_d22_2) rfl rfl (decide_eq_true rfl) ?_
  refine own_iconst X0 hx 6 (1 : Int32) (hb hby own_d22_5) rfl ?_
  exact own_retN (t := .boolean) (z := (1 : Int32)) (Q := own_Q22s Z o1 h0 n0) X0 hx hrt (by simp) (hb hby own_d22_6) hlk e0 ⟨rfl, N0, rfl⟩ (by decide) (by decide)
theorem own_d10_0 : decode jdk_31_method_11_code 0 = .ok (.aload_n 0, 1) := by decide +kernel
theorem own_d10_1 : decode jdk_31_method_11_code 1 = .ok (.ifnonnull 12, 3) := by decide +kernel
theorem own_d10_13 : decode jdk_31_method_11_code 13 = .ok (.aload_n 0, 1) := by decide +kernel
theorem own_d10_14 : decode jdk_31_method_11_code 14 = .ok (.areturn, 1) := by decide +kernel
theorem own_pn5 : plainName "java/util/Objects" = true := by first | (simp [plainName, overriddenIn]; done) | decide +kernel
theorem own_ef10 (m : MethodId) (o1 : Addr) (o2 : Addr) : entryFrame m #[(.ref o1), (.ref o2)] 2 = mkF m 0 #[.val (.ref o1), .val (.ref o2)] [] := by first | (simp [entryFrame, mkF, argsToLocals, Value.category]; done) | rfl
def own_Q10 (Z : State) (o1 : Addr) (o2 : Addr) (h0 : Heap) (n0 : Nat) (v : Option Value) (h : Heap) (L : List Loc) : Prop := v = some (.ref o1) ∧ Fr n0 L ∧ h = h0
set_option maxRecDepth 65536 in
set_option maxHeartbeats 40000000 in
theorem own_rm10 (l : Launch) (Z : State) (a0 : Array Value) (hw : ∀ d ∈ tables_1, d.before a0 Z = true) (ws : List Jvm.Cond) (o1 : Addr) (o2 : Addr) (h0 : Heap) (n0 : Nat) (Z0 : n0 ≤ h0.size)  :
    MetFree l (⟨"java/util/Objects", "requireNonNull", "(Ljava/lang/Object;Ljava/lang/String;)Ljava/lang/Object;"⟩ : MethodName) (head1 (Jvm.Cond.code (⟨"java/util/Objects", "requireNonNull", "(Ljava/lang/Object;Ljava/lang/String;)Ljava/lang/Object;"⟩ : MethodName) jdk_31_method_11_code 2 (some (.object "java/lang/Object")) :: ws) ({ frames := 0, cells := 0, slots := 0, locals := 0 } : Room)) (fun a U => a = #[(.ref o1), (.ref o2)] ∧ Z.Warmed39 U.vm ∧ U.heap = h0) (fun _ _ _ _ _ => True) (fun _ U o U' => ∃ v L, o = .returned v ∧ own_Q10 Z o1 o2 h0 n0 v U'.heap L ∧ FrameEnd U o U' L ({ frames := 0, cells := 0, slots := 0, locals := 0 } : Room).cells ({ frames := 0, cells := 0, slots := 0, locals := 0 } : Room).slots) := by
  refine MetFree.of_bodySF (plainFor_of_name own_pn5) hisR ?_
  intro p e s m args below meth c s₁ Bd hml0 hP hK
  obtain ⟨rfl, hZ, hh⟩ := hP
  have hx := Bd.exec
  have hby := Bd.bytes
  have hlk := Bd.notSynchronized
  have hrt := Bd.returns
  have hml : c.maxLocals = 2 := hml0
  have hown : s.vm.findClass "java/util/Objects" = some m.cls := findClass_of_methodNamed Bd.named
  have hnm := (name_of_methodNamed Bd.named Bd.method).1
  have X0 : Stand p l e ({ frames := 0, cells := 0, slots := 0, locals := 0 } : Room) s m #[(.ref o1), (.ref o2)] below meth c s₁ [] 0 0 := Stand.of_body Bd
  have e0 : s₁.heap = h0 := by rw [← hh, Bd.state]; rfl
  have N0 := Fr.nil n0
  refine own_in (own_ef10 m o1 o2) ?_
  refine own_aloadN X0 hx 1 (hb hby own_d10_0) rfl rfl ?_
  refine own_ifnonnullYes X0 hx 13 (hb hby own_d10_1) ?_
  refine own_aloadN X0 hx 14 (hb hby own_d10_13) rfl rfl ?_
  exact own_retA (z := (.ref o1)) (Q := own_Q10 Z o1 o2 h0 n0) X0 hx hrt rfl rfl (hb hby own_d10_14) hlk e0 ⟨rfl, N0, rfl⟩ (by decide) (by decide)
theorem own_d12_0 : decode prog_12_method_3_code 0 = .ok (.aload_n 1, 1) := by decide +kernel
theorem own_d12_1 : decode prog_12_method_3_code 1 = .ok (.invokevirtual 34, 3) := by decide +kernel
theorem own_d12_4 : decode prog_12_method_3_code 4 = .ok (.iload_n 2, 1) := by decide +kernel
theorem own_d12_5 : decode prog_12_method_3_code 5 = .ok (.if_icmp .le 22, 3) := by decide +kernel
theorem own_d12_27 : decode prog_12_method_3_code 27 = .ok (.aload_n 1, 1) := by decide +kernel
theorem own_d12_28 : decode prog_12_method_3_code 28 = .ok (.areturn, 1) := by decide +kernel
theorem own_pn6 : plainName "com/example/fates/fates/Lengths" = true := by first | (simp [plainName, overriddenIn]; done) | decide +kernel
theorem own_ef12 (m : MethodId) (o1 : Addr) (o2 : Addr) : entryFrame m #[(.ref o1), (.ref o2), (.int (200 : Int32))] 3 = mkF m 0 #[.val (.ref o1), .val (.ref o2), .val (.int (200 : Int32))] [] := by first | (simp [entryFrame, mkF, argsToLocals, Value.category]; done) | rfl
def own_Q12 (Z : State) (cs : Int32) (S_cs : Sta Z Z.heap "java/lang/String" "COMPACT_STRINGS" "Z" (.int cs)) (hcs : ¬ cs = (0 : Int32)) (sf : Value) (S_sf : Sta Z Z.heap "jdk/internal/util/Preconditions" "SIOOBE_FORMATTER" "Ljava/util/function/BiFunction;" sf) (hsf : sf.isRef = true) (o1 : Addr) (o2 : Addr) (b : Addr) (kb : ClassId) (n : Int32) (x : Int32) (y : Int32) (h0 : Heap) (n0 : Nat) (v : Option Value) (h : Heap) (L : List Loc) : Prop := v = some (.ref o2) ∧ Fr n0 L ∧ h = h0
set_option maxRecDepth 65536 in
set_option maxHeartbeats 40000000 in
theorem own_rm12 (l : Launch) (Z : State) (a0 : Array Value) (hw : ∀ d ∈ tables_1, d.before a0 Z = true) (ws : List Jvm.Cond) (cs : Int32) (S_cs : Sta Z Z.heap "java/lang/String" "COMPACT_STRINGS" "Z" (.int cs)) (hcs : ¬ cs = (0 : Int32)) (sf : Value) (S_sf : Sta Z Z.heap "jdk/internal/util/Preconditions" "SIOOBE_FORMATTER" "Ljava/util/function/BiFunction;" sf) (hsf : sf.isRef = true) (o1 : Addr) (o2 : Addr) (b : Addr) (kb : ClassId) (n : Int32) (x : Int32) (y : Int32) (h0 : Heap) (n0 : Nat) (Z0 : n0 ≤ h0.size) (pE1 : Exa Z h0 o2 "java/lang/String") (pF2 : Fld Z h0 o2 "java/lang/String" "value" "[B" (.ref b)) (pF3 : Fld Z h0 o2 "java/lang/String" "coder" "B" (.int (0 : Int32))) (pV4 : Arv Z h0 b kb .byte n (own_sl n x y) (.int (0 : Int32))) (O0 : Old Z n0 h0) (hn : own_N n) :
    MetFree l (⟨"com/example/fates/fates/Lengths", "atMost", "(Ljava/lang/String;Ljava/lang/String;I)Ljava/lang/String;"⟩ : MethodName) (head1 (Jvm.Cond.code (⟨"com/example/fates/fates/Lengths", "atMost", "(Ljava/lang/String;Ljava/lang/String;I)Ljava/lang/String;"⟩ : MethodName) prog_12_method_3_code 3 (some (.object "java/lang/String")) :: ws) ({ frames := 2, cells := 0, slots := 0, locals := 25 } : Room)) (fun a U => a = #[(.ref o1), (.ref o2), (.int (200 : Int32))] ∧ Z.Warmed39 U.vm ∧ U.heap = h0) (fun _ _ _ _ _ => True) (fun _ U o U' => ∃ v L, o = .returned v ∧ own_Q12 Z cs S_cs hcs sf S_sf hsf o1 o2 b kb n x y h0 n0 v U'.heap L ∧ FrameEnd U o U' L ({ frames := 2, cells := 0, slots := 0, locals := 25 } : Room).cells ({ frames := 2, cells := 0, slots := 0, locals := 25 } : Room).slots) := by
  refine MetFree.of_bodySF (plainFor_of_name own_pn6) hisR ?_
  intro p e s m args below meth c s₁ Bd hml0 hP hK
  obtain ⟨rfl, hZ, hh⟩ := hP
  have hx := Bd.exec
  have hby := Bd.bytes
  have hlk := Bd.notSynchronized
  have hrt := Bd.returns
  have hml : c.maxLocals = 3 := hml0
  have hown : s.vm.findClass "com/example/fates/fates/Lengths" = some m.cls := findClass_of_methodNamed Bd.named
  have hnm := (name_of_methodNamed Bd.named Bd.method).1
  have X0 : Stand p l e ({ frames := 2, cells := 0, slots := 0, locals := 25 } : Room) s m #[(.ref o1), (.ref o2), (.int (200 : Int32))] below meth c s₁ [] 0 0 := Stand.of_body Bd
  have e0 : s₁.heap = h0 := by rw [← hh, Bd.state]; rfl
  have N0 := Fr.nil n0
  refine own_in (own_ef12 m o1 o2) ?_
  refine own_aloadN X0 hx 1 (hb hby own_d12_0) rfl rfl ?_
  obtain ⟨cq1, kq1, q1a, q1b, q1c⟩ := isOf hZ e0 pE1
  obtain ⟨_, _, ⟨T1, Lx1, kc1, nc1⟩, -, X1, ⟨Lc1, hQ1, lq1, yq1, zq1⟩, st1⟩ := X0.virtualBack hx (y := (⟨"java/lang/String", "length", "()I"⟩ : MethodName)) (z := (⟨"java/lang/String", "length", "()I"⟩ : MethodName)) hown (mvT hZ (hw _ (List.mem_of_getElem? (i := 60) rfl))) (mvT hZ (hw _ (List.mem_of_getElem? (i := 61) rfl))) (notFace_of_selects (args := #[]) (mvT hZ (hw _ (List.mem_of_getElem? (i := 63) rfl)))) (mvT hZ (hw _ (List.mem_of_getElem? (i := 63) rfl))) (mvT hZ (hw _ (List.mem_of_getElem? (i := 62) rfl))) (by decide) (backOf (W := 0) (own_rm13 l Z a0 hw [] cs S_cs hcs sf S_sf hsf o2 b kb n x y h0 n0 Z0 pE1 pF2 pF3 pV4 O0) hZ (hw _ (List.mem_of_getElem? (i := 64) rfl)) (hw _ (List.mem_of_getElem? (i := 7) rfl)) (by decide) (by decide)) q1a q1c (g := (mkF m 1 #[.val (.ref o1), .val (.ref o2), .val (.int (200 : Int32))] [(.ref o2)])) rfl (by rw [hml]; rfl) (Steps.refl _) (argsL := []) (rest := []) (lenOf own_pd10 rfl) rfl (by show 2 * 0 + _ ≤ _; exact Nat.le_of_eq rfl) (hb hby own_d12_1) (fun _ _ => ⟨rfl, e0, (by decide : 0 + 0 ≤ _), (by decide : 0 + 0 ≤ _)⟩)
  dsimp only [Pt.U, Pt.locs, Pt.cells, Pt.slots] at X1 lq1 yq1 zq1 st1 hQ1
  subst lq1 yq1 zq1
  obtain ⟨rfl, Nq1, eh1⟩ := hQ1
  have N1 := Fr.app N0 Nq1
  refine own_st (G' := T1.setTop (mkF m 4 #[.val (.ref o1), .val (.ref o2), .val (.int (200 : Int32))] [(.int n)])) (fun t k => st1.trans k) ?_
  obtain ⟨_, X1h, N1h⟩ := own_hide X1 N1
  refine own_iloadN X1h hx 5 (hb hby own_d12_4) rfl ?_
  refine own_icmpYes X1h hx 27 (hb hby own_d12_5) (flt (own_n200 hn : ¬ ((200 : Int32) < n))).2.2.2 ?_
  refine own_aloadN X1h hx 28 (hb hby own_d12_27) rfl rfl ?_
  exact own_retA (z := (.ref o2)) (Q := own_Q12 Z cs S_cs hcs sf S_sf hsf o1 o2 b kb n x y h0 n0) X1h hx hrt rfl rfl (hb hby own_d12_28) hlk eh1 ⟨rfl, N1h, rfl⟩ (by decide) (by decide)
theorem own_d9_0 : decode prog_12_method_2_code 0 = .ok (.aload_n 1, 1) := by decide +kernel
theorem own_d9_1 : decode prog_12_method_2_code 1 = .ok (.aload_n 0, 1) := by decide +kernel
theorem own_d9_2 : decode prog_12_method_2_code 2 = .ok (.invokestatic 7, 3) := by decide +kernel
theorem own_d9_5 : decode prog_12_method_2_code 5 = .ok (.pop, 1) := by decide +kernel
theorem own_d9_6 : decode prog_12_method_2_code 6 = .ok (.aload_n 1, 1) := by decide +kernel
theorem own_d9_7 : decode prog_12_method_2_code 7 = .ok (.invokevirtual 13, 3) := by decide +kernel
theorem own_d9_10 : decode prog_12_method_2_code 10 = .ok (.ifCond .eq 17, 3) := by decide +kernel
theorem own_d9_27 : decode prog_12_method_2_code 27 = .ok (.aload_n 0, 1) := by decide +kernel
theorem own_d9_28 : decode prog_12_method_2_code 28 = .ok (.aload_n 1, 1) := by decide +kernel
theorem own_d9_29 : decode prog_12_method_2_code 29 = .ok (.iload_n 2, 1) := by decide +kernel
theorem own_d9_30 : decode prog_12_method_2_code 30 = .ok (.invokestatic 28, 3) := by decide +kernel
theorem own_d9_33 : decode prog_12_method_2_code 33 = .ok (.areturn, 1) := by decide +kernel
theorem own_pd13 : parseMethodDescriptor "(Ljava/lang/Object;Ljava/lang/String;)Ljava/lang/Object;" = some ⟨[(.object "java/lang/Object"), (.object "java/lang/String")], some (.object "java/lang/Object")⟩ := by decide +kernel
theorem own_pd14 : parseMethodDescriptor "(Ljava/lang/String;Ljava/lang/String;I)Ljava/lang/String;" = some ⟨[(.object "java/lang/String"), (.object "java/lang/String"), .int], some (.object "java/lang/String")⟩ := by decide +kernel
theorem own_ef9 (m : MethodId) (o1 : Addr) (o2 : Addr) : entryFrame m #[(.ref o1), (.ref o2), (.int (200 : Int32))] 3 = mkF m 0 #[.val (.ref o1), .val (.ref o2), .val (.int (200 : Int32))] [] := by first | (simp [entryFrame, mkF, argsToLocals, Value.category]; done) | rfl
def own_Q9 (Z : State) (cs : Int32) (S_cs : Sta Z Z.heap "java/lang/String" "COMPACT_STRINGS" "Z" (.int cs)) (hcs : ¬ cs = (0 : Int32)) (sf : Value) (S_sf : Sta Z Z.heap "jdk/internal/util/Preconditions" "SIOOBE_FORMATTER" "Ljava/util/function/BiFunction;" sf) (hsf : sf.isRef = true) (o1 : Addr) (o2 : Addr) (b : Addr) (kb : ClassId) (n : Int32) (x : Int32) (y : Int32) (h0 : Heap) (n0 : Nat) (v : Option Value) (h : Heap) (L : List Loc) : Prop := v = some (.ref o2) ∧ Fr n0 L ∧ h = h0
set_option maxRecDepth 65536 in
set_option maxHeartbeats 40000000 in
theorem own_rm9 (l : Launch) (Z : State) (a0 : Array Value) (hw : ∀ d ∈ tables_1, d.before a0 Z = true) (ws : List Jvm.Cond) (cs : Int32) (S_cs : Sta Z Z.heap "java/lang/String" "COMPACT_STRINGS" "Z" (.int cs)) (hcs : ¬ cs = (0 : Int32)) (sf : Value) (S_sf : Sta Z Z.heap "jdk/internal/util/Preconditions" "SIOOBE_FORMATTER" "Ljava/util/function/BiFunction;" sf) (hsf : sf.isRef = true) (o1 : Addr) (o2 : Addr) (b : Addr) (kb : ClassId) (n : Int32) (x : Int32) (y : Int32) (h0 : Heap) (n0 : Nat) (Z0 : n0 ≤ h0.size) (pE1 : Exa Z h0 o2 "java/lang/String") (pF2 : Fld Z h0 o2 "java/lang/String" "value" "[B" (.ref b)) (pF3 : Fld Z h0 o2 "java/lang/String" "coder" "B" (.int (0 : Int32))) (pV4 : Arv Z h0 b kb .byte n (own_sl n x y) (.int (0 : Int32))) (O0 : Old Z n0 h0) (hn : own_N n) :
    MetFree l (⟨"com/example/fates/fates/Lengths", "nonEmptyAtMost", "(Ljava/lang/String;Ljava/lang/String;I)Ljava/lang/String;"⟩ : MethodName) (head1 (Jvm.Cond.code (⟨"com/example/fates/fates/Lengths", "nonEmptyAtMost", "(Ljava/lang/String;Ljava/lang/String;I)Ljava/lang/String;"⟩ : MethodName) prog_12_method_2_code 3 (some (.object "java/lang/String")) :: ws) ({ frames := 3, cells := 0, slots := 0, locals := 39 } : Room)) (fun a U => a = #[(.ref o1), (.ref o2), (.int (200 : Int32))] ∧ Z.Warmed39 U.vm ∧ U.heap = h0) (fun _ _ _ _ _ => True) (fun _ U o U' => ∃ v L, o = .returned v ∧ own_Q9 Z cs S_cs hcs sf S_sf hsf o1 o2 b kb n x y h0 n0 v U'.heap L ∧ FrameEnd U o U' L ({ frames := 3, cells := 0, slots := 0, locals := 39 } : Room).cells ({ frames := 3, cells := 0, slots := 0, locals := 39 } : Room).slots) := by
  refine MetFree.of_bodySF (plainFor_of_name own_pn6) hisR ?_
  intro p e s m args below meth c s₁ Bd hml0 hP hK
  obtain ⟨rfl, hZ, hh⟩ := hP
  have hx := Bd.exec
  have hby := Bd.bytes
  have hlk := Bd.notSynchronized
  have hrt := Bd.returns
  have hml : c.maxLocals = 3 := hml0
  have hown : s.vm.findClass "com/example/fates/fates/Lengths" = some m.cls := findClass_of_methodNamed Bd.named
  have hnm := (name_of_methodNamed Bd.named Bd.method).1
  have X0 : Stand p l e ({ frames := 3, cells := 0, slots := 0, locals := 39 } : Room) s m #[(.ref o1), (.ref o2), (.int (200 : Int32))] below meth c s₁ [] 0 0 := Stand.of_body Bd
  have e0 : s₁.heap = h0 := by rw [← hh, Bd.state]; rfl
  have N0 := Fr.nil n0
  refine own_in (own_ef9 m o1 o2) ?_
  refine own_aloadN X0 hx 1 (hb hby own_d9_0) rfl rfl ?_
  refine own_aloadN X0 hx 2 (hb hby own_d9_1) rfl rfl ?_
  obtain ⟨_, _, ⟨T1, Lx1, kc1, nc1⟩, -, X1, ⟨Lc1, hQ1, lq1, yq1, zq1⟩, st1⟩ := Jvm.LawKit.callS X0 hx (y := (⟨"java/util/Objects", "requireNonNull", "(Ljava/lang/Object;Ljava/lang/String;)Ljava/lang/Object;"⟩ : MethodName)) hown (mvT hZ (hw _ (List.mem_of_getElem? (i := 48) rfl))) (mvT hZ (hw _ (List.mem_of_getElem? (i := 49) rfl))) (mvT hZ (hw _ (List.mem_of_getElem? (i := 50) rfl))) (mvT hZ (hw _ (List.mem_of_getElem? (i := 51) rfl))) (by decide) (backOf (W := 0) (own_rm10 l Z a0 hw [] o2 o1 h0 n0 Z0 ) hZ (hw _ (List.mem_of_getElem? (i := 51) rfl)) (hw _ (List.mem_of_getElem? (i := 50) rfl)) (by decide) (by decide)) (g := (mkF m 2 #[.val (.ref o1), .val (.ref o2), .val (.int (200 : Int32))] [(.ref o1), (.ref o2)])) rfl (by rw [hml]; rfl) (argsL := [(.ref o2), (.ref o1)]) (rest := []) (lenOf own_pd13 rfl) rfl (by show 2 * 0 + _ ≤ _; exact Nat.le_of_eq rfl) (hb hby own_d9_2) (fun _ _ => ⟨rfl, e0, (by decide : 0 + 0 ≤ _), (by decide : 0 + 0 ≤ _)⟩)
  dsimp only [Pt.U, Pt.locs, Pt.cells, Pt.slots] at X1 lq1 yq1 zq1 st1 hQ1
  subst lq1 yq1 zq1
  obtain ⟨rfl, Nq1, eh1⟩ := hQ1
  have N1 := Fr.app N0 Nq1
  refine own_st (G' := T1.setTop (mkF m 5 #[.val (.ref o1), .val (.ref o2), .val (.int (200 : Int32))] [(.ref o2)])) st1 ?_
  obtain ⟨_, X1h, N1h⟩ := own_hide X1 N1
  refine own_pop X1h hx 6 (hb hby own_d9_5) rfl ?_
  refine own_aloadN X1h hx 7 (hb hby own_d9_6) rfl rfl ?_
  obtain ⟨cq2, kq2, q2a, q2b, q2c⟩ := isOf hZ eh1 pE1
  obtain ⟨_, _, ⟨T2, Lx2, kc2, nc2⟩, -, X2, ⟨Lc2, hQ2, lq2, yq2, zq2⟩, st2⟩ := X1h.virtualBack hx (y := (⟨"java/lang/String", "isEmpty", "()Z"⟩ : MethodName)) (z := (⟨"java/lang/String", "isEmpty", "()Z"⟩ : MethodName)) hown (mvT hZ (hw _ (List.mem_of_getElem? (i := 52) rfl))) (mvT hZ (hw _ (List.mem_of_getElem? (i := 53) rfl))) (notFace_of_selects (args := #[]) (mvT hZ (hw _ (List.mem_of_getElem? (i := 55) rfl)))) (mvT hZ (hw _ (List.mem_of_getElem? (i := 55) rfl))) (mvT hZ (hw _ (List.mem_of_getElem? (i := 54) rfl))) (by decide) (backOf (W := 0) (own_rm11 l Z a0 hw [] o2 b kb n x y h0 n0 Z0 pF2 pV4 (hn : own_N n)) hZ (hw _ (List.mem_of_getElem? (i := 56) rfl)) (hw _ (List.mem_of_getElem? (i := 7) rfl)) (by decide) (by decide)) q2a q2c (g := (mkF m 7 #[.val (.ref o1), .val (.ref o2), .val (.int (200 : Int32))] [(.ref o2)])) rfl (by rw [hml]; rfl) (Steps.refl _) (argsL := []) (rest := []) (lenOf own_pd8 rfl) rfl (by show 2 * 0 + _ ≤ _; exact Nat.le_of_eq rfl) (hb hby own_d9_7) (fun _ _ => ⟨rfl, eh1, (by decide : 0 + 0 ≤ _), (by decide : 0 + 0 ≤ _)⟩)
  dsimp only [Pt.U, Pt.locs, Pt.cells, Pt.slots] at X2 lq2 yq2 zq2 st2 hQ2
  subst lq2 yq2 zq2
  obtain ⟨rfl, Nq2, eh2⟩ := hQ2
  have N2 := Fr.app N1h Nq2
  refine own_st (G' := T2.setTop (mkF m 10 #[.val (.ref o1), .val (.ref o2), .val (.int (200 : Int32))] [(.int (0 : Int32))])) (fun t k => st2.trans k) ?_
  obtain ⟨_, X2h, N2h⟩ := own_hide X2 N2
  refine own_ifYes X2h hx 27 (hb hby own_d9_10) (teq (rfl : (0 : Int32) = (0 : Int32))).1 ?_
  refine own_aloadN X2h hx 28 (hb hby own_d9_27) rfl rfl ?_
  refine own_aloadN X2h hx 29 (hb hby own_d9_28) rfl rfl ?_
  refine own_iloadN X2h hx 30 (hb hby own_d9_29) rfl ?_
  obtain ⟨_, _, ⟨T3, Lx3, kc3, nc3⟩, -, X3, ⟨Lc3, hQ3, lq3, yq3, zq3⟩, st3⟩ := Jvm.LawKit.callS X2h hx (y := (⟨"com/example/fates/fates/Lengths", "atMost", "(Ljava/lang/String;Ljava/lang/String;I)Ljava/lang/String;"⟩ : MethodName)) hown (mvT hZ (hw _ (List.mem_of_getElem? (i := 57) rfl))) (mvT hZ (hw _ (List.mem_of_getElem? (i := 58) rfl))) (mvT hZ (hw _ (List.mem_of_getElem? (i := 46) rfl))) (mvT hZ (hw _ (List.mem_of_getElem? (i := 59) rfl))) (by decide) (backOf (W := 0) (own_rm12 l Z a0 hw [] cs S_cs hcs sf S_sf hsf o1 o2 b kb n x y h0 n0 Z0 pE1 pF2 pF3 pV4 O0 (hn : own_N n)) hZ (hw _ (List.mem_of_getElem? (i := 59) rfl)) (hw _ (List.mem_of_getElem? (i := 46) rfl)) (by decide) (by decide)) (g := (mkF m 30 #[.val (.ref o1), .val (.ref o2), .val (.int (200 : Int32))] [(.int (200 : Int32)), (.ref o2), (.ref o1)])) rfl (by rw [hml]; rfl) (argsL := [(.ref o1), (.ref o2), (.int (200 : Int32))]) (rest := []) (lenOf own_pd14 rfl) rfl (by show 2 * 0 + _ ≤ _; exact Nat.le_of_eq rfl) (hb hby own_d9_30) (fun _ _ => ⟨rfl, eh2, (by decide : 0 + 0 ≤ _), (by decide : 0 + 0 ≤ _)⟩)
  dsimp only [Pt.U, Pt.locs, Pt.cells, Pt.slots] at X3 lq3 yq3 zq3 st3 hQ3
  subst lq3 yq3 zq3
  obtain ⟨rfl, Nq3, eh3⟩ := hQ3
  have N3 := Fr.app N2h Nq3
  refine own_st (G' := T3.setTop (mkF m 33 #[.val (.ref o1), .val (.ref o2), .val (.int (200 : Int32))] [(.ref o2)])) st3 ?_
  obtain ⟨_, X3h, N3h⟩ := own_hide X3 N3
  exact own_retA (z := (.ref o2)) (Q := own_Q9 Z cs S_cs hcs sf S_sf hsf o1 o2 b kb n x y h0 n0) X3h hx hrt rfl rfl (hb hby own_d9_33) hlk eh3 ⟨rfl, N3h, rfl⟩ (by decide) (by decide)
theorem own_d8_0 : decode prog_10_method_1_code 0 = .ok (.aload_n 0, 1) := by decide +kernel
theorem own_d8_1 : decode prog_10_method_1_code 1 = .ok (.invokespecial 1, 3) := by decide +kernel
theorem own_d8_4 : decode prog_10_method_1_code 4 = .ok (.aload_n 0, 1) := by decide +kernel
theorem own_d8_5 : decode prog_10_method_1_code 5 = .ok (.ldc 7, 2) := by decide +kernel
theorem own_d8_7 : decode prog_10_method_1_code 7 = .ok (.aload_n 1, 1) := by decide +kernel
theorem own_d8_8 : decode prog_10_method_1_code 8 = .ok (.sipush 200, 3) := by decide +kernel
theorem own_d8_11 : decode prog_10_method_1_code 11 = .ok (.invokestatic 11, 3) := by decide +kernel
theorem own_d8_14 : decode prog_10_method_1_code 14 = .ok (.putfield 17, 3) := by decide +kernel
theorem own_d8_17 : decode prog_10_method_1_code 17 = .ok (.aload_n 0, 1) := by decide +kernel
theorem own_d8_18 : decode prog_10_method_1_code 18 = .ok (.ldc 20, 2) := by decide +kernel
theorem own_d8_20 : decode prog_10_method_1_code 20 = .ok (.aload_n 2, 1) := by decide +kernel
theorem own_d8_21 : decode prog_10_method_1_code 21 = .ok (.sipush 200, 3) := by decide +kernel
theorem own_d8_24 : decode prog_10_method_1_code 24 = .ok (.invokestatic 11, 3) := by decide +kernel
theorem own_d8_27 : decode prog_10_method_1_code 27 = .ok (.putfield 22, 3) := by decide +kernel
theorem own_d8_30 : decode prog_10_method_1_code 30 = .ok (.return_, 1) := by decide +kernel
theorem own_pn7 : plainName "com/example/fates/fates/Key" = true := by first | (simp [plainName, overriddenIn]; done) | decide +kernel
theorem own_ef8 (m : MethodId) (o1 : Addr) (o2 : Addr) (o3 : Addr) : entryFrame m #[(.ref o1), (.ref o2), (.ref o3)] 3 = mkF m 0 #[.val (.ref o1), .val (.ref o2), .val (.ref o3)] [] := by first | (simp [entryFrame, mkF, argsToLocals, Value.category]; done) | rfl
def own_Q8 (Z : State) (cs : Int32) (S_cs : Sta Z Z.heap "java/lang/String" "COMPACT_STRINGS" "Z" (.int cs)) (hcs : ¬ cs = (0 : Int32)) (sf : Value) (S_sf : Sta Z Z.heap "jdk/internal/util/Preconditions" "SIOOBE_FORMATTER" "Ljava/util/function/BiFunction;" sf) (hsf : sf.isRef = true) (o1 : Addr) (o2 : Addr) (o3 : Addr) (b2 : Addr) (kb2 : ClassId) (n2 : Int32) (x2 : Int32) (y2 : Int32) (b3 : Addr) (kb3 : ClassId) (n3 : Int32) (x3 : Int32) (y3 : Int32) (h0 : Heap) (n0 : Nat) (v : Option Value) (h : Heap) (L : List Loc) : Prop := v = none ∧ Fr n0 L ∧ Keep h0 h [o1] ∧ Exa Z h o1 "com/example/fates/fates/Key" ∧ Fld Z h o1 "com/example/fates/fates/Key" "group" "Ljava/lang/String;" (.ref o2) ∧ Fld Z h o1 "com/example/fates/fates/Key" "name" "Ljava/lang/String;" (.ref o3)
set_option maxRecDepth 65536 in
set_option maxHeartbeats 40000000 in
theorem own_rm8 (l : Launch) (Z : State) (a0 : Array Value) (hw : ∀ d ∈ tables_1, d.before a0 Z = true) (ws : List Jvm.Cond) (cs : Int32) (S_cs : Sta Z Z.heap "java/lang/String" "COMPACT_STRINGS" "Z" (.int cs)) (hcs : ¬ cs = (0 : Int32)) (sf : Value) (S_sf : Sta Z Z.heap "jdk/internal/util/Preconditions" "SIOOBE_FORMATTER" "Ljava/util/function/BiFunction;" sf) (hsf : sf.isRef = true) (o1 : Addr) (o2 : Addr) (o3 : Addr) (b2 : Addr) (kb2 : ClassId) (n2 : Int32) (x2 : Int32) (y2 : Int32) (b3 : Addr) (kb3 : ClassId) (n3 : Int32) (x3 : Int32) (y3 : Int32) (h0 : Heap) (n0 : Nat) (Z0 : n0 ≤ h0.size) (pE1 : Exa Z h0 o1 "com/example/fates/fates/Key") (pF2 : Fld Z h0 o1 "com/example/fates/fates/Key" "group" "Ljava/lang/String;" .null) (pF3 : Fld Z h0 o1 "com/example/fates/fates/Key" "name" "Ljava/lang/String;" .null) (pG4 : n0 ≤ o1) (O0 : Old Z n0 h0) (pE6 : Exa Z h0 o2 "java/lang/String") (pF7 : Fld Z h0 o2 "java/lang/String" "value" "[B" (.ref b2)) (pF8 : Fld Z h0 o2 "java/lang/String" "coder" "B" (.int (0 : Int32))) (pV9 : Arv Z h0 b2 kb2 .byte n2 (own_sl n2 x2 y2) (.int (0 : Int32))) (pE10 : Exa Z h0 o3 "java/lang/String") (pF11 : Fld Z h0 o3 "java/lang/String" "value" "[B" (.ref b3)) (pF12 : Fld Z h0 o3 "java/lang/String" "coder" "B" (.int (0 : Int32))) (pV13 : Arv Z h0 b3 kb3 .byte n3 (own_sl n3 x3 y3) (.int (0 : Int32))) (hn2 : own_N n2) (hn3 : own_N n3) (pN16 : o1 ≠ o3) (pN17 : o1 ≠ b3) :
    MetFree l (⟨"com/example/fates/fates/Key", "<init>", "(Ljava/lang/String;Ljava/lang/String;)V"⟩ : MethodName) (head1 (Jvm.Cond.code (⟨"com/example/fates/fates/Key", "<init>", "(Ljava/lang/String;Ljava/lang/String;)V"⟩ : MethodName) prog_10_method_1_code 3 none :: ws) ({ frames := 4, cells := 4, slots := 44, locals := 54 } : Room)) (fun a U => a = #[(.ref o1), (.ref o2), (.ref o3)] ∧ Z.Warmed39 U.vm ∧ U.heap = h0) (fun _ _ _ _ _ => True) (fun _ U o U' => ∃ v L, o = .returned v ∧ own_Q8 Z cs S_cs hcs sf S_sf hsf o1 o2 o3 b2 kb2 n2 x2 y2 b3 kb3 n3 x3 y3 h0 n0 v U'.heap L ∧ ReturnedEndW U o U' L ({ frames := 4, cells := 4, slots := 44, locals := 54 } : Room).cells ({ frames := 4, cells := 4, slots := 44, locals := 54 } : Room).slots) := by
  refine MetFree.of_bodySF (plainFor_of_name own_pn7) hisR ?_
  intro p e s m args below meth c s₁ Bd hml0 hP hK
  obtain ⟨rfl, hZ, hh⟩ := hP
  have hx := Bd.exec
  have hby := Bd.bytes
  have hlk := Bd.notSynchronized
  have hrt := Bd.returns
  have hml : c.maxLocals = 3 := hml0
  have hown : s.vm.findClass "com/example/fates/fates/Key" = some m.cls := findClass_of_methodNamed Bd.named
  have hnm := (name_of_methodNamed Bd.named Bd.method).1
  have X0 : Stand p l e ({ frames := 4, cells := 4, slots := 44, locals := 54 } : Room) s m #[(.ref o1), (.ref o2), (.ref o3)] below meth c s₁ [] 0 0 := Stand.of_body Bd
  have e0 : s₁.heap = h0 := by rw [← hh, Bd.state]; rfl
  have N0 := Fr.nil n0
  have KC0 := Keep.refl h0 [o1]
  refine own_in (own_ef8 m o1 o2 o3) ?_
  refine own_aloadN X0 hx 1 (hb hby own_d8_0) rfl rfl ?_
  obtain ⟨T1, X1, e1, st1⟩ := initO X0 hx hZ hown (hw _ (List.mem_of_getElem? (i := 40) rfl)) (hw _ (List.mem_of_getElem? (i := 16) rfl)) (hw _ (List.mem_of_getElem? (i := 17) rfl)) e0 (g := (mkF m 1 #[.val (.ref o1), .val (.ref o2), .val (.ref o3)] [(.ref o1)])) rfl (by rw [hml]; rfl) rfl (hb hby own_d8_1) (by decide) (W := 0) (by show 2 * 0 + _ ≤ _; exact Nat.le_of_eq rfl) (by decide)
  refine own_st (G' := T1.setTop (mkF m 4 #[.val (.ref o1), .val (.ref o2), .val (.ref o3)] [])) st1 ?_
  obtain ⟨_, X1h, N1h⟩ := own_hide X1 N0
  refine own_aloadN X1h hx 5 (hb hby own_d8_4) rfl rfl ?_
  have hS0 : s.Since s.vm 0 := (State.WarmedH.refl s).since 0
  obtain ⟨lit2, T2, h2, kS2, X2, e2, E2, hS2, Ks2, hZ, hown, st2⟩ := ldcS (show Stand p l e ({ frames := 4, cells := 4, slots := 44, locals := 54 } : Room) (s.setVm s.vm) m #[(.ref o1), (.ref o2), (.ref o3)] below meth c T1 _ _ _ from X1h) hx hZ hown (hw _ (List.mem_of_getElem? (i := 41) rfl)) (own_strs hw) e1 hS0 (Nat.zero_le _) (g := (mkF m 5 #[.val (.ref o1), .val (.ref o2), .val (.ref o3)] [(.ref o1)])) rfl (hb hby own_d8_5) (n := 20) (by decide) (by decide) (by decide) (by decide)
  have O3 := O0.ext E2
  have KC4 := KC0.ext E2
  have Z5 := Nat.le_trans Z0 E2.1
  refine own_st (G' := T2.setTop (mkF m 7 #[.val (.ref o1), .val (.ref o2), .val (.ref o3)] [(.ref lit2), (.ref o1)])) st2 ?_
  obtain ⟨_, X2h, N2h⟩ := own_hide X2 N1h
  refine own_aloadN X2h hx 8 (hb hby own_d8_7) rfl rfl ?_
  refine own_sipush X2h hx 11 (200 : Int32) (hb hby own_d8_8) rfl ?_
  have f6 := (pE6.ext E2)
  have f7 := (pF7.ext E2)
  have f8 := (pF8.ext E2)
  have f9 := (pV9.ext E2)
  obtain ⟨_, _, ⟨T10, Lx10, kc10, nc10⟩, -, X10, ⟨Lc10, hQ10, lq10, yq10, zq10⟩, st10⟩ := Jvm.LawKit.callS X2h hx (y := (⟨"com/example/fates/fates/Lengths", "nonEmptyAtMost", "(Ljava/lang/String;Ljava/lang/String;I)Ljava/lang/String;"⟩ : MethodName)) hown (mvT hZ (hw _ (List.mem_of_getElem? (i := 44) rfl))) (mvT hZ (hw _ (List.mem_of_getElem? (i := 45) rfl))) (mvT hZ (hw _ (List.mem_of_getElem? (i := 46) rfl))) (mvT hZ (hw _ (List.mem_of_getElem? (i := 47) rfl))) (by decide) (backOf (W := 1) (own_rm9 l Z a0 hw [] cs S_cs hcs sf S_sf hsf lit2 o2 b2 kb2 n2 x2 y2 h2 n0 Z5 f6 f7 f8 f9 O3 (hn2 : own_N n2)) hZ (hw _ (List.mem_of_getElem? (i := 47) rfl)) (hw _ (List.mem_of_getElem? (i := 46) rfl)) (by decide) (by decide)) (g := (mkF m 11 #[.val (.ref o1), .val (.ref o2), .val (.ref o3)] [(.int (200 : Int32)), (.ref o2), (.ref lit2), (.ref o1)])) rfl (by rw [hml]; rfl) (argsL := [(.ref lit2), (.ref o2), (.int (200 : Int32))]) (rest := [(.ref o1)]) (lenOf own_pd14 rfl) rfl (by show 2 * 0 + _ ≤ _; exact Nat.le_of_eq rfl) (hb hby own_d8_11) (fun _ _ => ⟨rfl, e2, (by decide : 2 + 0 ≤ _), (by decide : 24 + 0 ≤ _)⟩)
  dsimp only [Pt.U, Pt.locs, Pt.cells, Pt.slots] at X10 lq10 yq10 zq10 st10 hQ10
  subst lq10 yq10 zq10
  obtain ⟨rfl, Nq10, eh10⟩ := hQ10
  have N10 := Fr.app N2h Nq10
  refine own_st (G' := T10.setTop (mkF m 14 #[.val (.ref o1), .val (.ref o2), .val (.ref o3)] [(.ref o2), (.ref o1)])) st10 ?_
  obtain ⟨_, X10h, N10h⟩ := own_hide X10 N10
  have f11 := (pF2.ext E2)
  have f12 := (pE1.ext E2)
  obtain ⟨T13, h13, X13, e13, W13, st13⟩ := putF X10h hx hZ hown (host := "") (Or.inl (hw _ (List.mem_of_getElem? (i := 70) rfl))) Via.refl eh10 f11 f12 (Or.inr ⟨(hw _ (List.mem_of_getElem? (i := 71) rfl)), rfl, hnm⟩) (hw _ (List.mem_of_getElem? (i := 35) rfl)) (v := (.ref o2)) (ty := (.object "java/lang/String")) (by decide) rfl rfl (g := (mkF m 14 #[.val (.ref o1), .val (.ref o2), .val (.ref o3)] [(.ref o2), (.ref o1)])) rfl rfl (hb hby own_d8_14)
  have Fw13 := f11.same W13
  have N13 := Fr.snoc X13 N10h pG4
  have O14 := O3.wr W13 pG4
  have KC15 := KC4.wr W13 (Or.inl (List.mem_of_getElem? (i := 0) rfl))
  have Ks16 := Nat.le_trans Ks2 (Nat.le_of_eq W13.size.symm)
  have Z17 := Nat.le_trans Z5 (Nat.le_of_eq W13.size.symm)
  refine own_st (G' := T13.setTop (mkF m 17 #[.val (.ref o1), .val (.ref o2), .val (.ref o3)] [])) st13 ?_
  obtain ⟨_, X13h, N13h⟩ := own_hide X13 N13
  refine own_aloadN X13h hx 18 (hb hby own_d8_17) rfl rfl ?_
  obtain ⟨lit18, T18, h18, kS18, X18, e18, E18, hS18, Ks18, hZ, hown, st18⟩ := ldcS X13h hx hZ hown (hw _ (List.mem_of_getElem? (i := 72) rfl)) (own_strs hw) e13 hS2 Ks16 (g := (mkF m 18 #[.val (.ref o1), .val (.ref o2), .val (.ref o3)] [(.ref o1)])) rfl (hb hby own_d8_18) (n := 16) (by decide) (by decide) (by decide) (by decide)
  have O19 := O14.ext E18
  have KC20 := KC15.ext E18
  have Z21 := Nat.le_trans Z17 E18.1
  refine own_st (G' := T18.setTop (mkF m 20 #[.val (.ref o1), .val (.ref o2), .val (.ref o3)] [(.ref lit18), (.ref o1)])) st18 ?_
  obtain ⟨_, X18h, N18h⟩ := own_hide X18 N13h
  refine own_aloadN X18h hx 21 (hb hby own_d8_20) rfl rfl ?_
  refine own_sipush X18h hx 24 (200 : Int32) (hb hby own_d8_21) rfl ?_
  have f22 := (((pE10.ext E2).wr W13).ext E18)
  have f23 := (((pF11.ext E2).other W13 (Or.inl (Ne.symm pN16))).ext E18)
  have f24 := (((pF12.ext E2).other W13 (Or.inl (Ne.symm pN16))).ext E18)
  have f25 := (((pV13.ext E2).other W13 (Ne.symm pN17)).ext E18)
  obtain ⟨_, _, ⟨T26, Lx26, kc26, nc26⟩, -, X26, ⟨Lc26, hQ26, lq26, yq26, zq26⟩, st26⟩ := Jvm.LawKit.callS X18h hx (y := (⟨"com/example/fates/fates/Lengths", "nonEmptyAtMost", "(Ljava/lang/String;Ljava/lang/String;I)Ljava/lang/String;"⟩ : MethodName)) hown (mvT hZ (hw _ (List.mem_of_getElem? (i := 44) rfl))) (mvT hZ (hw _ (List.mem_of_getElem? (i := 45) rfl))) (mvT hZ (hw _ (List.mem_of_getElem? (i := 46) rfl))) (mvT hZ (hw _ (List.mem_of_getElem? (i := 47) rfl))) (by decide) (backOf (W := 1) (own_rm9 l Z a0 hw [] cs S_cs hcs sf S_sf hsf lit18 o3 b3 kb3 n3 x3 y3 h18 n0 Z21 f22 f23 f24 f25 O19 (hn3 : own_N n3)) hZ (hw _ (List.mem_of_getElem? (i := 47) rfl)) (hw _ (List.mem_of_getElem? (i := 46) rfl)) (by decide) (by decide)) (g := (mkF m 24 #[.val (.ref o1), .val (.ref o2), .val (.ref o3)] [(.int (200 : Int32)), (.ref o3), (.ref lit18), (.ref o1)])) rfl (by rw [hml]; rfl) (argsL := [(.ref lit18), (.ref o3), (.int (200 : Int32))]) (rest := [(.ref o1)]) (lenOf own_pd14 rfl) rfl (by show 2 * 0 + _ ≤ _; exact Nat.le_of_eq rfl) (hb hby own_d8_24) (fun _ _ => ⟨rfl, e18, (by decide : 4 + 0 ≤ _), (by decide : 44 + 0 ≤ _)⟩)
  dsimp only [Pt.U, Pt.locs, Pt.cells, Pt.slots] at X26 lq26 yq26 zq26 st26 hQ26
  subst lq26 yq26 zq26
  obtain ⟨rfl, Nq26, eh26⟩ := hQ26
  have N26 := Fr.app N18h Nq26
  refine own_st (G' := T26.setTop (mkF m 27 #[.val (.ref o1), .val (.ref o2), .val (.ref o3)] [(.ref o3), (.ref o1)])) st26 ?_
  obtain ⟨_, X26h, N26h⟩ := own_hide X26 N26
  have f27 := (((pF3.ext E2).other W13 (Or.inr (slot_ne (Or.inr (hw _ (List.mem_of_getElem? (i := 74) rfl))) (Or.inr (hw _ (List.mem_of_getElem? (i := 71) rfl))) (by decide) (t := (.object "java/lang/String")) (t' := (.object "java/lang/String")) (by decide) (by decide)))).ext E18)
  have f28 := ((f12.wr W13).ext E18)
  obtain ⟨T29, h29, X29, e29, W29, st29⟩ := putF X26h hx hZ hown (host := "") (Or.inl (hw _ (List.mem_of_getElem? (i := 73) rfl))) Via.refl eh26 f27 f28 (Or.inr ⟨(hw _ (List.mem_of_getElem? (i := 74) rfl)), rfl, hnm⟩) (hw _ (List.mem_of_getElem? (i := 35) rfl)) (v := (.ref o3)) (ty := (.object "java/lang/String")) (by decide) rfl rfl (g := (mkF m 27 #[.val (.ref o1), .val (.ref o2), .val (.ref o3)] [(.ref o3), (.ref o1)])) rfl rfl (hb hby own_d8_27)
  have Fw29 := f27.same W29
  have N29 := Fr.snoc X29 N26h pG4
  have O30 := O19.wr W29 pG4
  have KC31 := KC20.wr W29 (Or.inl (List.mem_of_getElem? (i := 0) rfl))
  have Ks32 := Nat.le_trans Ks18 (Nat.le_of_eq W29.size.symm)
  have Z33 := Nat.le_trans Z21 (Nat.le_of_eq W29.size.symm)
  refine own_st (G' := T29.setTop (mkF m 30 #[.val (.ref o1), .val (.ref o2), .val (.ref o3)] [])) st29 ?_
  obtain ⟨_, X29h, N29h⟩ := own_hide X29 N29
  have f34 := (f28.wr W29)
  have f35 := ((Fw13.ext E18).other W29 (Or.inr (slot_ne (Or.inr (hw _ (List.mem_of_getElem? (i := 71) rfl))) (Or.inr (hw _ (List.mem_of_getElem? (i := 74) rfl))) (by decide) (t := (.object "java/lang/String")) (t' := (.object "java/lang/String")) (by decide) (by decide))))
  exact own_retVW (Q := own_Q8 Z cs S_cs hcs sf S_sf hsf o1 o2 o3 b2 kb2 n2 x2 y2 b3 kb3 n3 x3 y3 h0 n0) X29h hS18 Ks32 hx hrt (hb hby own_d8_30) hlk e29 ⟨rfl, N29h, KC31, f34, f35, Fw29⟩ (by decide) (by decide)
theorem own_d21_0 : decode prog_10_method_4_code 0 = .ok (.aload_n 1, 1) := by decide +kernel
theorem own_d21_1 : decode prog_10_method_4_code 1 = .ok (.instanceof 9, 3) := by decide +kernel
theorem own_d21_4 : decode prog_10_method_4_code 4 = .ok (.ifCond .ne 5, 3) := by decide +kernel
theorem own_d21_7 : decode prog_10_method_4_code 7 = .ok (.iconst 0, 1) := by decide +kernel
theorem own_d21_8 : decode prog_10_method_4_code 8 = .ok (.ireturn, 1) := by decide +kernel
theorem own_ef21n (m : MethodId) (o1 : Addr) : entryFrame m #[(.ref o1), .null] 3 = mkF m 0 #[.val (.ref o1), .val .null, .unset] [] := by first | (simp [entryFrame, mkF, argsToLocals, Value.category]; done) | rfl
def own_Q21n (Z : State) (o1 : Addr) (h0 : Heap) (n0 : Nat) (v : Option Value) (h : Heap) (L : List Loc) : Prop := v = some (.int (0 : Int32)) ∧ Fr n0 L ∧ h = h0
set_option maxRecDepth 65536 in
set_option maxHeartbeats 40000000 in
theorem own_rm21n (l : Launch) (Z : State) (a0 : Array Value) (hw : ∀ d ∈ tables_1, d.before a0 Z = true) (ws : List Jvm.Cond) (o1 : Addr) (h0 : Heap) (n0 : Nat) (Z0 : n0 ≤ h0.size)  :
    MetFree l (⟨"com/example/fates/fates/Key", "equals", "(Ljava/lang/Object;)Z"⟩ : MethodName) (head1 (Jvm.Cond.code (⟨"com/example/fates/fates/Key", "equals", "(Ljava/lang/Object;)Z"⟩ : MethodName) prog_10_method_4_code 3 (some .boolean) :: ws) ({ frames := 0, cells := 0, slots := 0, locals := 0 } : Room)) (fun a U => a = #[(.ref o1), .null] ∧ Z.Warmed39 U.vm ∧ U.heap = h0) (fun _ _ _ _ _ => True) (fun _ U o U' => ∃ v L, o = .returned v ∧ own_Q21n Z o1 h0 n0 v U'.heap L ∧ FrameEnd U o U' L ({ frames := 0, cells := 0, slots := 0, locals := 0 } : Room).cells ({ frames := 0, cells := 0, slots := 0, locals := 0 } : Room).slots) := by
  refine MetFree.of_bodySF (plainFor_of_name own_pn7) hisR ?_
  intro p e s m args below meth c s₁ Bd hml0 hP hK
  obtain ⟨rfl, hZ, hh⟩ := hP
  have hx := Bd.exec
  have hby := Bd.bytes
  have hlk := Bd.notSynchronized
  have hrt := Bd.returns
  have hml : c.maxLocals = 3 := hml0
  have hown : s.vm.findClass "com/example/fates/fates/Key" = some m.cls := findClass_of_methodNamed Bd.named
  have hnm := (name_of_methodNamed Bd.named Bd.method).1
  have X0 : Stand p l e ({ frames := 0, cells := 0, slots := 0, locals := 0 } : Room) s m #[(.ref o1), .null] below meth c s₁ [] 0 0 := Stand.of_body Bd
  have e0 : s₁.heap = h0 := by rw [← hh, Bd.state]; rfl
  have N0 := Fr.nil n0
  refine own_in (own_ef21n m o1) ?_
  refine own_aloadN X0 hx 1 (hb hby own_d21_0) rfl rfl ?_
  refine own_st (G' := s₁.setTop (mkF m 4 #[.val (.ref o1), .val .null, .unset] [(.int (0 : Int32))])) (fun t k => X0.instanceofNull hx (g := (mkF m 1 #[.val (.ref o1), .val .null, .unset] [.null])) rfl rfl (hb hby own_d21_1) _ k) ?_
  refine own_ifNo X0 hx 7 (hb hby own_d21_4) (teq (rfl : (0 : Int32) = (0 : Int32))).2 ?_
  refine own_iconst X0 hx 8 (0 : Int32) (hb hby own_d21_7) rfl ?_
  exact own_retN (t := .boolean) (z := (0 : Int32)) (Q := own_Q21n Z o1 h0 n0) X0 hx hrt (by simp) (hb hby own_d21_8) hlk e0 ⟨rfl, N0, rfl⟩ (by decide) (by decide)
theorem own_ef21t (m : MethodId) (o1 : Addr) (o2 : Addr) : entryFrame m #[(.ref o1), (.ref o2)] 3 = mkF m 0 #[.val (.ref o1), .val (.ref o2), .unset] [] := by first | (simp [entryFrame, mkF, argsToLocals, Value.category]; done) | rfl
def own_Q21t (Z : State) (o1 : Addr) (o2 : Addr) (h0 : Heap) (n0 : Nat) (v : Option Value) (h : Heap) (L : List Loc) : Prop := v = some (.int (0 : Int32)) ∧ Fr n0 L ∧ h = h0
set_option maxRecDepth 65536 in
set_option maxHeartbeats 40000000 in
theorem own_rm21t (l : Launch) (Z : State) (a0 : Array Value) (hw : ∀ d ∈ tables_1, d.before a0 Z = true) (ws : List Jvm.Cond) (o1 : Addr) (o2 : Addr) (h0 : Heap) (n0 : Nat) (Z0 : n0 ≤ h0.size) (pE1 : Exa Z h0 o2 "java/lang/String") :
    MetFree l (⟨"com/example/fates/fates/Key", "equals", "(Ljava/lang/Object;)Z"⟩ : MethodName) (head1 (Jvm.Cond.code (⟨"com/example/fates/fates/Key", "equals", "(Ljava/lang/Object;)Z"⟩ : MethodName) prog_10_method_4_code 3 (some .boolean) :: ws) ({ frames := 0, cells := 0, slots := 0, locals := 0 } : Room)) (fun a U => a = #[(.ref o1), (.ref o2)] ∧ Z.Warmed39 U.vm ∧ U.heap = h0) (fun _ _ _ _ _ => True) (fun _ U o U' => ∃ v L, o = .returned v ∧ own_Q21t Z o1 o2 h0 n0 v U'.heap L ∧ FrameEnd U o U' L ({ frames := 0, cells := 0, slots := 0, locals := 0 } : Room).cells ({ frames := 0, cells := 0, slots := 0, locals := 0 } : Room).slots) := by
  refine MetFree.of_bodySF (plainFor_of_name own_pn7) hisR ?_
  intro p e s m args below meth c s₁ Bd hml0 hP hK
  obtain ⟨rfl, hZ, hh⟩ := hP
  have hx := Bd.exec
  have hby := Bd.bytes
  have hlk := Bd.notSynchronized
  have hrt := Bd.returns
  have hml : c.maxLocals = 3 := hml0
  have hown : s.vm.findClass "com/example/fates/fates/Key" = some m.cls := findClass_of_methodNamed Bd.named
  have hnm := (name_of_methodNamed Bd.named Bd.method).1
  have X0 : Stand p l e ({ frames := 0, cells := 0, slots := 0, locals := 0 } : Room) s m #[(.ref o1), (.ref o2)] below meth c s₁ [] 0 0 := Stand.of_body Bd
  have e0 : s₁.heap = h0 := by rw [← hh, Bd.state]; rfl
  have N0 := Fr.nil n0
  refine own_in (own_ef21t m o1 o2) ?_
  refine own_aloadN X0 hx 1 (hb hby own_d21_0) rfl rfl ?_
  obtain ⟨T1, X1, e1, st1⟩ := instNo X0 hx hZ hown (hw _ (List.mem_of_getElem? (i := 106) rfl)) e0 pE1 (own_nsno (hw _ (List.mem_of_getElem? (i := 117) rfl)) (hw _ (List.mem_of_getElem? (i := 118) rfl)) (hw _ (List.mem_of_getElem? (i := 35) rfl)) (by decide) (by decide)) (g := (mkF m 1 #[.val (.ref o1), .val (.ref o2), .unset] [(.ref o2)])) rfl rfl (hb hby own_d21_1)
  refine own_st (G' := T1.setTop (mkF m 4 #[.val (.ref o1), .val (.ref o2), .unset] [(.int (0 : Int32))])) st1 ?_
  obtain ⟨_, X1h, N1h⟩ := own_hide X1 N0
  refine own_ifNo X1h hx 7 (hb hby own_d21_4) (teq (rfl : (0 : Int32) = (0 : Int32))).2 ?_
  refine own_iconst X1h hx 8 (0 : Int32) (hb hby own_d21_7) rfl ?_
  exact own_retN (t := .boolean) (z := (0 : Int32)) (Q := own_Q21t Z o1 o2 h0 n0) X1h hx hrt (by simp) (hb hby own_d21_8) hlk e1 ⟨rfl, N1h, rfl⟩ (by decide) (by decide)
theorem own_d21_9 : decode prog_10_method_4_code 9 = .ok (.aload_n 1, 1) := by decide +kernel
theorem own_d21_10 : decode prog_10_method_4_code 10 = .ok (.checkcast 9, 3) := by decide +kernel
theorem own_d21_13 : decode prog_10_method_4_code 13 = .ok (.astore_n 2, 1) := by decide +kernel
theorem own_d21_14 : decode prog_10_method_4_code 14 = .ok (.aload_n 0, 1) := by decide +kernel
theorem own_d21_15 : decode prog_10_method_4_code 15 = .ok (.getfield 17, 3) := by decide +kernel
theorem own_d21_18 : decode prog_10_method_4_code 18 = .ok (.aload_n 2, 1) := by decide +kernel
theorem own_d21_19 : decode prog_10_method_4_code 19 = .ok (.getfield 17, 3) := by decide +kernel
theorem own_d21_22 : decode prog_10_method_4_code 22 = .ok (.invokevirtual 24, 3) := by decide +kernel
theorem own_d21_25 : decode prog_10_method_4_code 25 = .ok (.ifCond .eq 21, 3) := by decide +kernel
theorem own_d21_28 : decode prog_10_method_4_code 28 = .ok (.aload_n 0, 1) := by decide +kernel
theorem own_d21_29 : decode prog_10_method_4_code 29 = .ok (.getfield 22, 3) := by decide +kernel
theorem own_d21_32 : decode prog_10_method_4_code 32 = .ok (.aload_n 2, 1) := by decide +kernel
theorem own_d21_33 : decode prog_10_method_4_code 33 = .ok (.getfield 22, 3) := by decide +kernel
theorem own_d21_36 : decode prog_10_method_4_code 36 = .ok (.invokevirtual 24, 3) := by decide +kernel
theorem own_d21_39 : decode prog_10_method_4_code 39 = .ok (.ifCond .eq 7, 3) := by decide +kernel
theorem own_d21_42 : decode prog_10_method_4_code 42 = .ok (.iconst 1, 1) := by decide +kernel
theorem own_d21_43 : decode prog_10_method_4_code 43 = .ok (.goto 4, 3) := by decide +kernel
theorem own_d21_47 : decode prog_10_method_4_code 47 = .ok (.ireturn, 1) := by decide +kernel
theorem own_pd15 : parseMethodDescriptor "(Ljava/lang/Object;)Z" = some ⟨[(.object "java/lang/Object")], some .boolean⟩ := by decide +kernel
theorem own_ef21s (m : MethodId) (o1 : Addr) : entryFrame m #[(.ref o1), (.ref o1)] 3 = mkF m 0 #[.val (.ref o1), .val (.ref o1), .unset] [] := by first | (simp [entryFrame, mkF, argsToLocals, Value.category]; done) | rfl
def own_Q21s (Z : State) (o1 : Addr) (g1 : Addr) (m1 : Addr) (h0 : Heap) (n0 : Nat) (v : Option Value) (h : Heap) (L : List Loc) : Prop := v = some (.int (1 : Int32)) ∧ Fr n0 L ∧ h = h0
set_option maxRecDepth 65536 in
set_option maxHeartbeats 40000000 in
theorem own_rm21s (l : Launch) (Z : State) (a0 : Array Value) (hw : ∀ d ∈ tables_1, d.before a0 Z = true) (ws : List Jvm.Cond) (o1 : Addr) (g1 : Addr) (m1 : Addr) (h0 : Heap) (n0 : Nat) (Z0 : n0 ≤ h0.size) (pE1 : Exa Z h0 o1 "com/example/fates/fates/Key") (pF2 : Fld Z h0 o1 "com/example/fates/fates/Key" "group" "Ljava/lang/String;" (.ref g1)) (pF3 : Fld Z h0 o1 "com/example/fates/fates/Key" "name" "Ljava/lang/String;" (.ref m1)) (pE4 : Exa Z h0 g1 "java/lang/String") (pE5 : Exa Z h0 m1 "java/lang/String") :
    MetFree l (⟨"com/example/fates/fates/Key", "equals", "(Ljava/lang/Object;)Z"⟩ : MethodName) (head1 (Jvm.Cond.code (⟨"com/example/fates/fates/Key", "equals", "(Ljava/lang/Object;)Z"⟩ : MethodName) prog_10_method_4_code 3 (some .boolean) :: ws) ({ frames := 1, cells := 0, slots := 0, locals := 14 } : Room)) (fun a U => a = #[(.ref o1), (.ref o1)] ∧ Z.Warmed39 U.vm ∧ U.heap = h0) (fun _ _ _ _ _ => True) (fun _ U o U' => ∃ v L, o = .returned v ∧ own_Q21s Z o1 g1 m1 h0 n0 v U'.heap L ∧ FrameEnd U o U' L ({ frames := 1, cells := 0, slots := 0, locals := 14 } : Room).cells ({ frames := 1, cells := 0, slots := 0, locals := 14 } : Room).slots) := by
  refine MetFree.of_bodySF (plainFor_of_name own_pn7) hisR ?_
  intro p e s m args below meth c s₁ Bd hml0 hP hK
  obtain ⟨rfl, hZ, hh⟩ := hP
  have hx := Bd.exec
  have hby := Bd.bytes
  have hlk := Bd.notSynchronized
  have hrt := Bd.returns
  have hml : c.maxLocals = 3 := hml0
  have hown : s.vm.findClass "com/example/fates/fates/Key" = some m.cls := findClass_of_methodNamed Bd.named
  have hnm := (name_of_methodNamed Bd.named Bd.method).1
  have X0 : Stand p l e ({ frames := 1, cells := 0, slots := 0, locals := 14 } : Room) s m #[(.ref o1), (.ref o1)] below meth c s₁ [] 0 0 := Stand.of_body Bd
  have e0 : s₁.heap = h0 := by rw [← hh, Bd.state]; rfl
  have N0 := Fr.nil n0
  refine own_in (own_ef21s m o1) ?_
  refine own_aloadN X0 hx 1 (hb hby own_d21_0) rfl rfl ?_
  obtain ⟨T1, X1, e1, st1⟩ := instY X0 hx hZ hown (hw _ (List.mem_of_getElem? (i := 106) rfl)) e0 (Ins.self pE1) (g := (mkF m 1 #[.val (.ref o1), .val (.ref o1), .unset] [(.ref o1)])) rfl rfl (hb hby own_d21_1)
  refine own_st (G' := T1.setTop (mkF m 4 #[.val (.ref o1), .val (.ref o1), .unset] [(.int (1 : Int32))])) st1 ?_
  obtain ⟨_, X1h, N1h⟩ := own_hide X1 N0
  refine own_ifYes X1h hx 9 (hb hby own_d21_4) (feq (by decide : ¬ ((1 : Int32) = (0 : Int32)))).2 ?_
  refine own_aloadN X1h hx 10 (hb hby own_d21_9) rfl rfl ?_
  obtain ⟨T2, X2, e2, st2⟩ := castY X1h hx hZ hown (hw _ (List.mem_of_getElem? (i := 106) rfl)) e1 (Ins.self pE1) (g := (mkF m 10 #[.val (.ref o1), .val (.ref o1), .unset] [(.ref o1)])) rfl rfl (hb hby own_d21_10)
  refine own_st (G' := T2.setTop (mkF m 13 #[.val (.ref o1), .val (.ref o1), .unset] [(.ref o1)])) st2 ?_
  obtain ⟨_, X2h, N2h⟩ := own_hide X2 N1h
  refine own_astoreN X2h hx 14 #[.val (.ref o1), .val (.ref o1), .val (.ref o1)] (hb hby own_d21_13) rfl rfl ?_
  refine own_aloadN X2h hx 15 (hb hby own_d21_14) rfl rfl ?_
  obtain ⟨T3, X3, e3, st3⟩ := getF X2h hx hZ hown (host := "") (Or.inl (hw _ (List.mem_of_getElem? (i := 70) rfl))) Via.refl e2 pF2 (g := (mkF m 15 #[.val (.ref o1), .val (.ref o1), .val (.ref o1)] [(.ref o1)])) rfl rfl (hb hby own_d21_15)
  refine own_st (G' := T3.setTop (mkF m 18 #[.val (.ref o1), .val (.ref o1), .val (.ref o1)] [(.ref g1)])) st3 ?_
  obtain ⟨_, X3h, N3h⟩ := own_hide X3 N2h
  refine own_aloadN X3h hx 19 (hb hby own_d21_18) rfl rfl ?_
  obtain ⟨T4, X4, e4, st4⟩ := getF X3h hx hZ hown (host := "") (Or.inl (hw _ (List.mem_of_getElem? (i := 70) rfl))) Via.refl e3 pF2 (g := (mkF m 19 #[.val (.ref o1), .val (.ref o1), .val (.ref o1)] [(.ref o1), (.ref g1)])) rfl rfl (hb hby own_d21_19)
  refine own_st (G' := T4.setTop (mkF m 22 #[.val (.ref o1), .val (.ref o1), .val (.ref o1)] [(.ref g1), (.ref g1)])) st4 ?_
  obtain ⟨_, X4h, N4h⟩ := own_hide X4 N3h
  obtain ⟨cq5, kq5, q5a, q5b, q5c⟩ := isOf hZ e4 pE4
  obtain ⟨_, _, ⟨T5, Lx5, kc5, nc5⟩, -, X5, ⟨Lc5, hQ5, lq5, yq5, zq5⟩, st5⟩ := X4h.virtualBack hx (y := (⟨"java/lang/String", "equals", "(Ljava/lang/Object;)Z"⟩ : MethodName)) (z := (⟨"java/lang/String", "equals", "(Ljava/lang/Object;)Z"⟩ : MethodName)) hown (mvT hZ (hw _ (List.mem_of_getElem? (i := 108) rfl))) (mvT hZ (hw _ (List.mem_of_getElem? (i := 109) rfl))) (notFace_of_selects (args := #[]) (mvT hZ (hw _ (List.mem_of_getElem? (i := 111) rfl)))) (mvT hZ (hw _ (List.mem_of_getElem? (i := 111) rfl))) (mvT hZ (hw _ (List.mem_of_getElem? (i := 110) rfl))) (by decide) (backOf (W := 0) (own_rm22s l Z a0 hw [] g1 h0 n0 Z0 ) hZ (hw _ (List.mem_of_getElem? (i := 112) rfl)) (hw _ (List.mem_of_getElem? (i := 7) rfl)) (by decide) (by decide)) q5a q5c (g := (mkF m 22 #[.val (.ref o1), .val (.ref o1), .val (.ref o1)] [(.ref g1), (.ref g1)])) rfl (by rw [hml]; rfl) (Steps.refl _) (argsL := [(.ref g1)]) (rest := []) (lenOf own_pd15 rfl) rfl (by show 2 * 0 + _ ≤ _; exact Nat.le_of_eq rfl) (hb hby own_d21_22) (fun _ _ => ⟨rfl, e4, (by decide : 0 + 0 ≤ _), (by decide : 0 + 0 ≤ _)⟩)
  dsimp only [Pt.U, Pt.locs, Pt.cells, Pt.slots] at X5 lq5 yq5 zq5 st5 hQ5
  subst lq5 yq5 zq5
  obtain ⟨rfl, Nq5, eh5⟩ := hQ5
  have N5 := Fr.app N4h Nq5
  refine own_st (G' := T5.setTop (mkF m 25 #[.val (.ref o1), .val (.ref o1), .val (.ref o1)] [(.int (1 : Int32))])) (fun t k => st5.trans k) ?_
  obtain ⟨_, X5h, N5h⟩ := own_hide X5 N5
  refine own_ifNo X5h hx 28 (hb hby own_d21_25) (feq (by decide : ¬ ((1 : Int32) = (0 : Int32)))).1 ?_
  refine own_aloadN X5h hx 29 (hb hby own_d21_28) rfl rfl ?_
  obtain ⟨T6, X6, e6, st6⟩ := getF X5h hx hZ hown (host := "") (Or.inl (hw _ (List.mem_of_getElem? (i := 73) rfl))) Via.refl eh5 pF3 (g := (mkF m 29 #[.val (.ref o1), .val (.ref o1), .val (.ref o1)] [(.ref o1)])) rfl rfl (hb hby own_d21_29)
  refine own_st (G' := T6.setTop (mkF m 32 #[.val (.ref o1), .val (.ref o1), .val (.ref o1)] [(.ref m1)])) st6 ?_
  obtain ⟨_, X6h, N6h⟩ := own_hide X6 N5h
  refine own_aloadN X6h hx 33 (hb hby own_d21_32) rfl rfl ?_
  obtain ⟨T7, X7, e7, st7⟩ := getF X6h hx hZ hown (host := "") (Or.inl (hw _ (List.mem_of_getElem? (i := 73) rfl))) Via.refl e6 pF3 (g := (mkF m 33 #[.val (.ref o1), .val (.ref o1), .val (.ref o1)] [(.ref o1), (.ref m1)])) rfl rfl (hb hby own_d21_33)
  refine own_st (G' := T7.setTop (mkF m 36 #[.val (.ref o1), .val (.ref o1), .val (.ref o1)] [(.ref m1), (.ref m1)])) st7 ?_
  obtain ⟨_, X7h, N7h⟩ := own_hide X7 N6h
  obtain ⟨cq8, kq8, q8a, q8b, q8c⟩ := isOf hZ e7 pE5
  obtain ⟨_, _, ⟨T8, Lx8, kc8, nc8⟩, -, X8, ⟨Lc8, hQ8, lq8, yq8, zq8⟩, st8⟩ := X7h.virtualBack hx (y := (⟨"java/lang/String", "equals", "(Ljava/lang/Object;)Z"⟩ : MethodName)) (z := (⟨"java/lang/String", "equals", "(Ljava/lang/Object;)Z"⟩ : MethodName)) hown (mvT hZ (hw _ (List.mem_of_getElem? (i := 108) rfl))) (mvT hZ (hw _ (List.mem_of_getElem? (i := 109) rfl))) (notFace_of_selects (args := #[]) (mvT hZ (hw _ (List.mem_of_getElem? (i := 111) rfl)))) (mvT hZ (hw _ (List.mem_of_getElem? (i := 111) rfl))) (mvT hZ (hw _ (List.mem_of_getElem? (i := 110) rfl))) (by decide) (backOf (W := 0) (own_rm22s l Z a0 hw [] m1 h0 n0 Z0 ) hZ (hw _ (List.mem_of_getElem? (i := 112) rfl)) (hw _ (List.mem_of_getElem? (i := 7) rfl)) (by decide) (by decide)) q8a q8c (g := (mkF m 36 #[.val (.ref o1), .val (.ref o1), .val (.ref o1)] [(.ref m1), (.ref m1)])) rfl (by rw [hml]; rfl) (Steps.refl _) (argsL := [(.ref m1)]) (rest := []) (lenOf own_pd15 rfl) rfl (by show 2 * 0 + _ ≤ _; exact Nat.le_of_eq rfl) (hb hby own_d21_36) (fun _ _ => ⟨rfl, e7, (by decide : 0 + 0 ≤ _), (by decide : 0 + 0 ≤ _)⟩)
  dsimp only [Pt.U, Pt.locs, Pt.cells, Pt.slots] at X8 lq8 yq8 zq8 st8 hQ8
  subst lq8 yq8 zq8
  obtain ⟨rfl, Nq8, eh8⟩ := hQ8
  have N8 := Fr.app N7h Nq8
  refine own_st (G' := T8.setTop (mkF m 39 #[.val (.ref o1), .val (.ref o1), .val (.ref o1)] [(.int (1 : Int32))])) (fun t k => st8.trans k) ?_
  obtain ⟨_, X8h, N8h⟩ := own_hide X8 N8
  refine own_ifNo X8h hx 42 (hb hby own_d21_39) (feq (by decide : ¬ ((1 : Int32) = (0 : Int32)))).1 ?_
  refine own_iconst X8h hx 43 (1 : Int32) (hb hby own_d21_42) rfl ?_
  refine own_goto X8h hx 47 (hb hby own_d21_43) ?_
  exact own_retN (t := .boolean) (z := (1 : Int32)) (Q := own_Q21s Z o1 g1 m1 h0 n0) X8h hx hrt (by simp) (hb hby own_d21_47) hlk eh8 ⟨rfl, N8h, rfl⟩ (by decide) (by decide)
theorem own_d21_46 : decode prog_10_method_4_code 46 = .ok (.iconst 0, 1) := by decide +kernel
theorem own_ef21d (m : MethodId) (o1 : Addr) (o2 : Addr) : entryFrame m #[(.ref o1), (.ref o2)] 3 = mkF m 0 #[.val (.ref o1), .val (.ref o2), .unset] [] := by first | (simp [entryFrame, mkF, argsToLocals, Value.category]; done) | rfl
def own_Q21d (Z : State) (cs : Int32) (S_cs : Sta Z Z.heap "java/lang/String" "COMPACT_STRINGS" "Z" (.int cs)) (hcs : ¬ cs = (0 : Int32)) (sf : Value) (S_sf : Sta Z Z.heap "jdk/internal/util/Preconditions" "SIOOBE_FORMATTER" "Ljava/util/function/BiFunction;" sf) (hsf : sf.isRef = true) (o1 : Addr) (o2 : Addr) (g1 : Addr) (m1 : Addr) (g2 : Addr) (m2 : Addr) (b1 : Addr) (kb1 : ClassId) (n1 : Int32) (x1 : Int32) (y1 : Int32) (b2 : Addr) (kb2 : ClassId) (n2 : Int32) (x2 : Int32) (y2 : Int32) (b3 : Addr) (kb3 : ClassId) (n3 : Int32) (x3 : Int32) (y3 : Int32) (b4 : Addr) (kb4 : ClassId) (n4 : Int32) (x4 : Int32) (y4 : Int32) (h0 : Heap) (n0 : Nat) (v : Option Value) (h : Heap) (L : List Loc) : Prop := v = some (.int (own_keq (own_eqB n1 x1 y1 n2 x2 y2) (own_eqB n3 x3 y3 n4 x4 y4))) ∧ Fr n0 L ∧ h = h0
set_option maxRecDepth 65536 in
set_option maxHeartbeats 40000000 in
theorem own_rm21d (l : Launch) (Z : State) (a0 : Array Value) (hw : ∀ d ∈ tables_1, d.before a0 Z = true) (ws : List Jvm.Cond) (cs : Int32) (S_cs : Sta Z Z.heap "java/lang/String" "COMPACT_STRINGS" "Z" (.int cs)) (hcs : ¬ cs = (0 : Int32)) (sf : Value) (S_sf : Sta Z Z.heap "jdk/internal/util/Preconditions" "SIOOBE_FORMATTER" "Ljava/util/function/BiFunction;" sf) (hsf : sf.isRef = true) (o1 : Addr) (o2 : Addr) (g1 : Addr) (m1 : Addr) (g2 : Addr) (m2 : Addr) (b1 : Addr) (kb1 : ClassId) (n1 : Int32) (x1 : Int32) (y1 : Int32) (b2 : Addr) (kb2 : ClassId) (n2 : Int32) (x2 : Int32) (y2 : Int32) (b3 : Addr) (kb3 : ClassId) (n3 : Int32) (x3 : Int32) (y3 : Int32) (b4 : Addr) (kb4 : ClassId) (n4 : Int32) (x4 : Int32) (y4 : Int32) (h0 : Heap) (n0 : Nat) (Z0 : n0 ≤ h0.size) (pE1 : Exa Z h0 o1 "com/example/fates/fates/Key") (pF2 : Fld Z h0 o1 "com/example/fates/fates/Key" "group" "Ljava/lang/String;" (.ref g1)) (pF3 : Fld Z h0 o1 "com/example/fates/fates/Key" "name" "Ljava/lang/String;" (.ref m1)) (pE4 : Exa Z h0 o2 "com/example/fates/fates/Key") (pF5 : Fld Z h0 o2 "com/example/fates/fates/Key" "group" "Ljava/lang/String;" (.ref g2)) (pF6 : Fld Z h0 o2 "com/example/fates/fates/Key" "name" "Ljava/lang/String;" (.ref m2)) (pE7 : Exa Z h0 g1 "java/lang/String") (pF8 : Fld Z h0 g1 "java/lang/String" "value" "[B" (.ref b1)) (pF9 : Fld Z h0 g1 "java/lang/String" "coder" "B" (.int (0 : Int32))) (pV10 : Arv Z h0 b1 kb1 .byte n1 (own_sl n1 x1 y1) (.int (0 : Int32))) (pE11 : Exa Z h0 g2 "java/lang/String") (pF12 : Fld Z h0 g2 "java/lang/String" "value" "[B" (.ref b2)) (pF13 : Fld Z h0 g2 "java/lang/String" "coder" "B" (.int (0 : Int32))) (pV14 : Arv Z h0 b2 kb2 .byte n2 (own_sl n2 x2 y2) (.int (0 : Int32))) (pE15 : Exa Z h0 m1 "java/lang/String") (pF16 : Fld Z h0 m1 "java/lang/String" "value" "[B" (.ref b3)) (pF17 : Fld Z h0 m1 "java/lang/String" "coder" "B" (.int (0 : Int32))) (pV18 : Arv Z h0 b3 kb3 .byte n3 (own_sl n3 x3 y3) (.int (0 : Int32))) (pE19 : Exa Z h0 m2 "java/lang/String") (pF20 : Fld Z h0 m2 "java/lang/String" "value" "[B" (.ref b4)) (pF21 : Fld Z h0 m2 "java/lang/String" "coder" "B" (.int (0 : Int32))) (pV22 : Arv Z h0 b4 kb4 .byte n4 (own_sl n4 x4 y4) (.int (0 : Int32))) (O0 : Old Z n0 h0) (pN24 : g1 ≠ g2) (pN25 : m1 ≠ m2) (hn1 : own_N n1) (hn2 : own_N n2) (hn3 : own_N n3) (hn4 : own_N n4) :
    MetFree l (⟨"com/example/fates/fates/Key", "equals", "(Ljava/lang/Object;)Z"⟩ : MethodName) (head1 (Jvm.Cond.code (⟨"com/example/fates/fates/Key", "equals", "(Ljava/lang/Object;)Z"⟩ : MethodName) prog_10_method_4_code 3 (some .boolean) :: ws) ({ frames := 2, cells := 0, slots := 0, locals := 28 } : Room)) (fun a U => a = #[(.ref o1), (.ref o2)] ∧ Z.Warmed39 U.vm ∧ U.heap = h0) (fun _ _ _ _ _ => True) (fun _ U o U' => ∃ v L, o = .returned v ∧ own_Q21d Z cs S_cs hcs sf S_sf hsf o1 o2 g1 m1 g2 m2 b1 kb1 n1 x1 y1 b2 kb2 n2 x2 y2 b3 kb3 n3 x3 y3 b4 kb4 n4 x4 y4 h0 n0 v U'.heap L ∧ FrameEnd U o U' L ({ frames := 2, cells := 0, slots := 0, locals := 28 } : Room).cells ({ frames := 2, cells := 0, slots := 0, locals := 28 } : Room).slots) := by
  refine MetFree.of_bodySF (plainFor_of_name own_pn7) hisR ?_
  intro p e s m args below meth c s₁ Bd hml0 hP hK
  obtain ⟨rfl, hZ, hh⟩ := hP
  have hx := Bd.exec
  have hby := Bd.bytes
  have hlk := Bd.notSynchronized
  have hrt := Bd.returns
  have hml : c.maxLocals = 3 := hml0
  have hown : s.vm.findClass "com/example/fates/fates/Key" = some m.cls := findClass_of_methodNamed Bd.named
  have hnm := (name_of_methodNamed Bd.named Bd.method).1
  have X0 : Stand p l e ({ frames := 2, cells := 0, slots := 0, locals := 28 } : Room) s m #[(.ref o1), (.ref o2)] below meth c s₁ [] 0 0 := Stand.of_body Bd
  have e0 : s₁.heap = h0 := by rw [← hh, Bd.state]; rfl
  have N0 := Fr.nil n0
  refine own_in (own_ef21d m o1 o2) ?_
  refine own_aloadN X0 hx 1 (hb hby own_d21_0) rfl rfl ?_
  obtain ⟨T1, X1, e1, st1⟩ := instY X0 hx hZ hown (hw _ (List.mem_of_getElem? (i := 106) rfl)) e0 (Ins.self pE4) (g := (mkF m 1 #[.val (.ref o1), .val (.ref o2), .unset] [(.ref o2)])) rfl rfl (hb hby own_d21_1)
  refine own_st (G' := T1.setTop (mkF m 4 #[.val (.ref o1), .val (.ref o2), .unset] [(.int (1 : Int32))])) st1 ?_
  obtain ⟨_, X1h, N1h⟩ := own_hide X1 N0
  refine own_ifYes X1h hx 9 (hb hby own_d21_4) (feq (by decide : ¬ ((1 : Int32) = (0 : Int32)))).2 ?_
  refine own_aloadN X1h hx 10 (hb hby own_d21_9) rfl rfl ?_
  obtain ⟨T2, X2, e2, st2⟩ := castY X1h hx hZ hown (hw _ (List.mem_of_getElem? (i := 106) rfl)) e1 (Ins.self pE4) (g := (mkF m 10 #[.val (.ref o1), .val (.ref o2), .unset] [(.ref o2)])) rfl rfl (hb hby own_d21_10)
  refine own_st (G' := T2.setTop (mkF m 13 #[.val (.ref o1), .val (.ref o2), .unset] [(.ref o2)])) st2 ?_
  obtain ⟨_, X2h, N2h⟩ := own_hide X2 N1h
  refine own_astoreN X2h hx 14 #[.val (.ref o1), .val (.ref o2), .val (.ref o2)] (hb hby own_d21_13) rfl rfl ?_
  refine own_aloadN X2h hx 15 (hb hby own_d21_14) rfl rfl ?_
  obtain ⟨T3, X3, e3, st3⟩ := getF X2h hx hZ hown (host := "") (Or.inl (hw _ (List.mem_of_getElem? (i := 70) rfl))) Via.refl e2 pF2 (g := (mkF m 15 #[.val (.ref o1), .val (.ref o2), .val (.ref o2)] [(.ref o1)])) rfl rfl (hb hby own_d21_15)
  refine own_st (G' := T3.setTop (mkF m 18 #[.val (.ref o1), .val (.ref o2), .val (.ref o2)] [(.ref g1)])) st3 ?_
  obtain ⟨_, X3h, N3h⟩ := own_hide X3 N2h
  refine own_aloadN X3h hx 19 (hb hby own_d21_18) rfl rfl ?_
  obtain ⟨T4, X4, e4, st4⟩ := getF X3h hx hZ hown (host := "") (Or.inl (hw _ (List.mem_of_getElem? (i := 70) rfl))) Via.refl e3 pF5 (g := (mkF m 19 #[.val (.ref o1), .val (.ref o2), .val (.ref o2)] [(.ref o2), (.ref g1)])) rfl rfl (hb hby own_d21_19)
  refine own_st (G' := T4.setTop (mkF m 22 #[.val (.ref o1), .val (.ref o2), .val (.ref o2)] [(.ref g2), (.ref g1)])) st4 ?_
  obtain ⟨_, X4h, N4h⟩ := own_hide X4 N3h
  obtain ⟨cq5, kq5, q5a, q5b, q5c⟩ := isOf hZ e4 pE7
  obtain ⟨_, _, ⟨T5, Lx5, kc5, nc5⟩, -, X5, ⟨Lc5, hQ5, lq5, yq5, zq5⟩, st5⟩ := X4h.virtualBack hx (y := (⟨"java/lang/String", "equals", "(Ljava/lang/Object;)Z"⟩ : MethodName)) (z := (⟨"java/lang/String", "equals", "(Ljava/lang/Object;)Z"⟩ : MethodName)) hown (mvT hZ (hw _ (List.mem_of_getElem? (i := 108) rfl))) (mvT hZ (hw _ (List.mem_of_getElem? (i := 109) rfl))) (notFace_of_selects (args := #[]) (mvT hZ (hw _ (List.mem_of_getElem? (i := 111) rfl)))) (mvT hZ (hw _ (List.mem_of_getElem? (i := 111) rfl))) (mvT hZ (hw _ (List.mem_of_getElem? (i := 110) rfl))) (by decide) (backOf (W := 0) (own_rm22d l Z a0 hw [] cs S_cs hcs sf S_sf hsf g1 g2 b1 kb1 n1 x1 y1 b2 kb2 n2 x2 y2 h0 n0 Z0 pE7 pF8 pF9 pV10 pE11 pF12 pF13 pV14 O0 pN24 (hn1 : own_N n1) (hn2 : own_N n2)) hZ (hw _ (List.mem_of_getElem? (i := 112) rfl)) (hw _ (List.mem_of_getElem? (i := 7) rfl)) (by decide) (by decide)) q5a q5c (g := (mkF m 22 #[.val (.ref o1), .val (.ref o2), .val (.ref o2)] [(.ref g2), (.ref g1)])) rfl (by rw [hml]; rfl) (Steps.refl _) (argsL := [(.ref g2)]) (rest := []) (lenOf own_pd15 rfl) rfl (by show 2 * 0 + _ ≤ _; exact Nat.le_of_eq rfl) (hb hby own_d21_22) (fun _ _ => ⟨rfl, e4, (by decide : 0 + 0 ≤ _), (by decide : 0 + 0 ≤ _)⟩)
  dsimp only [Pt.U, Pt.locs, Pt.cells, Pt.slots] at X5 lq5 yq5 zq5 st5 hQ5
  subst lq5 yq5 zq5
  obtain ⟨rfl, Nq5, eh5⟩ := hQ5
  have N5 := Fr.app N4h Nq5
  refine own_st (G' := T5.setTop (mkF m 25 #[.val (.ref o1), .val (.ref o2), .val (.ref o2)] [(.int (own_eqB n1 x1 y1 n2 x2 y2))])) (fun t k => st5.trans k) ?_
  obtain ⟨_, X5h, N5h⟩ := own_hide X5 N5
  by_cases hc25_6 : (own_eqB n1 x1 y1 n2 x2 y2) = (0 : Int32)
  · refine own_ifYes X5h hx 46 (hb hby own_d21_25) (teq hc25_6).1 ?_
    refine own_iconst X5h hx 47 (0 : Int32) (hb hby own_d21_46) rfl ?_
    exact own_retN (t := .boolean) (z := (0 : Int32)) (Q := own_Q21d Z cs S_cs hcs sf S_sf hsf o1 o2 g1 m1 g2 m2 b1 kb1 n1 x1 y1 b2 kb2 n2 x2 y2 b3 kb3 n3 x3 y3 b4 kb4 n4 x4 y4 h0 n0) X5h hx hrt (by simp) (hb hby own_d21_47) hlk eh5 ⟨(own_leafI (show ((0 : Int32) : Int32) = (own_keq (own_eqB n1 x1 y1 n2 x2 y2) (own_eqB n3 x3 y3 n4 x4 y4)) by simp [own_keq, hc25_6])), N5h, rfl⟩ (by decide) (by decide)
  · refine own_ifNo X5h hx 28 (hb hby own_d21_25) (feq hc25_6).1 ?_
    refine own_aloadN X5h hx 29 (hb hby own_d21_28) rfl rfl ?_
    obtain ⟨T7, X7, e7, st7⟩ := getF X5h hx hZ hown (host := "") (Or.inl (hw _ (List.mem_of_getElem? (i := 73) rfl))) Via.refl eh5 pF3 (g := (mkF m 29 #[.val (.ref o1), .val (.ref o2), .val (.ref o2)] [(.ref o1)])) rfl rfl (hb hby own_d21_29)
    refine own_st (G' := T7.setTop (mkF m 32 #[.val (.ref o1), .val (.ref o2), .val (.ref o2)] [(.ref m1)])) st7 ?_
    obtain ⟨_, X7h, N7h⟩ := own_hide X7 N5h
    refine own_aloadN X7h hx 33 (hb hby own_d21_32) rfl rfl ?_
    obtain ⟨T8, X8, e8, st8⟩ := getF X7h hx hZ hown (host := "") (Or.inl (hw _ (List.mem_of_getElem? (i := 73) rfl))) Via.refl e7 pF6 (g := (mkF m 33 #[.val (.ref o1), .val (.ref o2), .val (.ref o2)] [(.ref o2), (.ref m1)])) rfl rfl (hb hby own_d21_33)
    refine own_st (G' := T8.setTop (mkF m 36 #[.val (.ref o1), .val (.ref o2), .val (.ref o2)] [(.ref m2), (.ref m1)])) st8 ?_
    obtain ⟨_, X8h, N8h⟩ := own_hide X8 N7h
    obtain ⟨cq9, kq9, q9a, q9b, q9c⟩ := isOf hZ e8 pE15
    obtain ⟨_, _, ⟨T9, Lx9, kc9, nc9⟩, -, X9, ⟨Lc9, hQ9, lq9, yq9, zq9⟩, st9⟩ := X8h.virtualBack hx (y := (⟨"java/lang/String", "equals", "(Ljava/lang/Object;)Z"⟩ : MethodName)) (z := (⟨"java/lang/String", "equals", "(Ljava/lang/Object;)Z"⟩ : MethodName)) hown (mvT hZ (hw _ (List.mem_of_getElem? (i := 108) rfl))) (mvT hZ (hw _ (List.mem_of_getElem? (i := 109) rfl))) (notFace_of_selects (args := #[]) (mvT hZ (hw _ (List.mem_of_getElem? (i := 111) rfl)))) (mvT hZ (hw _ (List.mem_of_getElem? (i := 111) rfl))) (mvT hZ (hw _ (List.mem_of_getElem? (i := 110) rfl))) (by decide) (backOf (W := 0) (own_rm22d l Z a0 hw [] cs S_cs hcs sf S_sf hsf m1 m2 b3 kb3 n3 x3 y3 b4 kb4 n4 x4 y4 h0 n0 Z0 pE15 pF16 pF17 pV18 pE19 pF20 pF21 pV22 O0 pN25 (hn3 : own_N n3) (hn4 : own_N n4)) hZ (hw _ (List.mem_of_getElem? (i := 112) rfl)) (hw _ (List.mem_of_getElem? (i := 7) rfl)) (by decide) (by decide)) q9a q9c (g := (mkF m 36 #[.val (.ref o1), .val (.ref o2), .val (.ref o2)] [(.ref m2), (.ref m1)])) rfl (by rw [hml]; rfl) (Steps.refl _) (argsL := [(.ref m2)]) (rest := []) (lenOf own_pd15 rfl) rfl (by show 2 * 0 + _ ≤ _; exact Nat.le_of_eq rfl) (hb hby own_d21_36) (fun _ _ => ⟨rfl, e8, (by decide : 0 + 0 ≤ _), (by decide : 0 + 0 ≤ _)⟩)
    dsimp only [Pt.U, Pt.locs, Pt.cells, Pt.slots] at X9 lq9 yq9 zq9 st9 hQ9
    subst lq9 yq9 zq9
    obtain ⟨rfl, Nq9, eh9⟩ := hQ9
    have N9 := Fr.app N8h Nq9
    refine own_st (G' := T9.setTop (mkF m 39 #[.val (.ref o1), .val (.ref o2), .val (.ref o2)] [(.int (own_eqB n3 x3 y3 n4 x4 y4))])) (fun t k => st9.trans k) ?_
    obtain ⟨_, X9h, N9h⟩ := own_hide X9 N9
    by_cases hc39_10 : (own_eqB n3 x3 y3 n4 x4 y4) = (0 : Int32)
    · refine own_ifYes X9h hx 46 (hb hby own_d21_39) (teq hc39_10).1 ?_
      refine own_iconst X9h hx 47 (0 : Int32) (hb hby own_d21_46) rfl ?_
      exact own_retN (t := .boolean) (z := (0 : Int32)) (Q := own_Q21d Z cs S_cs hcs sf S_sf hsf o1 o2 g1 m1 g2 m2 b1 kb1 n1 x1 y1 b2 kb2 n2 x2 y2 b3 kb3 n3 x3 y3 b4 kb4 n4 x4 y4 h0 n0) X9h hx hrt (by simp) (hb hby own_d21_47) hlk eh9 ⟨(own_leafI (show ((0 : Int32) : Int32) = (own_keq (own_eqB n1 x1 y1 n2 x2 y2) (own_eqB n3 x3 y3 n4 x4 y4)) by simp [own_keq, hc25_6, hc39_10])), N9h, rfl⟩ (by decide) (by decide)
    · refine own_ifNo X9h hx 42 (hb hby own_d21_39) (feq hc39_10).1 ?_
      refine own_iconst X9h hx 43 (1 : Int32) (hb hby own_d21_42) rfl ?_
      refine own_goto X9h hx 47 (hb hby own_d21_43) ?_
      exact own_retN (t := .boolean) (z := (1 : Int32)) (Q := own_Q21d Z cs S_cs hcs sf S_sf hsf o1 o2 g1 m1 g2 m2 b1 kb1 n1 x1 y1 b2 kb2 n2 x2 y2 b3 kb3 n3 x3 y3 b4 kb4 n4 x4 y4 h0 n0) X9h hx hrt (by simp) (hb hby own_d21_47) hlk eh9 ⟨(own_leafI (show ((1 : Int32) : Int32) = (own_keq (own_eqB n1 x1 y1 n2 x2 y2) (own_eqB n3 x3 y3 n4 x4 y4)) by simp [own_keq, hc25_6, hc39_10])), N9h, rfl⟩ (by decide) (by decide)
theorem own_pd16 : parseMethodDescriptor "(I)Ljava/lang/String;" = some ⟨[.int], some (.object "java/lang/String")⟩ := by decide +kernel
theorem own_pd17 : parseMethodDescriptor "(Ljava/lang/String;Ljava/lang/String;)V" = some ⟨[(.object "java/lang/String"), (.object "java/lang/String")], none⟩ := by decide +kernel
theorem own_pd18 : parseMethodDescriptor "(Ljava/lang/String;Ljava/lang/String;)Z" = some ⟨[(.object "java/lang/String"), (.object "java/lang/String")], some .boolean⟩ := by decide +kernel
theorem own_ef0 (m : MethodId) (v0 : Int32) (v1 : Int32) (v2 : Int32) (v3 : Int32) (v4 : Int32) : entryFrame m #[(.int v0), (.int v1), (.int v2), (.int v3), (.int v4)] maxLocals = mkF m 0 #[.val (.int v0), .val (.int v1), .val (.int v2), .val (.int v3), .val (.int v4), .unset, .unset, .unset, .unset, .unset, .unset, .unset, .unset, .unset, .unset] [] := by first | (simp [entryFrame, mkF, argsToLocals, Value.category, maxLocals]; done) | rfl
def own_Q0 (Z : State) (cs : Int32) (S_cs : Sta Z Z.heap "java/lang/String" "COMPACT_STRINGS" "Z" (.int cs)) (hcs : ¬ cs = (0 : Int32)) (sf : Value) (S_sf : Sta Z Z.heap "jdk/internal/util/Preconditions" "SIOOBE_FORMATTER" "Ljava/util/function/BiFunction;" sf) (hsf : sf.isRef = true) (v0 : Int32) (v1 : Int32) (v2 : Int32) (v3 : Int32) (v4 : Int32) (h0 : Heap) (n0 : Nat) (v : Option Value) (h : Heap) (L : List Loc) : Prop := v = some (.int (1 : Int32)) ∧ Fr n0 L
set_option maxRecDepth 65536 in
set_option maxHeartbeats 40000000 in
theorem own_rm0 (l : Launch) (Z : State) (a0 : Array Value) (hw : ∀ d ∈ tables_1, d.before a0 Z = true) (ws : List Jvm.Cond) (cs : Int32) (S_cs : Sta Z Z.heap "java/lang/String" "COMPACT_STRINGS" "Z" (.int cs)) (hcs : ¬ cs = (0 : Int32)) (sf : Value) (S_sf : Sta Z Z.heap "jdk/internal/util/Preconditions" "SIOOBE_FORMATTER" "Ljava/util/function/BiFunction;" sf) (hsf : sf.isRef = true) (v0 : Int32) (v1 : Int32) (v2 : Int32) (v3 : Int32) (v4 : Int32) (h0 : Heap) (n0 : Nat) (Z0 : n0 ≤ h0.size) (O0 : Old Z n0 h0) :
    MetFree l x (head1 (Jvm.Cond.code x code maxLocals ret :: ws) room_1) (fun a U => a = #[(.int v0), (.int v1), (.int v2), (.int v3), (.int v4)] ∧ Z.Warmed39 U.vm ∧ U.heap = h0) (fun _ _ _ _ _ => True) (fun _ U o U' => ∃ v L, o = .returned v ∧ own_Q0 Z cs S_cs hcs sf S_sf hsf v0 v1 v2 v3 v4 h0 n0 v U'.heap L ∧ ReturnedEndW U o U' L room_1.cells room_1.slots) := by
  refine MetFree.of_bodySF (plainFor_of_name own_pn2) hisR ?_
  intro p e s m args below meth c s₁ Bd hml0 hP hK
  obtain ⟨rfl, hZ, hh⟩ := hP
  have hx := Bd.exec
  have hby := Bd.bytes
  have hlk := Bd.notSynchronized
  have hrt := Bd.returns
  have hml : c.maxLocals = 15 := hml0
  have hown : s.vm.findClass "com/example/fates/fates/KeyEqualsPinLaw" = some m.cls := findClass_of_methodNamed Bd.named
  have hnm := (name_of_methodNamed Bd.named Bd.method).1
  have X0 : Stand p l e room_1 s m #[(.int v0), (.int v1), (.int v2), (.int v3), (.int v4)] below meth c s₁ [] 0 0 := Stand.of_body Bd
  have e0 : s₁.heap = h0 := by rw [← hh, Bd.state]; rfl
  have N0 := Fr.nil n0
  refine own_in (own_ef0 m v0 v1 v2 v3 v4) ?_
  refine own_iload X0 hx 2 (hb hby at_0) rfl ?_
  refine own_iconst X0 hx 3 (2 : Int32) (hb hby at_2) rfl ?_
  refine own_iushr X0 hx 4 (hb hby at_3) ?_
  refine own_iconst X0 hx 5 (1 : Int32) (hb hby at_4) rfl ?_
  refine own_iand X0 hx 6 (hb hby at_5) ?_
  by_cases hc6_1 : (((v4.toUInt32 >>> ((2 : Int32) &&& 31).toUInt32).toInt32) &&& (1 : Int32)) = (0 : Int32)
  · refine own_ifYes X0 hx 13 (hb hby at_6) (teq hc6_1).1 ?_
    refine own_iloadN X0 hx 14 (hb hby at_13) rfl ?_
    refine own_istore X0 hx 16 #[.val (.int v0), .val (.int v1), .val (.int v2), .val (.int v3), .val (.int v4), .val (.int v2), .unset, .unset, .unset, .unset, .unset, .unset, .unset, .unset, .unset] (hb hby at_14) rfl ?_
    refine own_iload X0 hx 18 (hb hby at_16) rfl ?_
    refine own_iconst X0 hx 19 (3 : Int32) (hb hby at_18) rfl ?_
    refine own_iushr X0 hx 20 (hb hby at_19) ?_
    refine own_iconst X0 hx 21 (1 : Int32) (hb hby at_20) rfl ?_
    refine own_iand X0 hx 22 (hb hby at_21) ?_
    by_cases hc22_2 : (((v4.toUInt32 >>> ((3 : Int32) &&& 31).toUInt32).toInt32) &&& (1 : Int32)) = (0 : Int32)
    · refine own_ifYes X0 hx 29 (hb hby at_22) (teq hc22_2).1 ?_
      refine own_iloadN X0 hx 30 (hb hby at_29) rfl ?_
      refine own_istore X0 hx 32 #[.val (.int v0), .val (.int v1), .val (.int v2), .val (.int v3), .val (.int v4), .val (.int v2), .val (.int v3), .unset, .unset, .unset, .unset, .unset, .unset, .unset, .unset] (hb hby at_30) rfl ?_
      refine own_iloadN X0 hx 33 (hb hby at_32) rfl ?_
      obtain ⟨_, _, ⟨T3, Lx3, kc3, nc3⟩, -, X3, ⟨Lc3, hQ3, lq3, yq3, zq3⟩, st3⟩ := Jvm.LawKit.callS X0 hx (y := (⟨"com/example/fates/fates/KeyEqualsPinLaw", "str", "(I)Ljava/lang/String;"⟩ : MethodName)) hown (mvT hZ (hw _ (List.mem_of_getElem? (i := 0) rfl))) (mvT hZ (hw _ (List.mem_of_getElem? (i := 1) rfl))) (mvT hZ (hw _ (List.mem_of_getElem? (i := 2) rfl))) (mvT hZ (hw _ (List.mem_of_getElem? (i := 3) rfl))) (by decide) (backOf (W := 0) (own_rm1 l Z a0 hw [] cs S_cs hcs sf S_sf hsf v0 h0 n0 Z0 O0) hZ (hw _ (List.mem_of_getElem? (i := 3) rfl)) (hw _ (List.mem_of_getElem? (i := 2) rfl)) (by decide) (by decide)) (g := (mkF m 33 #[.val (.int v0), .val (.int v1), .val (.int v2), .val (.int v3), .val (.int v4), .val (.int v2), .val (.int v3), .unset, .unset, .unset, .unset, .unset, .unset, .unset, .unset] [(.int v0)])) rfl (by rw [hml]; rfl) (argsL := [(.int v0)]) (rest := []) (lenOf own_pd16 rfl) rfl (by show 2 * 0 + _ ≤ _; exact Nat.le_of_eq rfl) (hb hby at_33) (fun _ _ => ⟨rfl, e0, (by decide : 0 + 3 ≤ _), (by decide : 0 + 8 ≤ _)⟩)
      dsimp only [Pt.U, Pt.locs, Pt.cells, Pt.slots] at X3 lq3 yq3 zq3 st3 hQ3
      subst lq3 yq3 zq3
      obtain ⟨so_3, b_3, kb_3, n_3, x_3, y_3, rfl, Nq3, Kp3, G3_0, G3_1, G3_2, G3_3, G3_4, G3_5, P3_0, P3_1⟩ := hQ3
      have N3 := Fr.app N0 Nq3
      have gt_so_3 : n0 ≤ so_3 := Nat.le_trans Z0 G3_0
      have gt_b_3 : n0 ≤ b_3 := Nat.le_trans Z0 G3_1
      have O4 := O0.keep Kp3 all0
      have Z5 := Nat.le_trans Z0 Kp3.1
      refine own_st (G' := T3.setTop (mkF m 36 #[.val (.int v0), .val (.int v1), .val (.int v2), .val (.int v3), .val (.int v4), .val (.int v2), .val (.int v3), .unset, .unset, .unset, .unset, .unset, .unset, .unset, .unset] [(.ref so_3)])) st3 ?_
      obtain ⟨_, X3h, N3h⟩ := own_hide X3 N3
      refine own_astore X3h hx 38 #[.val (.int v0), .val (.int v1), .val (.int v2), .val (.int v3), .val (.int v4), .val (.int v2), .val (.int v3), .val (.ref so_3), .unset, .unset, .unset, .unset, .unset, .unset, .unset] (hb hby at_36) rfl rfl ?_
      refine own_iloadN X3h hx 39 (hb hby at_38) rfl ?_
      obtain ⟨_, _, ⟨T6, Lx6, kc6, nc6⟩, -, X6, ⟨Lc6, hQ6, lq6, yq6, zq6⟩, st6⟩ := Jvm.LawKit.callS X3h hx (y := (⟨"com/example/fates/fates/KeyEqualsPinLaw", "str", "(I)Ljava/lang/String;"⟩ : MethodName)) hown (mvT hZ (hw _ (List.mem_of_getElem? (i := 0) rfl))) (mvT hZ (hw _ (List.mem_of_getElem? (i := 1) rfl))) (mvT hZ (hw _ (List.mem_of_getElem? (i := 2) rfl))) (mvT hZ (hw _ (List.mem_of_getElem? (i := 3) rfl))) (by decide) (backOf (W := 0) (own_rm1 l Z a0 hw [] cs S_cs hcs sf S_sf hsf v1 T3.heap n0 Z5 O4) hZ (hw _ (List.mem_of_getElem? (i := 3) rfl)) (hw _ (List.mem_of_getElem? (i := 2) rfl)) (by decide) (by decide)) (g := (mkF m 39 #[.val (.int v0), .val (.int v1), .val (.int v2), .val (.int v3), .val (.int v4), .val (.int v2), .val (.int v3), .val (.ref so_3), .unset, .unset, .unset, .unset, .unset, .unset, .unset] [(.int v1)])) rfl (by rw [hml]; rfl) (argsL := [(.int v1)]) (rest := []) (lenOf own_pd16 rfl) rfl (by show 2 * 0 + _ ≤ _; exact Nat.le_of_eq rfl) (hb hby at_39) (fun _ _ => ⟨rfl, rfl, (by decide : 3 + 3 ≤ _), (by decide : 8 + 8 ≤ _)⟩)
      dsimp only [Pt.U, Pt.locs, Pt.cells, Pt.slots] at X6 lq6 yq6 zq6 st6 hQ6
      subst lq6 yq6 zq6
      obtain ⟨so_6, b_6, kb_6, n_6, x_6, y_6, rfl, Nq6, Kp6, G6_0, G6_1, G6_2, G6_3, G6_4, G6_5, P6_0, P6_1⟩ := hQ6
      have N6 := Fr.app N3h Nq6
      have ne7 : so_3 ≠ so_6 := Nat.ne_of_lt (Nat.lt_of_lt_of_le G3_2.lt G6_0)
      have ne8 : b_3 ≠ so_6 := Nat.ne_of_lt (Nat.lt_of_lt_of_le G3_5.lt G6_0)
      have gt_so_6 : n0 ≤ so_6 := Nat.le_trans Z5 G6_0
      have ne9 : so_3 ≠ b_6 := Nat.ne_of_lt (Nat.lt_of_lt_of_le G3_2.lt G6_1)
      have ne10 : b_3 ≠ b_6 := Nat.ne_of_lt (Nat.lt_of_lt_of_le G3_5.lt G6_1)
      have gt_b_6 : n0 ≤ b_6 := Nat.le_trans Z5 G6_1
      have O11 := O4.keep Kp6 all0
      have Z12 := Nat.le_trans Z5 Kp6.1
      refine own_st (G' := T6.setTop (mkF m 42 #[.val (.int v0), .val (.int v1), .val (.int v2), .val (.int v3), .val (.int v4), .val (.int v2), .val (.int v3), .val (.ref so_3), .unset, .unset, .unset, .unset, .unset, .unset, .unset] [(.ref so_6)])) st6 ?_
      obtain ⟨_, X6h, N6h⟩ := own_hide X6 N6
      refine own_astore X6h hx 44 #[.val (.int v0), .val (.int v1), .val (.int v2), .val (.int v3), .val (.int v4), .val (.int v2), .val (.int v3), .val (.ref so_3), .val (.ref so_6), .unset, .unset, .unset, .unset, .unset, .unset] (hb hby at_42) rfl rfl ?_
      refine own_iload X6h hx 46 (hb hby at_44) rfl ?_
      obtain ⟨_, _, ⟨T13, Lx13, kc13, nc13⟩, -, X13, ⟨Lc13, hQ13, lq13, yq13, zq13⟩, st13⟩ := Jvm.LawKit.callS X6h hx (y := (⟨"com/example/fates/fates/KeyEqualsPinLaw", "str", "(I)Ljava/lang/String;"⟩ : MethodName)) hown (mvT hZ (hw _ (List.mem_of_getElem? (i := 0) rfl))) (mvT hZ (hw _ (List.mem_of_getElem? (i := 1) rfl))) (mvT hZ (hw _ (List.mem_of_getElem? (i := 2) rfl))) (mvT hZ (hw _ (List.mem_of_getElem? (i := 3) rfl))) (by decide) (backOf (W := 0) (own_rm1 l Z a0 hw [] cs S_cs hcs sf S_sf hsf v2 T6.heap n0 Z12 O11) hZ (hw _ (List.mem_of_getElem? (i := 3) rfl)) (hw _ (List.mem_of_getElem? (i := 2) rfl)) (by decide) (by decide)) (g := (mkF m 46 #[.val (.int v0), .val (.int v1), .val (.int v2), .val (.int v3), .val (.int v4), .val (.int v2), .val (.int v3), .val (.ref so_3), .val (.ref so_6), .unset, .unset, .unset, .unset, .unset, .unset] [(.int v2)])) rfl (by rw [hml]; rfl) (argsL := [(.int v2)]) (rest := []) (lenOf own_pd16 rfl) rfl (by show 2 * 0 + _ ≤ _; exact Nat.le_of_eq rfl) (hb hby at_46) (fun _ _ => ⟨rfl, rfl, (by decide : 6 + 3 ≤ _), (by decide : 16 + 8 ≤ _)⟩)
      dsimp only [Pt.U, Pt.locs, Pt.cells, Pt.slots] at X13 lq13 yq13 zq13 st13 hQ13
      subst lq13 yq13 zq13
      obtain ⟨so_13, b_13, kb_13, n_13, x_13, y_13, rfl, Nq13, Kp13, G13_0, G13_1, G13_2, G13_3, G13_4, G13_5, P13_0, P13_1⟩ := hQ13
      have N13 := Fr.app N6h Nq13
      have f14 := (G3_2.keep Kp6)
      have ne15 : so_3 ≠ so_13 := Nat.ne_of_lt (Nat.lt_of_lt_of_le f14.lt G13_0)
      have f16 := (G3_5.keep Kp6 nin0)
      have ne17 : b_3 ≠ so_13 := Nat.ne_of_lt (Nat.lt_of_lt_of_le f16.lt G13_0)
      have ne18 : so_6 ≠ so_13 := Nat.ne_of_lt (Nat.lt_of_lt_of_le G6_2.lt G13_0)
      have ne19 : b_6 ≠ so_13 := Nat.ne_of_lt (Nat.lt_of_lt_of_le G6_5.lt G13_0)
      have gt_so_13 : n0 ≤ so_13 := Nat.le_trans Z12 G13_0
      have ne20 : so_3 ≠ b_13 := Nat.ne_of_lt (Nat.lt_of_lt_of_le f14.lt G13_1)
      have ne21 : b_3 ≠ b_13 := Nat.ne_of_lt (Nat.lt_of_lt_of_le f16.lt G13_1)
      have ne22 : so_6 ≠ b_13 := Nat.ne_of_lt (Nat.lt_of_lt_of_le G6_2.lt G13_1)
      have ne23 : b_6 ≠ b_13 := Nat.ne_of_lt (Nat.lt_of_lt_of_le G6_5.lt G13_1)
      have gt_b_13 : n0 ≤ b_13 := Nat.le_trans Z12 G13_1
      have O24 := O11.keep Kp13 all0
      have Z25 := Nat.le_trans Z12 Kp13.1
      refine own_st (G' := T13.setTop (mkF m 49 #[.val (.int v0), .val (.int v1), .val (.int v2), .val (.int v3), .val (.int v4), .val (.int v2), .val (.int v3), .val (.ref so_3), .val (.ref so_6), .unset, .unset, .unset, .unset, .unset, .unset] [(.ref so_13)])) st13 ?_
      obtain ⟨_, X13h, N13h⟩ := own_hide X13 N13
      refine own_astore X13h hx 51 #[.val (.int v0), .val (.int v1), .val (.int v2), .val (.int v3), .val (.int v4), .val (.int v2), .val (.int v3), .val (.ref so_3), .val (.ref so_6), .val (.ref so_13), .unset, .unset, .unset, .unset, .unset] (hb hby at_49) rfl rfl ?_
      refine own_iload X13h hx 53 (hb hby at_51) rfl ?_
      obtain ⟨_, _, ⟨T26, Lx26, kc26, nc26⟩, -, X26, ⟨Lc26, hQ26, lq26, yq26, zq26⟩, st26⟩ := Jvm.LawKit.callS X13h hx (y := (⟨"com/example/fates/fates/KeyEqualsPinLaw", "str", "(I)Ljava/lang/String;"⟩ : MethodName)) hown (mvT hZ (hw _ (List.mem_of_getElem? (i := 0) rfl))) (mvT hZ (hw _ (List.mem_of_getElem? (i := 1) rfl))) (mvT hZ (hw _ (List.mem_of_getElem? (i := 2) rfl))) (mvT hZ (hw _ (List.mem_of_getElem? (i := 3) rfl))) (by decide) (backOf (W := 0) (own_rm1 l Z a0 hw [] cs S_cs hcs sf S_sf hsf v3 T13.heap n0 Z25 O24) hZ (hw _ (List.mem_of_getElem? (i := 3) rfl)) (hw _ (List.mem_of_getElem? (i := 2) rfl)) (by decide) (by decide)) (g := (mkF m 53 #[.val (.int v0), .val (.int v1), .val (.int v2), .val (.int v3), .val (.int v4), .val (.int v2), .val (.int v3), .val (.ref so_3), .val (.ref so_6), .val (.ref so_13), .unset, .unset, .unset, .unset, .unset] [(.int v3)])) rfl (by rw [hml]; rfl) (argsL := [(.int v3)]) (rest := []) (lenOf own_pd16 rfl) rfl (by show 2 * 0 + _ ≤ _; exact Nat.le_of_eq rfl) (hb hby at_53) (fun _ _ => ⟨rfl, rfl, (by decide : 9 + 3 ≤ _), (by decide : 24 + 8 ≤ _)⟩)
      dsimp only [Pt.U, Pt.locs, Pt.cells, Pt.slots] at X26 lq26 yq26 zq26 st26 hQ26
      subst lq26 yq26 zq26
      obtain ⟨so_26, b_26, kb_26, n_26, x_26, y_26, rfl, Nq26, Kp26, G26_0, G26_1, G26_2, G26_3, G26_4, G26_5, P26_0, P26_1⟩ := hQ26
      have N26 := Fr.app N13h Nq26
      have f27 := (f14.keep Kp13)
      have ne28 : so_3 ≠ so_26 := Nat.ne_of_lt (Nat.lt_of_lt_of_le f27.lt G26_0)
      have f29 := (f16.keep Kp13 nin0)
      have ne30 : b_3 ≠ so_26 := Nat.ne_of_lt (Nat.lt_of_lt_of_le f29.lt G26_0)
      have f31 := (G6_2.keep Kp13)
      have ne32 : so_6 ≠ so_26 := Nat.ne_of_lt (Nat.lt_of_lt_of_le f31.lt G26_0)
      have f33 := (G6_5.keep Kp13 nin0)
      have ne34 : b_6 ≠ so_26 := Nat.ne_of_lt (Nat.lt_of_lt_of_le f33.lt G26_0)
      have ne35 : so_13 ≠ so_26 := Nat.ne_of_lt (Nat.lt_of_lt_of_le G13_2.lt G26_0)
      have ne36 : b_13 ≠ so_26 := Nat.ne_of_lt (Nat.lt_of_lt_of_le G13_5.lt G26_0)
      have gt_so_26 : n0 ≤ so_26 := Nat.le_trans Z25 G26_0
      have ne37 : so_3 ≠ b_26 := Nat.ne_of_lt (Nat.lt_of_lt_of_le f27.lt G26_1)
      have ne38 : b_3 ≠ b_26 := Nat.ne_of_lt (Nat.lt_of_lt_of_le f29.lt G26_1)
      have ne39 : so_6 ≠ b_26 := Nat.ne_of_lt (Nat.lt_of_lt_of_le f31.lt G26_1)
      have ne40 : b_6 ≠ b_26 := Nat.ne_of_lt (Nat.lt_of_lt_of_le f33.lt G26_1)
      have ne41 : so_13 ≠ b_26 := Nat.ne_of_lt (Nat.lt_of_lt_of_le G13_2.lt G26_1)
      have ne42 : b_13 ≠ b_26 := Nat.ne_of_lt (Nat.lt_of_lt_of_le G13_5.lt G26_1)
      have gt_b_26 : n0 ≤ b_26 := Nat.le_trans Z25 G26_1
      have O43 := O24.keep Kp26 all0
      have Z44 := Nat.le_trans Z25 Kp26.1
      refine own_st (G' := T26.setTop (mkF m 56 #[.val (.int v0), .val (.int v1), .val (.int v2), .val (.int v3), .val (.int v4), .val (.int v2), .val (.int v3), .val (.ref so_3), .val (.ref so_6), .val (.ref so_13), .unset, .unset, .unset, .unset, .unset] [(.ref so_26)])) st26 ?_
      obtain ⟨_, X26h, N26h⟩ := own_hide X26 N26
      refine own_astore X26h hx 58 #[.val (.int v0), .val (.int v1), .val (.int v2), .val (.int v3), .val (.int v4), .val (.int v2), .val (.int v3), .val (.ref so_3), .val (.ref so_6), .val (.ref so_13), .val (.ref so_26), .unset, .unset, .unset, .unset] (hb hby at_56) rfl rfl ?_
      obtain ⟨T45, h45, X45, e45, E45, A45, D45, -, st45⟩ := newO X26h hx hZ hown (hw _ (List.mem_of_getElem? (i := 34) rfl)) (hw _ (List.mem_of_getElem? (i := 35) rfl)) (hw _ (List.mem_of_getElem? (i := 36) rfl)) rfl (g := (mkF m 58 #[.val (.int v0), .val (.int v1), .val (.int v2), .val (.int v3), .val (.int v4), .val (.int v2), .val (.int v3), .val (.ref so_3), .val (.ref so_6), .val (.ref so_13), .val (.ref so_26), .unset, .unset, .unset, .unset] [])) rfl (hb hby at_58) (by decide) (by decide)
      obtain ⟨b45, g45⟩ : ∃ z, z = T26.heap.size := ⟨_, rfl⟩
      rw [← g45] at A45 D45 st45
      have f46 := (f27.keep Kp26)
      have ne47 : so_3 ≠ b45 := Nat.ne_of_lt (Nat.lt_of_lt_of_le f46.lt (Nat.le_of_eq g45.symm))
      have f48 := (f29.keep Kp26 nin0)
      have ne49 : b_3 ≠ b45 := Nat.ne_of_lt (Nat.lt_of_lt_of_le f48.lt (Nat.le_of_eq g45.symm))
      have f50 := (f31.keep Kp26)
      have ne51 : so_6 ≠ b45 := Nat.ne_of_lt (Nat.lt_of_lt_of_le f50.lt (Nat.le_of_eq g45.symm))
      have f52 := (f33.keep Kp26 nin0)
      have ne53 : b_6 ≠ b45 := Nat.ne_of_lt (Nat.lt_of_lt_of_le f52.lt (Nat.le_of_eq g45.symm))
      have f54 := (G13_2.keep Kp26)
      have ne55 : so_13 ≠ b45 := Nat.ne_of_lt (Nat.lt_of_lt_of_le f54.lt (Nat.le_of_eq g45.symm))
      have f56 := (G13_5.keep Kp26 nin0)
      have ne57 : b_13 ≠ b45 := Nat.ne_of_lt (Nat.lt_of_lt_of_le f56.lt (Nat.le_of_eq g45.symm))
      have ne58 : so_26 ≠ b45 := Nat.ne_of_lt (Nat.lt_of_lt_of_le G26_2.lt (Nat.le_of_eq g45.symm))
      have ne59 : b_26 ≠ b45 := Nat.ne_of_lt (Nat.lt_of_lt_of_le G26_5.lt (Nat.le_of_eq g45.symm))
      have gt_b45 : n0 ≤ b45 := Nat.le_trans Z44 (Nat.le_of_eq g45.symm)
      have O60 := O43.ext E45
      have Z61 := Nat.le_trans Z44 E45.1
      have F45_group : Fld Z h45 b45 "com/example/fates/fates/Key" "group" "Ljava/lang/String;" .null := D45 (Or.inr (hw _ (List.mem_of_getElem? (i := 71) rfl))) (ty := (.object "java/lang/String")) (by decide)
      have F45_name : Fld Z h45 b45 "com/example/fates/fates/Key" "name" "Ljava/lang/String;" .null := D45 (Or.inr (hw _ (List.mem_of_getElem? (i := 74) rfl))) (ty := (.object "java/lang/String")) (by decide)
      refine own_st (G' := T45.setTop (mkF m 61 #[.val (.int v0), .val (.int v1), .val (.int v2), .val (.int v3), .val (.int v4), .val (.int v2), .val (.int v3), .val (.ref so_3), .val (.ref so_6), .val (.ref so_13), .val (.ref so_26), .unset, .unset, .unset, .unset] [(.ref b45)])) st45 ?_
      obtain ⟨_, X45h, N45h⟩ := own_hide X45 N26h
      refine own_dup X45h hx 62 (hb hby at_61) rfl ?_
      refine own_aload X45h hx 64 (hb hby at_62) rfl rfl ?_
      refine own_aload X45h hx 66 (hb hby at_64) rfl rfl ?_
      have f62 := (f46.ext E45)
      have f63 := ((((G3_3.keep Kp6 nin0).keep Kp13 nin0).keep Kp26 nin0).ext E45)
      have f64 := ((((G3_4.keep Kp6 nin0).keep Kp13 nin0).keep Kp26 nin0).ext E45)
      have f65 := (f48.ext E45)
      have f66 := (f50.ext E45)
      have f67 := (((G6_3.keep Kp13 nin0).keep Kp26 nin0).ext E45)
      have f68 := (((G6_4.keep Kp13 nin0).keep Kp26 nin0).ext E45)
      have f69 := (f52.ext E45)
      have hS0 : s.Since s.vm 0 := (State.WarmedH.refl s).since 0
      have X70q := (show Stand p l e room_1 (s.setVm s.vm) m #[(.int v0), (.int v1), (.int v2), (.int v3), (.int v4)] below meth c T45 _ _ _ from X45h)
      obtain ⟨_, _, ⟨T70, Lx70, kc70, nc70⟩, -, X70, hSx70, hgr70, ⟨Lc70, hQ70, lq70, yq70, zq70⟩, st70⟩ := X70q.specialBackS hx (y := (⟨"com/example/fates/fates/Key", "<init>", "(Ljava/lang/String;Ljava/lang/String;)V"⟩ : MethodName)) rfl hown (mvT hZ (hw _ (List.mem_of_getElem? (i := 37) rfl))) (mvT hZ (hw _ (List.mem_of_getElem? (i := 38) rfl))) (mvT hZ (hw _ (List.mem_of_getElem? (i := 39) rfl))) (by decide) (backOfS (W := 1) (own_rm8 l Z a0 hw [] cs S_cs hcs sf S_sf hsf b45 so_3 so_6 b_3 kb_3 n_3 x_3 y_3 b_6 kb_6 n_6 x_6 y_6 h45 n0 Z61 A45 F45_group F45_name gt_b45 O60 f62 f63 f64 f65 f66 f67 f68 f69 (P3_0 : own_N n_3) (P6_0 : own_N n_6) (Ne.symm ne51) (Ne.symm ne53)) hZ (hw _ (List.mem_of_getElem? (i := 39) rfl)) (hw _ (List.mem_of_getElem? (i := 36) rfl)) (by decide) (by decide)) (g := (mkF m 66 #[.val (.int v0), .val (.int v1), .val (.int v2), .val (.int v3), .val (.int v4), .val (.int v2), .val (.int v3), .val (.ref so_3), .val (.ref so_6), .val (.ref so_13), .val (.ref so_26), .unset, .unset, .unset, .unset] [(.ref so_6), (.ref so_3), (.ref b45), (.ref b45)])) rfl (by rw [hml]; rfl) (Steps.refl _) (a := b45) (argsL := [(.ref so_3), (.ref so_6)]) (rest := [(.ref b45)]) (lenOf own_pd17 rfl) rfl (by show 2 * 0 + _ ≤ _; exact Nat.le_of_eq rfl) (hb hby at_66) (fun _ _ => ⟨rfl, e45, (by decide : 13 + 4 ≤ _), (by decide : 34 + 44 ≤ _)⟩)
      dsimp only [Pt.U, Pt.locs, Pt.cells, Pt.slots] at X70 lq70 yq70 zq70 st70 hQ70 hSx70 hgr70
      subst lq70 yq70 zq70
      have hS70 := own_wf hS0 ((Nat.zero_le _)) hSx70 (by rw [e45] at hgr70; exact hgr70)
      have hown := own_wo hSx70 hown
      have hZ := own_wz hZ hSx70
      obtain ⟨rfl, Nq70, Kp70, G70_0, G70_1, G70_2⟩ := hQ70
      have N70 := Fr.app N45h Nq70
      have O71 := O60.keep Kp70 (allS gt_b45 all0)
      have Z72 := Nat.le_trans Z61 Kp70.1
      have X70w := (show Stand p l e room_1 (s.setVm T70.vm) m #[(.int v0), (.int v1), (.int v2), (.int v3), (.int v4)] below meth c T70 _ _ _ from X70)
      refine own_st (G' := T70.setTop (mkF m 69 #[.val (.int v0), .val (.int v1), .val (.int v2), .val (.int v3), .val (.int v4), .val (.int v2), .val (.int v3), .val (.ref so_3), .val (.ref so_6), .val (.ref so_13), .val (.ref so_26), .unset, .unset, .unset, .unset] [(.ref b45)])) (fun t k => st70.trans k) ?_
      obtain ⟨_, X70wh, N70wh⟩ := own_hide X70w N70
      refine own_astore X70wh hx 71 #[.val (.int v0), .val (.int v1), .val (.int v2), .val (.int v3), .val (.int v4), .val (.int v2), .val (.int v3), .val (.ref so_3), .val (.ref so_6), .val (.ref so_13), .val (.ref so_26), .val (.ref b45), .unset, .unset, .unset] (hb hby at_69) rfl rfl ?_
      obtain ⟨T73, h73, X73, e73, E73, A73, D73, -, st73⟩ := newO X70wh hx hZ hown (hw _ (List.mem_of_getElem? (i := 34) rfl)) (hw _ (List.mem_of_getElem? (i := 35) rfl)) (hw _ (List.mem_of_getElem? (i := 36) rfl)) rfl (g := (mkF m 71 #[.val (.int v0), .val (.int v1), .val (.int v2), .val (.int v3), .val (.int v4), .val (.int v2), .val (.int v3), .val (.ref so_3), .val (.ref so_6), .val (.ref so_13), .val (.ref so_26), .val (.ref b45), .unset, .unset, .unset] [])) rfl (hb hby at_71) (by decide) (by decide)
      obtain ⟨b73, g73⟩ : ∃ z, z = T70.heap.size := ⟨_, rfl⟩
      rw [← g73] at A73 D73 st73
      have f74 := (f62.keep Kp70)
      have ne75 : so_3 ≠ b73 := Nat.ne_of_lt (Nat.lt_of_lt_of_le f74.lt (Nat.le_of_eq g73.symm))
      have f76 := (f65.keep Kp70 (ninS ne49 nin0))
      have ne77 : b_3 ≠ b73 := Nat.ne_of_lt (Nat.lt_of_lt_of_le f76.lt (Nat.le_of_eq g73.symm))
      have f78 := (f66.keep Kp70)
      have ne79 : so_6 ≠ b73 := Nat.ne_of_lt (Nat.lt_of_lt_of_le f78.lt (Nat.le_of_eq g73.symm))
      have f80 := (f69.keep Kp70 (ninS ne53 nin0))
      have ne81 : b_6 ≠ b73 := Nat.ne_of_lt (Nat.lt_of_lt_of_le f80.lt (Nat.le_of_eq g73.symm))
      have f82 := ((f54.ext E45).keep Kp70)
      have ne83 : so_13 ≠ b73 := Nat.ne_of_lt (Nat.lt_of_lt_of_le f82.lt (Nat.le_of_eq g73.symm))
      have f84 := ((f56.ext E45).keep Kp70 (ninS ne57 nin0))
      have ne85 : b_13 ≠ b73 := Nat.ne_of_lt (Nat.lt_of_lt_of_le f84.lt (Nat.le_of_eq g73.symm))
      have f86 := ((G26_2.ext E45).keep Kp70)
      have ne87 : so_26 ≠ b73 := Nat.ne_of_lt (Nat.lt_of_lt_of_le f86.lt (Nat.le_of_eq g73.symm))
      have f88 := ((G26_5.ext E45).keep Kp70 (ninS ne59 nin0))
      have ne89 : b_26 ≠ b73 := Nat.ne_of_lt (Nat.lt_of_lt_of_le f88.lt (Nat.le_of_eq g73.symm))
      have ne90 : b45 ≠ b73 := Nat.ne_of_lt (Nat.lt_of_lt_of_le G70_0.lt (Nat.le_of_eq g73.symm))
      have gt_b73 : n0 ≤ b73 := Nat.le_trans Z72 (Nat.le_of_eq g73.symm)
      have O91 := O71.ext E73
      have Ks92 := Nat.le_trans (Nat.le_refl _) E73.1
      have Z93 := Nat.le_trans Z72 E73.1
      have F73_group : Fld Z h73 b73 "com/example/fates/fates/Key" "group" "Ljava/lang/String;" .null := D73 (Or.inr (hw _ (List.mem_of_getElem? (i := 71) rfl))) (ty := (.object "java/lang/String")) (by decide)
      have F73_name : Fld Z h73 b73 "com/example/fates/fates/Key" "name" "Ljava/lang/String;" .null := D73 (Or.inr (hw _ (List.mem_of_getElem? (i := 74) rfl))) (ty := (.object "java/lang/String")) (by decide)
      refine own_st (G' := T73.setTop (mkF m 74 #[.val (.int v0), .val (.int v1), .val (.int v2), .val (.int v3), .val (.int v4), .val (.int v2), .val (.int v3), .val (.ref so_3), .val (.ref so_6), .val (.ref so_13), .val (.ref so_26), .val (.ref b45), .unset, .unset, .unset] [(.ref b73)])) st73 ?_
      obtain ⟨_, X73h, N73h⟩ := own_hide X73 N70wh
      refine own_dup X73h hx 75 (hb hby at_74) rfl ?_
      refine own_aload X73h hx 77 (hb hby at_75) rfl rfl ?_
      refine own_aload X73h hx 79 (hb hby at_77) rfl rfl ?_
      have f94 := (f82.ext E73)
      have f95 := ((((G13_3.keep Kp26 nin0).ext E45).keep Kp70 (ninS ne55 nin0)).ext E73)
      have f96 := ((((G13_4.keep Kp26 nin0).ext E45).keep Kp70 (ninS ne55 nin0)).ext E73)
      have f97 := (f84.ext E73)
      have f98 := (f86.ext E73)
      have f99 := (((G26_3.ext E45).keep Kp70 (ninS ne58 nin0)).ext E73)
      have f100 := (((G26_4.ext E45).keep Kp70 (ninS ne58 nin0)).ext E73)
      have f101 := (f88.ext E73)
      obtain ⟨_, _, ⟨T102, Lx102, kc102, nc102⟩, -, X102, hSx102, hgr102, ⟨Lc102, hQ102, lq102, yq102, zq102⟩, st102⟩ := X73h.specialBackS hx (y := (⟨"com/example/fates/fates/Key", "<init>", "(Ljava/lang/String;Ljava/lang/String;)V"⟩ : MethodName)) rfl hown (mvT hZ (hw _ (List.mem_of_getElem? (i := 37) rfl))) (mvT hZ (hw _ (List.mem_of_getElem? (i := 38) rfl))) (mvT hZ (hw _ (List.mem_of_getElem? (i := 39) rfl))) (by decide) (backOfS (W := 1) (own_rm8 l Z a0 hw [] cs S_cs hcs sf S_sf hsf b73 so_13 so_26 b_13 kb_13 n_13 x_13 y_13 b_26 kb_26 n_26 x_26 y_26 h73 n0 Z93 A73 F73_group F73_name gt_b73 O91 f94 f95 f96 f97 f98 f99 f100 f101 (P13_0 : own_N n_13) (P26_0 : own_N n_26) (Ne.symm ne87) (Ne.symm ne89)) hZ (hw _ (List.mem_of_getElem? (i := 39) rfl)) (hw _ (List.mem_of_getElem? (i := 36) rfl)) (by decide) (by decide)) (g := (mkF m 79 #[.val (.int v0), .val (.int v1), .val (.int v2), .val (.int v3), .val (.int v4), .val (.int v2), .val (.int v3), .val (.ref so_3), .val (.ref so_6), .val (.ref so_13), .val (.ref so_26), .val (.ref b45), .unset, .unset, .unset] [(.ref so_26), (.ref so_13), (.ref b73), (.ref b73)])) rfl (by rw [hml]; rfl) (Steps.refl _) (a := b73) (argsL := [(.ref so_13), (.ref so_26)]) (rest := [(.ref b73)]) (lenOf own_pd17 rfl) rfl (by show 2 * 0 + _ ≤ _; exact Nat.le_of_eq rfl) (hb hby at_79) (fun _ _ => ⟨rfl, e73, (by decide : 18 + 4 ≤ _), (by decide : 80 + 44 ≤ _)⟩)
      dsimp only [Pt.U, Pt.locs, Pt.cells, Pt.slots] at X102 lq102 yq102 zq102 st102 hQ102 hSx102 hgr102
      subst lq102 yq102 zq102
      have hS102 := own_wf hS70 (Ks92) hSx102 (by rw [e73] at hgr102; exact hgr102)
      have hown := own_wo hSx102 hown
      have hZ := own_wz hZ hSx102
      obtain ⟨rfl, Nq102, Kp102, G102_0, G102_1, G102_2⟩ := hQ102
      have N102 := Fr.app N73h Nq102
      have O103 := O91.keep Kp102 (allS gt_b73 all0)
      have Z104 := Nat.le_trans Z93 Kp102.1
      have X102w := (show Stand p l e room_1 (s.setVm T102.vm) m #[(.int v0), (.int v1), (.int v2), (.int v3), (.int v4)] below meth c T102 _ _ _ from X102)
      refine own_st (G' := T102.setTop (mkF m 82 #[.val (.int v0), .val (.int v1), .val (.int v2), .val (.int v3), .val (.int v4), .val (.int v2), .val (.int v3), .val (.ref so_3), .val (.ref so_6), .val (.ref so_13), .val (.ref so_26), .val (.ref b45), .unset, .unset, .unset] [(.ref b73)])) (fun t k => st102.trans k) ?_
      obtain ⟨_, X102wh, N102wh⟩ := own_hide X102w N102
      refine own_astore X102wh hx 84 #[.val (.int v0), .val (.int v1), .val (.int v2), .val (.int v3), .val (.int v4), .val (.int v2), .val (.int v3), .val (.ref so_3), .val (.ref so_6), .val (.ref so_13), .val (.ref so_26), .val (.ref b45), .val (.ref b73), .unset, .unset] (hb hby at_82) rfl rfl ?_
      refine own_iload X102wh hx 86 (hb hby at_84) rfl ?_
      refine own_iconst X102wh hx 87 (3 : Int32) (hb hby at_86) rfl ?_
      refine own_iand X102wh hx 88 (hb hby at_87) ?_
      refine own_istore X102wh hx 90 #[.val (.int v0), .val (.int v1), .val (.int v2), .val (.int v3), .val (.int v4), .val (.int v2), .val (.int v3), .val (.ref so_3), .val (.ref so_6), .val (.ref so_13), .val (.ref so_26), .val (.ref b45), .val (.ref b73), .val (.int (v4 &&& (3 : Int32))), .unset] (hb hby at_88) rfl ?_
      refine own_iload X102wh hx 92 (hb hby at_90) rfl ?_
      refine own_iconst X102wh hx 93 (1 : Int32) (hb hby at_92) rfl ?_
      by_cases hc93_105 : (v4 &&& (3 : Int32)) = (1 : Int32)
      · refine own_icmpNo X102wh hx 96 (hb hby at_93) (teq hc93_105).2 ?_
        refine own_aload X102wh hx 98 (hb hby at_96) rfl rfl ?_
        refine own_aconstNull X102wh hx 99 (hb hby at_98) ?_
        have f107 := ((G70_0.ext E73).keep Kp102)
        obtain ⟨cq106, kq106, q106a, q106b, q106c⟩ := isOf hZ rfl f107
        obtain ⟨_, _, ⟨T106, Lx106, kc106, nc106⟩, -, X106, ⟨Lc106, hQ106, lq106, yq106, zq106⟩, st106⟩ := X102wh.virtualBack hx (y := (⟨"com/example/fates/fates/Key", "equals", "(Ljava/lang/Object;)Z"⟩ : MethodName)) (z := (⟨"com/example/fates/fates/Key", "equals", "(Ljava/lang/Object;)Z"⟩ : MethodName)) hown (mvT hZ (hw _ (List.mem_of_getElem? (i := 101) rfl))) (mvT hZ (hw _ (List.mem_of_getElem? (i := 102) rfl))) (notFace_of_selects (args := #[]) (mvT hZ (hw _ (List.mem_of_getElem? (i := 104) rfl)))) (mvT hZ (hw _ (List.mem_of_getElem? (i := 104) rfl))) (mvT hZ (hw _ (List.mem_of_getElem? (i := 103) rfl))) (by decide) (backOf (W := 0) (own_rm21n l Z a0 hw [] b45 T102.heap n0 Z104 ) hZ (hw _ (List.mem_of_getElem? (i := 105) rfl)) (hw _ (List.mem_of_getElem? (i := 36) rfl)) (by decide) (by decide)) q106a q106c (g := (mkF m 99 #[.val (.int v0), .val (.int v1), .val (.int v2), .val (.int v3), .val (.int v4), .val (.int v2), .val (.int v3), .val (.ref so_3), .val (.ref so_6), .val (.ref so_13), .val (.ref so_26), .val (.ref b45), .val (.ref b73), .val (.int (v4 &&& (3 : Int32))), .unset] [.null, (.ref b45)])) rfl (by rw [hml]; rfl) (Steps.refl _) (argsL := [.null]) (rest := []) (lenOf own_pd15 rfl) rfl (by show 2 * 0 + _ ≤ _; exact Nat.le_of_eq rfl) (hb hby at_99) (fun _ _ => ⟨rfl, rfl, (by decide : 22 + 0 ≤ _), (by decide : 124 + 0 ≤ _)⟩)
        dsimp only [Pt.U, Pt.locs, Pt.cells, Pt.slots] at X106 lq106 yq106 zq106 st106 hQ106
        subst lq106 yq106 zq106
        obtain ⟨rfl, Nq106, eh106⟩ := hQ106
        have N106 := Fr.app N102wh Nq106
        refine own_st (G' := T106.setTop (mkF m 102 #[.val (.int v0), .val (.int v1), .val (.int v2), .val (.int v3), .val (.int v4), .val (.int v2), .val (.int v3), .val (.ref so_3), .val (.ref so_6), .val (.ref so_13), .val (.ref so_26), .val (.ref b45), .val (.ref b73), .val (.int (v4 &&& (3 : Int32))), .unset] [(.int (0 : Int32))])) (fun t k => st106.trans k) ?_
        obtain ⟨_, X106h, N106h⟩ := own_hide X106 N106
        refine own_ifNo X106h hx 105 (hb hby at_102) (teq (rfl : (0 : Int32) = (0 : Int32))).2 ?_
        refine own_iconst X106h hx 106 (1 : Int32) (hb hby at_105) rfl ?_
        refine own_goto X106h hx 110 (hb hby at_106) ?_
        exact own_retNW (t := .boolean) (Q := own_Q0 Z cs S_cs hcs sf S_sf hsf v0 v1 v2 v3 v4 h0 n0) X106h hS102 (Nat.le_refl _) hx hrt (by simp) (hb hby at_110) hlk eh106 ⟨rfl, N106h⟩ (by decide) (by decide)
      · refine own_icmpYes X102wh hx 111 (hb hby at_93) (feq hc93_105).2 ?_
        refine own_iload X102wh hx 113 (hb hby at_111) rfl ?_
        refine own_iconst X102wh hx 114 (2 : Int32) (hb hby at_113) rfl ?_
        by_cases hc114_108 : (v4 &&& (3 : Int32)) = (2 : Int32)
        · refine own_icmpNo X102wh hx 117 (hb hby at_114) (teq hc114_108).2 ?_
          refine own_aload X102wh hx 119 (hb hby at_117) rfl rfl ?_
          refine own_aload X102wh hx 121 (hb hby at_119) rfl rfl ?_
          have f109 := ((f74.ext E73).keep Kp102)
          have f111 := ((G70_0.ext E73).keep Kp102)
          obtain ⟨cq110, kq110, q110a, q110b, q110c⟩ := isOf hZ rfl f111
          obtain ⟨_, _, ⟨T110, Lx110, kc110, nc110⟩, -, X110, ⟨Lc110, hQ110, lq110, yq110, zq110⟩, st110⟩ := X102wh.virtualBack hx (y := (⟨"com/example/fates/fates/Key", "equals", "(Ljava/lang/Object;)Z"⟩ : MethodName)) (z := (⟨"com/example/fates/fates/Key", "equals", "(Ljava/lang/Object;)Z"⟩ : MethodName)) hown (mvT hZ (hw _ (List.mem_of_getElem? (i := 101) rfl))) (mvT hZ (hw _ (List.mem_of_getElem? (i := 102) rfl))) (notFace_of_selects (args := #[]) (mvT hZ (hw _ (List.mem_of_getElem? (i := 104) rfl)))) (mvT hZ (hw _ (List.mem_of_getElem? (i := 104) rfl))) (mvT hZ (hw _ (List.mem_of_getElem? (i := 103) rfl))) (by decide) (backOf (W := 0) (own_rm21t l Z a0 hw [] b45 so_3 T102.heap n0 Z104 f109) hZ (hw _ (List.mem_of_getElem? (i := 105) rfl)) (hw _ (List.mem_of_getElem? (i := 36) rfl)) (by decide) (by decide)) q110a q110c (g := (mkF m 121 #[.val (.int v0), .val (.int v1), .val (.int v2), .val (.int v3), .val (.int v4), .val (.int v2), .val (.int v3), .val (.ref so_3), .val (.ref so_6), .val (.ref so_13), .val (.ref so_26), .val (.ref b45), .val (.ref b73), .val (.int (v4 &&& (3 : Int32))), .unset] [(.ref so_3), (.ref b45)])) rfl (by rw [hml]; rfl) (Steps.refl _) (argsL := [(.ref so_3)]) (rest := []) (lenOf own_pd15 rfl) rfl (by show 2 * 0 + _ ≤ _; exact Nat.le_of_eq rfl) (hb hby at_121) (fun _ _ => ⟨rfl, rfl, (by decide : 22 + 0 ≤ _), (by decide : 124 + 0 ≤ _)⟩)
          dsimp only [Pt.U, Pt.locs, Pt.cells, Pt.slots] at X110 lq110 yq110 zq110 st110 hQ110
          subst lq110 yq110 zq110
          obtain ⟨rfl, Nq110, eh110⟩ := hQ110
          have N110 := Fr.app N102wh Nq110
          refine own_st (G' := T110.setTop (mkF m 124 #[.val (.int v0), .val (.int v1), .val (.int v2), .val (.int v3), .val (.int v4), .val (.int v2), .val (.int v3), .val (.ref so_3), .val (.ref so_6), .val (.ref so_13), .val (.ref so_26), .val (.ref b45), .val (.ref b73), .val (.int (v4 &&& (3 : Int32))), .unset] [(.int (0 : Int32))])) (fun t k => st110.trans k) ?_
          obtain ⟨_, X110h, N110h⟩ := own_hide X110 N110
          refine own_ifNo X110h hx 127 (hb hby at_124) (teq (rfl : (0 : Int32) = (0 : Int32))).2 ?_
          refine own_iconst X110h hx 128 (1 : Int32) (hb hby at_127) rfl ?_
          refine own_goto X110h hx 132 (hb hby at_128) ?_
          exact own_retNW (t := .boolean) (Q := own_Q0 Z cs S_cs hcs sf S_sf hsf v0 v1 v2 v3 v4 h0 n0) X110h hS102 (Nat.le_refl _) hx hrt (by simp) (hb hby at_132) hlk eh110 ⟨rfl, N110h⟩ (by decide) (by decide)
        · refine own_icmpYes X102wh hx 133 (hb hby at_114) (feq hc114_108).2 ?_
          refine own_iload X102wh hx 135 (hb hby at_133) rfl ?_
          refine own_iconst X102wh hx 136 (3 : Int32) (hb hby at_135) rfl ?_
          by_cases hc136_112 : (v4 &&& (3 : Int32)) = (3 : Int32)
          · refine own_icmpNo X102wh hx 139 (hb hby at_136) (teq hc136_112).2 ?_
            refine own_aload X102wh hx 141 (hb hby at_139) rfl rfl ?_
            refine own_aload X102wh hx 143 (hb hby at_141) rfl rfl ?_
            have f113 := ((G70_0.ext E73).keep Kp102)
            have f114 := ((G70_1.ext E73).keep Kp102 (ninS ne90 nin0))
            have f115 := ((G70_2.ext E73).keep Kp102 (ninS ne90 nin0))
            have f116 := ((f74.ext E73).keep Kp102)
            have f117 := ((f78.ext E73).keep Kp102)
            obtain ⟨cq118, kq118, q118a, q118b, q118c⟩ := isOf hZ rfl f113
            obtain ⟨_, _, ⟨T118, Lx118, kc118, nc118⟩, -, X118, ⟨Lc118, hQ118, lq118, yq118, zq118⟩, st118⟩ := X102wh.virtualBack hx (y := (⟨"com/example/fates/fates/Key", "equals", "(Ljava/lang/Object;)Z"⟩ : MethodName)) (z := (⟨"com/example/fates/fates/Key", "equals", "(Ljava/lang/Object;)Z"⟩ : MethodName)) hown (mvT hZ (hw _ (List.mem_of_getElem? (i := 101) rfl))) (mvT hZ (hw _ (List.mem_of_getElem? (i := 102) rfl))) (notFace_of_selects (args := #[]) (mvT hZ (hw _ (List.mem_of_getElem? (i := 104) rfl)))) (mvT hZ (hw _ (List.mem_of_getElem? (i := 104) rfl))) (mvT hZ (hw _ (List.mem_of_getElem? (i := 103) rfl))) (by decide) (backOf (W := 0) (own_rm21s l Z a0 hw [] b45 so_3 so_6 T102.heap n0 Z104 f113 f114 f115 f116 f117) hZ (hw _ (List.mem_of_getElem? (i := 105) rfl)) (hw _ (List.mem_of_getElem? (i := 36) rfl)) (by decide) (by decide)) q118a q118c (g := (mkF m 143 #[.val (.int v0), .val (.int v1), .val (.int v2), .val (.int v3), .val (.int v4), .val (.int v2), .val (.int v3), .val (.ref so_3), .val (.ref so_6), .val (.ref so_13), .val (.ref so_26), .val (.ref b45), .val (.ref b73), .val (.int (v4 &&& (3 : Int32))), .unset] [(.ref b45), (.ref b45)])) rfl (by rw [hml]; rfl) (Steps.refl _) (argsL := [(.ref b45)]) (rest := []) (lenOf own_pd15 rfl) rfl (by show 2 * 0 + _ ≤ _; exact Nat.le_of_eq rfl) (hb hby at_143) (fun _ _ => ⟨rfl, rfl, (by decide : 22 + 0 ≤ _), (by decide : 124 + 0 ≤ _)⟩)
            dsimp only [Pt.U, Pt.locs, Pt.cells, Pt.slots] at X118 lq118 yq118 zq118 st118 hQ118
            subst lq118 yq118 zq118
            obtain ⟨rfl, Nq118, eh118⟩ := hQ118
            have N118 := Fr.app N102wh Nq118
            refine own_st (G' := T118.setTop (mkF m 146 #[.val (.int v0), .val (.int v1), .val (.int v2), .val (.int v3), .val (.int v4), .val (.int v2), .val (.int v3), .val (.ref so_3), .val (.ref so_6), .val (.ref so_13), .val (.ref so_26), .val (.ref b45), .val (.ref b73), .val (.int (v4 &&& (3 : Int32))), .unset] [(.int (1 : Int32))])) (fun t k => st118.trans k) ?_
            obtain ⟨_, X118h, N118h⟩ := own_hide X118 N118
            exact own_retNW (t := .boolean) (Q := own_Q0 Z cs S_cs hcs sf S_sf hsf v0 v1 v2 v3 v4 h0 n0) X118h hS102 (Nat.le_refl _) hx hrt (by simp) (hb hby at_146) hlk eh118 ⟨rfl, N118h⟩ (by decide) (by decide)
          · refine own_icmpYes X102wh hx 147 (hb hby at_136) (feq hc136_112).2 ?_
            refine own_aload X102wh hx 149 (hb hby at_147) rfl rfl ?_
            refine own_aload X102wh hx 151 (hb hby at_149) rfl rfl ?_
            have f119 := ((f74.ext E73).keep Kp102)
            have f120 := (((f63.keep Kp70 (ninS ne47 nin0)).ext E73).keep Kp102 (ninS ne75 nin0))
            have f121 := (((f64.keep Kp70 (ninS ne47 nin0)).ext E73).keep Kp102 (ninS ne75 nin0))
            have f122 := ((f76.ext E73).keep Kp102 (ninS ne77 nin0))
            have f123 := (f94.keep Kp102)
            have f124 := (f95.keep Kp102 (ninS ne83 nin0))
            have f125 := (f96.keep Kp102 (ninS ne83 nin0))
            have f126 := (f97.keep Kp102 (ninS ne85 nin0))
            obtain ⟨_, _, ⟨T127, Lx127, kc127, nc127⟩, -, X127, ⟨Lc127, hQ127, lq127, yq127, zq127⟩, st127⟩ := Jvm.LawKit.callS X102wh hx (y := (⟨"com/example/fates/fates/KeyEqualsPinLaw", "same", "(Ljava/lang/String;Ljava/lang/String;)Z"⟩ : MethodName)) hown (mvT hZ (hw _ (List.mem_of_getElem? (i := 75) rfl))) (mvT hZ (hw _ (List.mem_of_getElem? (i := 76) rfl))) (mvT hZ (hw _ (List.mem_of_getElem? (i := 2) rfl))) (mvT hZ (hw _ (List.mem_of_getElem? (i := 77) rfl))) (by decide) (backOf (W := 0) (own_rm15 l Z a0 hw [] cs S_cs hcs sf S_sf hsf so_3 so_13 b_3 kb_3 n_3 x_3 y_3 b_13 kb_13 n_13 x_13 y_13 T102.heap n0 Z104 f119 f120 f121 f122 f123 f124 f125 f126 O103 (P3_0 : own_N n_3) (P13_0 : own_N n_13) (P3_1 : own_B x_3 ∧ own_B y_3) (P13_1 : own_B x_13 ∧ own_B y_13)) hZ (hw _ (List.mem_of_getElem? (i := 77) rfl)) (hw _ (List.mem_of_getElem? (i := 2) rfl)) (by decide) (by decide)) (g := (mkF m 151 #[.val (.int v0), .val (.int v1), .val (.int v2), .val (.int v3), .val (.int v4), .val (.int v2), .val (.int v3), .val (.ref so_3), .val (.ref so_6), .val (.ref so_13), .val (.ref so_26), .val (.ref b45), .val (.ref b73), .val (.int (v4 &&& (3 : Int32))), .unset] [(.ref so_13), (.ref so_3)])) rfl (by rw [hml]; rfl) (argsL := [(.ref so_3), (.ref so_13)]) (rest := []) (lenOf own_pd18 rfl) rfl (by show 2 * 0 + _ ≤ _; exact Nat.le_of_eq rfl) (hb hby at_151) (fun _ _ => ⟨rfl, rfl, (by decide : 22 + 0 ≤ _), (by decide : 124 + 0 ≤ _)⟩)
            dsimp only [Pt.U, Pt.locs, Pt.cells, Pt.slots] at X127 lq127 yq127 zq127 st127 hQ127
            subst lq127 yq127 zq127
            obtain ⟨rfl, Nq127, eh127⟩ := hQ127
            have N127 := Fr.app N102wh Nq127
            refine own_st (G' := T127.setTop (mkF m 154 #[.val (.int v0), .val (.int v1), .val (.int v2), .val (.int v3), .val (.int v4), .val (.int v2), .val (.int v3), .val (.ref so_3), .val (.ref so_6), .val (.ref so_13), .val (.ref so_26), .val (.ref b45), .val (.ref b73), .val (.int (v4 &&& (3 : Int32))), .unset] [(.int (own_eqB n_3 x_3 y_3 n_13 x_13 y_13))])) st127 ?_
            obtain ⟨_, X127h, N127h⟩ := own_hide X127 N127
            by_cases hc154_128 : (own_eqB n_3 x_3 y_3 n_13 x_13 y_13) = (0 : Int32)
            · refine own_ifYes X127h hx 171 (hb hby at_154) (teq hc154_128).1 ?_
              refine own_iconst X127h hx 172 (0 : Int32) (hb hby at_171) rfl ?_
              refine own_istore X127h hx 174 #[.val (.int v0), .val (.int v1), .val (.int v2), .val (.int v3), .val (.int v4), .val (.int v2), .val (.int v3), .val (.ref so_3), .val (.ref so_6), .val (.ref so_13), .val (.ref so_26), .val (.ref b45), .val (.ref b73), .val (.int (v4 &&& (3 : Int32))), .val (.int (0 : Int32))] (hb hby at_172) rfl ?_
              refine own_aload X127h hx 176 (hb hby at_174) rfl rfl ?_
              refine own_aload X127h hx 178 (hb hby at_176) rfl rfl ?_
              have f129 := ((G70_0.ext E73).keep Kp102)
              have f130 := ((G70_1.ext E73).keep Kp102 (ninS ne90 nin0))
              have f131 := ((G70_2.ext E73).keep Kp102 (ninS ne90 nin0))
              have f132 := ((f78.ext E73).keep Kp102)
              have f133 := (((f67.keep Kp70 (ninS ne51 nin0)).ext E73).keep Kp102 (ninS ne79 nin0))
              have f134 := (((f68.keep Kp70 (ninS ne51 nin0)).ext E73).keep Kp102 (ninS ne79 nin0))
              have f135 := ((f80.ext E73).keep Kp102 (ninS ne81 nin0))
              have f136 := (f98.keep Kp102)
              have f137 := (f99.keep Kp102 (ninS ne87 nin0))
              have f138 := (f100.keep Kp102 (ninS ne87 nin0))
              have f139 := (f101.keep Kp102 (ninS ne89 nin0))
              obtain ⟨cq140, kq140, q140a, q140b, q140c⟩ := isOf hZ eh127 f129
              obtain ⟨_, _, ⟨T140, Lx140, kc140, nc140⟩, -, X140, ⟨Lc140, hQ140, lq140, yq140, zq140⟩, st140⟩ := X127h.virtualBack hx (y := (⟨"com/example/fates/fates/Key", "equals", "(Ljava/lang/Object;)Z"⟩ : MethodName)) (z := (⟨"com/example/fates/fates/Key", "equals", "(Ljava/lang/Object;)Z"⟩ : MethodName)) hown (mvT hZ (hw _ (List.mem_of_getElem? (i := 101) rfl))) (mvT hZ (hw _ (List.mem_of_getElem? (i := 102) rfl))) (notFace_of_selects (args := #[]) (mvT hZ (hw _ (List.mem_of_getElem? (i := 104) rfl)))) (mvT hZ (hw _ (List.mem_of_getElem? (i := 104) rfl))) (mvT hZ (hw _ (List.mem_of_getElem? (i := 103) rfl))) (by decide) (backOf (W := 0) (own_rm21d l Z a0 hw [] cs S_cs hcs sf S_sf hsf b45 b73 so_3 so_6 so_13 so_26 b_3 kb_3 n_3 x_3 y_3 b_13 kb_13 n_13 x_13 y_13 b_6 kb_6 n_6 x_6 y_6 b_26 kb_26 n_26 x_26 y_26 T102.heap n0 Z104 f129 f130 f131 G102_0 G102_1 G102_2 f119 f120 f121 f122 f123 f124 f125 f126 f132 f133 f134 f135 f136 f137 f138 f139 O103 ne15 ne32 (P3_0 : own_N n_3) (P13_0 : own_N n_13) (P6_0 : own_N n_6) (P26_0 : own_N n_26)) hZ (hw _ (List.mem_of_getElem? (i := 105) rfl)) (hw _ (List.mem_of_getElem? (i := 36) rfl)) (by decide) (by decide)) q140a q140c (g := (mkF m 178 #[.val (.int v0), .val (.int v1), .val (.int v2), .val (.int v3), .val (.int v4), .val (.int v2), .val (.int v3), .val (.ref so_3), .val (.ref so_6), .val (.ref so_13), .val (.ref so_26), .val (.ref b45), .val (.ref b73), .val (.int (v4 &&& (3 : Int32))), .val (.int (0 : Int32))] [(.ref b73), (.ref b45)])) rfl (by rw [hml]; rfl) (Steps.refl _) (argsL := [(.ref b73)]) (rest := []) (lenOf own_pd15 rfl) rfl (by show 2 * 0 + _ ≤ _; exact Nat.le_of_eq rfl) (hb hby at_178) (fun _ _ => ⟨rfl, eh127, (by decide : 22 + 0 ≤ _), (by decide : 124 + 0 ≤ _)⟩)
              dsimp only [Pt.U, Pt.locs, Pt.cells, Pt.slots] at X140 lq140 yq140 zq140 st140 hQ140
              subst lq140 yq140 zq140
              obtain ⟨rfl, Nq140, eh140⟩ := hQ140
              have N140 := Fr.app N127h Nq140
              refine own_st (G' := T140.setTop (mkF m 181 #[.val (.int v0), .val (.int v1), .val (.int v2), .val (.int v3), .val (.int v4), .val (.int v2), .val (.int v3), .val (.ref so_3), .val (.ref so_6), .val (.ref so_13), .val (.ref so_26), .val (.ref b45), .val (.ref b73), .val (.int (v4 &&& (3 : Int32))), .val (.int (0 : Int32))] [(.int (own_keq (own_eqB n_3 x_3 y_3 n_13 x_13 y_13) (own_eqB n_6 x_6 y_6 n_26 x_26 y_26)))])) (fun t k => st140.trans k) ?_
              obtain ⟨_, X140h, N140h⟩ := own_hide X140 N140
              refine own_iload X140h hx 183 (hb hby at_181) rfl ?_
              refine own_icmpNo X140h hx 186 (hb hby at_183) (teq (by simp [own_keq, hc154_128] : (own_keq (own_eqB n_3 x_3 y_3 n_13 x_13 y_13) (own_eqB n_6 x_6 y_6 n_26 x_26 y_26)) = (0 : Int32))).2 ?_
              refine own_aload X140h hx 188 (hb hby at_186) rfl rfl ?_
              refine own_aload X140h hx 190 (hb hby at_188) rfl rfl ?_
              obtain ⟨cq141, kq141, q141a, q141b, q141c⟩ := isOf hZ eh140 G102_0
              obtain ⟨_, _, ⟨T141, Lx141, kc141, nc141⟩, -, X141, ⟨Lc141, hQ141, lq141, yq141, zq141⟩, st141⟩ := X140h.virtualBack hx (y := (⟨"com/example/fates/fates/Key", "equals", "(Ljava/lang/Object;)Z"⟩ : MethodName)) (z := (⟨"com/example/fates/fates/Key", "equals", "(Ljava/lang/Object;)Z"⟩ : MethodName)) hown (mvT hZ (hw _ (List.mem_of_getElem? (i := 101) rfl))) (mvT hZ (hw _ (List.mem_of_getElem? (i := 102) rfl))) (notFace_of_selects (args := #[]) (mvT hZ (hw _ (List.mem_of_getElem? (i := 104) rfl)))) (mvT hZ (hw _ (List.mem_of_getElem? (i := 104) rfl))) (mvT hZ (hw _ (List.mem_of_getElem? (i := 103) rfl))) (by decide) (backOf (W := 0) (own_rm21d l Z a0 hw [] cs S_cs hcs sf S_sf hsf b73 b45 so_13 so_26 so_3 so_6 b_13 kb_13 n_13 x_13 y_13 b_3 kb_3 n_3 x_3 y_3 b_26 kb_26 n_26 x_26 y_26 b_6 kb_6 n_6 x_6 y_6 T102.heap n0 Z104 G102_0 G102_1 G102_2 f129 f130 f131 f123 f124 f125 f126 f119 f120 f121 f122 f136 f137 f138 f139 f132 f133 f134 f135 O103 (Ne.symm ne15) (Ne.symm ne32) (P13_0 : own_N n_13) (P3_0 : own_N n_3) (P26_0 : own_N n_26) (P6_0 : own_N n_6)) hZ (hw _ (List.mem_of_getElem? (i := 105) rfl)) (hw _ (List.mem_of_getElem? (i := 36) rfl)) (by decide) (by decide)) q141a q141c (g := (mkF m 190 #[.val (.int v0), .val (.int v1), .val (.int v2), .val (.int v3), .val (.int v4), .val (.int v2), .val (.int v3), .val (.ref so_3), .val (.ref so_6), .val (.ref so_13), .val (.ref so_26), .val (.ref b45), .val (.ref b73), .val (.int (v4 &&& (3 : Int32))), .val (.int (0 : Int32))] [(.ref b45), (.ref b73)])) rfl (by rw [hml]; rfl) (Steps.refl _) (argsL := [(.ref b45)]) (rest := []) (lenOf own_pd15 rfl) rfl (by show 2 * 0 + _ ≤ _; exact Nat.le_of_eq rfl) (hb hby at_190) (fun _ _ => ⟨rfl, eh140, (by decide : 22 + 0 ≤ _), (by decide : 124 + 0 ≤ _)⟩)
              dsimp only [Pt.U, Pt.locs, Pt.cells, Pt.slots] at X141 lq141 yq141 zq141 st141 hQ141
              subst lq141 yq141 zq141
              obtain ⟨rfl, Nq141, eh141⟩ := hQ141
              have N141 := Fr.app N140h Nq141
              refine own_st (G' := T141.setTop (mkF m 193 #[.val (.int v0), .val (.int v1), .val (.int v2), .val (.int v3), .val (.int v4), .val (.int v2), .val (.int v3), .val (.ref so_3), .val (.ref so_6), .val (.ref so_13), .val (.ref so_26), .val (.ref b45), .val (.ref b73), .val (.int (v4 &&& (3 : Int32))), .val (.int (0 : Int32))] [(.int (own_keq (own_eqB n_13 x_13 y_13 n_3 x_3 y_3) (own_eqB n_26 x_26 y_26 n_6 x_6 y_6)))])) (fun t k => st141.trans k) ?_
              obtain ⟨_, X141h, N141h⟩ := own_hide X141 N141
              refine own_iload X141h hx 195 (hb hby at_193) rfl ?_
              refine own_icmpNo X141h hx 198 (hb hby at_195) (teq (by rw [own_eqs n_13 x_13 y_13 n_3 x_3 y_3, own_eqs n_26 x_26 y_26 n_6 x_6 y_6]; simp [own_keq, hc154_128] : (own_keq (own_eqB n_13 x_13 y_13 n_3 x_3 y_3) (own_eqB n_26 x_26 y_26 n_6 x_6 y_6)) = (0 : Int32))).2 ?_
              refine own_iconst X141h hx 199 (1 : Int32) (hb hby at_198) rfl ?_
              refine own_goto X141h hx 203 (hb hby at_199) ?_
              exact own_retNW (t := .boolean) (Q := own_Q0 Z cs S_cs hcs sf S_sf hsf v0 v1 v2 v3 v4 h0 n0) X141h hS102 (Nat.le_refl _) hx hrt (by simp) (hb hby at_203) hlk eh141 ⟨rfl, N141h⟩ (by decide) (by decide)
            · refine own_ifNo X127h hx 157 (hb hby at_154) (feq hc154_128).1 ?_
              refine own_aload X127h hx 159 (hb hby at_157) rfl rfl ?_
              refine own_aload X127h hx 161 (hb hby at_159) rfl rfl ?_
              have f142 := ((f78.ext E73).keep Kp102)
              have f143 := (((f67.keep Kp70 (ninS ne51 nin0)).ext E73).keep Kp102 (ninS ne79 nin0))
              have f144 := (((f68.keep Kp70 (ninS ne51 nin0)).ext E73).keep Kp102 (ninS ne79 nin0))
              have f145 := ((f80.ext E73).keep Kp102 (ninS ne81 nin0))
              have f146 := (f98.keep Kp102)
              have f147 := (f99.keep Kp102 (ninS ne87 nin0))
              have f148 := (f100.keep Kp102 (ninS ne87 nin0))
              have f149 := (f101.keep Kp102 (ninS ne89 nin0))
              obtain ⟨_, _, ⟨T150, Lx150, kc150, nc150⟩, -, X150, ⟨Lc150, hQ150, lq150, yq150, zq150⟩, st150⟩ := Jvm.LawKit.callS X127h hx (y := (⟨"com/example/fates/fates/KeyEqualsPinLaw", "same", "(Ljava/lang/String;Ljava/lang/String;)Z"⟩ : MethodName)) hown (mvT hZ (hw _ (List.mem_of_getElem? (i := 75) rfl))) (mvT hZ (hw _ (List.mem_of_getElem? (i := 76) rfl))) (mvT hZ (hw _ (List.mem_of_getElem? (i := 2) rfl))) (mvT hZ (hw _ (List.mem_of_getElem? (i := 77) rfl))) (by decide) (backOf (W := 0) (own_rm15 l Z a0 hw [] cs S_cs hcs sf S_sf hsf so_6 so_26 b_6 kb_6 n_6 x_6 y_6 b_26 kb_26 n_26 x_26 y_26 T102.heap n0 Z104 f142 f143 f144 f145 f146 f147 f148 f149 O103 (P6_0 : own_N n_6) (P26_0 : own_N n_26) (P6_1 : own_B x_6 ∧ own_B y_6) (P26_1 : own_B x_26 ∧ own_B y_26)) hZ (hw _ (List.mem_of_getElem? (i := 77) rfl)) (hw _ (List.mem_of_getElem? (i := 2) rfl)) (by decide) (by decide)) (g := (mkF m 161 #[.val (.int v0), .val (.int v1), .val (.int v2), .val (.int v3), .val (.int v4), .val (.int v2), .val (.int v3), .val (.ref so_3), .val (.ref so_6), .val (.ref so_13), .val (.ref so_26), .val (.ref b45), .val (.ref b73), .val (.int (v4 &&& (3 : Int32))), .unset] [(.ref so_26), (.ref so_6)])) rfl (by rw [hml]; rfl) (argsL := [(.ref so_6), (.ref so_26)]) (rest := []) (lenOf own_pd18 rfl) rfl (by show 2 * 0 + _ ≤ _; exact Nat.le_of_eq rfl) (hb hby at_161) (fun _ _ => ⟨rfl, eh127, (by decide : 22 + 0 ≤ _), (by decide : 124 + 0 ≤ _)⟩)
              dsimp only [Pt.U, Pt.locs, Pt.cells, Pt.slots] at X150 lq150 yq150 zq150 st150 hQ150
              subst lq150 yq150 zq150
              obtain ⟨rfl, Nq150, eh150⟩ := hQ150
              have N150 := Fr.app N127h Nq150
              refine own_st (G' := T150.setTop (mkF m 164 #[.val (.int v0), .val (.int v1), .val (.int v2), .val (.int v3), .val (.int v4), .val (.int v2), .val (.int v3), .val (.ref so_3), .val (.ref so_6), .val (.ref so_13), .val (.ref so_26), .val (.ref b45), .val (.ref b73), .val (.int (v4 &&& (3 : Int32))), .unset] [(.int (own_eqB n_6 x_6 y_6 n_26 x_26 y_26))])) st150 ?_
              obtain ⟨_, X150h, N150h⟩ := own_hide X150 N150
              by_cases hc164_151 : (own_eqB n_6 x_6 y_6 n_26 x_26 y_26) = (0 : Int32)
              · refine own_ifYes X150h hx 171 (hb hby at_164) (teq hc164_151).1 ?_
                refine own_iconst X150h hx 172 (0 : Int32) (hb hby at_171) rfl ?_
                refine own_istore X150h hx 174 #[.val (.int v0), .val (.int v1), .val (.int v2), .val (.int v3), .val (.int v4), .val (.int v2), .val (.int v3), .val (.ref so_3), .val (.ref so_6), .val (.ref so_13), .val (.ref so_26), .val (.ref b45), .val (.ref b73), .val (.int (v4 &&& (3 : Int32))), .val (.int (0 : Int32))] (hb hby at_172) rfl ?_
                refine own_aload X150h hx 176 (hb hby at_174) rfl rfl ?_
                refine own_aload X150h hx 178 (hb hby at_176) rfl rfl ?_
                have f152 := ((G70_0.ext E73).keep Kp102)
                have f153 := ((G70_1.ext E73).keep Kp102 (ninS ne90 nin0))
                have f154 := ((G70_2.ext E73).keep Kp102 (ninS ne90 nin0))
                obtain ⟨cq155, kq155, q155a, q155b, q155c⟩ := isOf hZ eh150 f152
                obtain ⟨_, _, ⟨T155, Lx155, kc155, nc155⟩, -, X155, ⟨Lc155, hQ155, lq155, yq155, zq155⟩, st155⟩ := X150h.virtualBack hx (y := (⟨"com/example/fates/fates/Key", "equals", "(Ljava/lang/Object;)Z"⟩ : MethodName)) (z := (⟨"com/example/fates/fates/Key", "equals", "(Ljava/lang/Object;)Z"⟩ : MethodName)) hown (mvT hZ (hw _ (List.mem_of_getElem? (i := 101) rfl))) (mvT hZ (hw _ (List.mem_of_getElem? (i := 102) rfl))) (notFace_of_selects (args := #[]) (mvT hZ (hw _ (List.mem_of_getElem? (i := 104) rfl)))) (mvT hZ (hw _ (List.mem_of_getElem? (i := 104) rfl))) (mvT hZ (hw _ (List.mem_of_getElem? (i := 103) rfl))) (by decide) (backOf (W := 0) (own_rm21d l Z a0 hw [] cs S_cs hcs sf S_sf hsf b45 b73 so_3 so_6 so_13 so_26 b_3 kb_3 n_3 x_3 y_3 b_13 kb_13 n_13 x_13 y_13 b_6 kb_6 n_6 x_6 y_6 b_26 kb_26 n_26 x_26 y_26 T102.heap n0 Z104 f152 f153 f154 G102_0 G102_1 G102_2 f119 f120 f121 f122 f123 f124 f125 f126 f142 f143 f144 f145 f146 f147 f148 f149 O103 ne15 ne32 (P3_0 : own_N n_3) (P13_0 : own_N n_13) (P6_0 : own_N n_6) (P26_0 : own_N n_26)) hZ (hw _ (List.mem_of_getElem? (i := 105) rfl)) (hw _ (List.mem_of_getElem? (i := 36) rfl)) (by decide) (by decide)) q155a q155c (g := (mkF m 178 #[.val (.int v0), .val (.int v1), .val (.int v2), .val (.int v3), .val (.int v4), .val (.int v2), .val (.int v3), .val (.ref so_3), .val (.ref so_6), .val (.ref so_13), .val (.ref so_26), .val (.ref b45), .val (.ref b73), .val (.int (v4 &&& (3 : Int32))), .val (.int (0 : Int32))] [(.ref b73), (.ref b45)])) rfl (by rw [hml]; rfl) (Steps.refl _) (argsL := [(.ref b73)]) (rest := []) (lenOf own_pd15 rfl) rfl (by show 2 * 0 + _ ≤ _; exact Nat.le_of_eq rfl) (hb hby at_178) (fun _ _ => ⟨rfl, eh150, (by decide : 22 + 0 ≤ _), (by decide : 124 + 0 ≤ _)⟩)
                dsimp only [Pt.U, Pt.locs, Pt.cells, Pt.slots] at X155 lq155 yq155 zq155 st155 hQ155
                subst lq155 yq155 zq155
                obtain ⟨rfl, Nq155, eh155⟩ := hQ155
                have N155 := Fr.app N150h Nq155
                refine own_st (G' := T155.setTop (mkF m 181 #[.val (.int v0), .val (.int v1), .val (.int v2), .val (.int v3), .val (.int v4), .val (.int v2), .val (.int v3), .val (.ref so_3), .val (.ref so_6), .val (.ref so_13), .val (.ref so_26), .val (.ref b45), .val (.ref b73), .val (.int (v4 &&& (3 : Int32))), .val (.int (0 : Int32))] [(.int (own_keq (own_eqB n_3 x_3 y_3 n_13 x_13 y_13) (own_eqB n_6 x_6 y_6 n_26 x_26 y_26)))])) (fun t k => st155.trans k) ?_
                obtain ⟨_, X155h, N155h⟩ := own_hide X155 N155
                refine own_iload X155h hx 183 (hb hby at_181) rfl ?_
                refine own_icmpNo X155h hx 186 (hb hby at_183) (teq (by simp [own_keq, hc154_128, hc164_151] : (own_keq (own_eqB n_3 x_3 y_3 n_13 x_13 y_13) (own_eqB n_6 x_6 y_6 n_26 x_26 y_26)) = (0 : Int32))).2 ?_
                refine own_aload X155h hx 188 (hb hby at_186) rfl rfl ?_
                refine own_aload X155h hx 190 (hb hby at_188) rfl rfl ?_
                obtain ⟨cq156, kq156, q156a, q156b, q156c⟩ := isOf hZ eh155 G102_0
                obtain ⟨_, _, ⟨T156, Lx156, kc156, nc156⟩, -, X156, ⟨Lc156, hQ156, lq156, yq156, zq156⟩, st156⟩ := X155h.virtualBack hx (y := (⟨"com/example/fates/fates/Key", "equals", "(Ljava/lang/Object;)Z"⟩ : MethodName)) (z := (⟨"com/example/fates/fates/Key", "equals", "(Ljava/lang/Object;)Z"⟩ : MethodName)) hown (mvT hZ (hw _ (List.mem_of_getElem? (i := 101) rfl))) (mvT hZ (hw _ (List.mem_of_getElem? (i := 102) rfl))) (notFace_of_selects (args := #[]) (mvT hZ (hw _ (List.mem_of_getElem? (i := 104) rfl)))) (mvT hZ (hw _ (List.mem_of_getElem? (i := 104) rfl))) (mvT hZ (hw _ (List.mem_of_getElem? (i := 103) rfl))) (by decide) (backOf (W := 0) (own_rm21d l Z a0 hw [] cs S_cs hcs sf S_sf hsf b73 b45 so_13 so_26 so_3 so_6 b_13 kb_13 n_13 x_13 y_13 b_3 kb_3 n_3 x_3 y_3 b_26 kb_26 n_26 x_26 y_26 b_6 kb_6 n_6 x_6 y_6 T102.heap n0 Z104 G102_0 G102_1 G102_2 f152 f153 f154 f123 f124 f125 f126 f119 f120 f121 f122 f146 f147 f148 f149 f142 f143 f144 f145 O103 (Ne.symm ne15) (Ne.symm ne32) (P13_0 : own_N n_13) (P3_0 : own_N n_3) (P26_0 : own_N n_26) (P6_0 : own_N n_6)) hZ (hw _ (List.mem_of_getElem? (i := 105) rfl)) (hw _ (List.mem_of_getElem? (i := 36) rfl)) (by decide) (by decide)) q156a q156c (g := (mkF m 190 #[.val (.int v0), .val (.int v1), .val (.int v2), .val (.int v3), .val (.int v4), .val (.int v2), .val (.int v3), .val (.ref so_3), .val (.ref so_6), .val (.ref so_13), .val (.ref so_26), .val (.ref b45), .val (.ref b73), .val (.int (v4 &&& (3 : Int32))), .val (.int (0 : Int32))] [(.ref b45), (.ref b73)])) rfl (by rw [hml]; rfl) (Steps.refl _) (argsL := [(.ref b45)]) (rest := []) (lenOf own_pd15 rfl) rfl (by show 2 * 0 + _ ≤ _; exact Nat.le_of_eq rfl) (hb hby at_190) (fun _ _ => ⟨rfl, eh155, (by decide : 22 + 0 ≤ _), (by decide : 124 + 0 ≤ _)⟩)
                dsimp only [Pt.U, Pt.locs, Pt.cells, Pt.slots] at X156 lq156 yq156 zq156 st156 hQ156
                subst lq156 yq156 zq156
                obtain ⟨rfl, Nq156, eh156⟩ := hQ156
                have N156 := Fr.app N155h Nq156
                refine own_st (G' := T156.setTop (mkF m 193 #[.val (.int v0), .val (.int v1), .val (.int v2), .val (.int v3), .val (.int v4), .val (.int v2), .val (.int v3), .val (.ref so_3), .val (.ref so_6), .val (.ref so_13), .val (.ref so_26), .val (.ref b45), .val (.ref b73), .val (.int (v4 &&& (3 : Int32))), .val (.int (0 : Int32))] [(.int (own_keq (own_eqB n_13 x_13 y_13 n_3 x_3 y_3) (own_eqB n_26 x_26 y_26 n_6 x_6 y_6)))])) (fun t k => st156.trans k) ?_
                obtain ⟨_, X156h, N156h⟩ := own_hide X156 N156
                refine own_iload X156h hx 195 (hb hby at_193) rfl ?_
                refine own_icmpNo X156h hx 198 (hb hby at_195) (teq (by rw [own_eqs n_13 x_13 y_13 n_3 x_3 y_3, own_eqs n_26 x_26 y_26 n_6 x_6 y_6]; simp [own_keq, hc154_128, hc164_151] : (own_keq (own_eqB n_13 x_13 y_13 n_3 x_3 y_3) (own_eqB n_26 x_26 y_26 n_6 x_6 y_6)) = (0 : Int32))).2 ?_
                refine own_iconst X156h hx 199 (1 : Int32) (hb hby at_198) rfl ?_
                refine own_goto X156h hx 203 (hb hby at_199) ?_
                exact own_retNW (t := .boolean) (Q := own_Q0 Z cs S_cs hcs sf S_sf hsf v0 v1 v2 v3 v4 h0 n0) X156h hS102 (Nat.le_refl _) hx hrt (by simp) (hb hby at_203) hlk eh156 ⟨rfl, N156h⟩ (by decide) (by decide)
              · refine own_ifNo X150h hx 167 (hb hby at_164) (feq hc164_151).1 ?_
                refine own_iconst X150h hx 168 (1 : Int32) (hb hby at_167) rfl ?_
                refine own_goto X150h hx 172 (hb hby at_168) ?_
                refine own_istore X150h hx 174 #[.val (.int v0), .val (.int v1), .val (.int v2), .val (.int v3), .val (.int v4), .val (.int v2), .val (.int v3), .val (.ref so_3), .val (.ref so_6), .val (.ref so_13), .val (.ref so_26), .val (.ref b45), .val (.ref b73), .val (.int (v4 &&& (3 : Int32))), .val (.int (1 : Int32))] (hb hby at_172) rfl ?_
                refine own_aload X150h hx 176 (hb hby at_174) rfl rfl ?_
                refine own_aload X150h hx 178 (hb hby at_176) rfl rfl ?_
                have f157 := ((G70_0.ext E73).keep Kp102)
                have f158 := ((G70_1.ext E73).keep Kp102 (ninS ne90 nin0))
                have f159 := ((G70_2.ext E73).keep Kp102 (ninS ne90 nin0))
                obtain ⟨cq160, kq160, q160a, q160b, q160c⟩ := isOf hZ eh150 f157
                obtain ⟨_, _, ⟨T160, Lx160, kc160, nc160⟩, -, X160, ⟨Lc160, hQ160, lq160, yq160, zq160⟩, st160⟩ := X150h.virtualBack hx (y := (⟨"com/example/fates/fates/Key", "equals", "(Ljava/lang/Object;)Z"⟩ : MethodName)) (z := (⟨"com/example/fates/fates/Key", "equals", "(Ljava/lang/Object;)Z"⟩ : MethodName)) hown (mvT hZ (hw _ (List.mem_of_getElem? (i := 101) rfl))) (mvT hZ (hw _ (List.mem_of_getElem? (i := 102) rfl))) (notFace_of_selects (args := #[]) (mvT hZ (hw _ (List.mem_of_getElem? (i := 104) rfl)))) (mvT hZ (hw _ (List.mem_of_getElem? (i := 104) rfl))) (mvT hZ (hw _ (List.mem_of_getElem? (i := 103) rfl))) (by decide) (backOf (W := 0) (own_rm21d l Z a0 hw [] cs S_cs hcs sf S_sf hsf b45 b73 so_3 so_6 so_13 so_26 b_3 kb_3 n_3 x_3 y_3 b_13 kb_13 n_13 x_13 y_13 b_6 kb_6 n_6 x_6 y_6 b_26 kb_26 n_26 x_26 y_26 T102.heap n0 Z104 f157 f158 f159 G102_0 G102_1 G102_2 f119 f120 f121 f122 f123 f124 f125 f126 f142 f143 f144 f145 f146 f147 f148 f149 O103 ne15 ne32 (P3_0 : own_N n_3) (P13_0 : own_N n_13) (P6_0 : own_N n_6) (P26_0 : own_N n_26)) hZ (hw _ (List.mem_of_getElem? (i := 105) rfl)) (hw _ (List.mem_of_getElem? (i := 36) rfl)) (by decide) (by decide)) q160a q160c (g := (mkF m 178 #[.val (.int v0), .val (.int v1), .val (.int v2), .val (.int v3), .val (.int v4), .val (.int v2), .val (.int v3), .val (.ref so_3), .val (.ref so_6), .val (.ref so_13), .val (.ref so_26), .val (.ref b45), .val (.ref b73), .val (.int (v4 &&& (3 : Int32))), .val (.int (1 : Int32))] [(.ref b73), (.ref b45)])) rfl (by rw [hml]; rfl) (Steps.refl _) (argsL := [(.ref b73)]) (rest := []) (lenOf own_pd15 rfl) rfl (by show 2 * 0 + _ ≤ _; exact Nat.le_of_eq rfl) (hb hby at_178) (fun _ _ => ⟨rfl, eh150, (by decide : 22 + 0 ≤ _), (by decide : 124 + 0 ≤ _)⟩)
                dsimp only [Pt.U, Pt.locs, Pt.cells, Pt.slots] at X160 lq160 yq160 zq160 st160 hQ160
                subst lq160 yq160 zq160
                obtain ⟨rfl, Nq160, eh160⟩ := hQ160
                have N160 := Fr.app N150h Nq160
                refine own_st (G' := T160.setTop (mkF m 181 #[.val (.int v0), .val (.int v1), .val (.int v2), .val (.int v3), .val (.int v4), .val (.int v2), .val (.int v3), .val (.ref so_3), .val (.ref so_6), .val (.ref so_13), .val (.ref so_26), .val (.ref b45), .val (.ref b73), .val (.int (v4 &&& (3 : Int32))), .val (.int (1 : Int32))] [(.int (own_keq (own_eqB n_3 x_3 y_3 n_13 x_13 y_13) (own_eqB n_6 x_6 y_6 n_26 x_26 y_26)))])) (fun t k => st160.trans k) ?_
                obtain ⟨_, X160h, N160h⟩ := own_hide X160 N160
                refine own_iload X160h hx 183 (hb hby at_181) rfl ?_
                refine own_icmpNo X160h hx 186 (hb hby at_183) (teq (by simp [own_keq, hc154_128, hc164_151] : (own_keq (own_eqB n_3 x_3 y_3 n_13 x_13 y_13) (own_eqB n_6 x_6 y_6 n_26 x_26 y_26)) = (1 : Int32))).2 ?_
                refine own_aload X160h hx 188 (hb hby at_186) rfl rfl ?_
                refine own_aload X160h hx 190 (hb hby at_188) rfl rfl ?_
                obtain ⟨cq161, kq161, q161a, q161b, q161c⟩ := isOf hZ eh160 G102_0
                obtain ⟨_, _, ⟨T161, Lx161, kc161, nc161⟩, -, X161, ⟨Lc161, hQ161, lq161, yq161, zq161⟩, st161⟩ := X160h.virtualBack hx (y := (⟨"com/example/fates/fates/Key", "equals", "(Ljava/lang/Object;)Z"⟩ : MethodName)) (z := (⟨"com/example/fates/fates/Key", "equals", "(Ljava/lang/Object;)Z"⟩ : MethodName)) hown (mvT hZ (hw _ (List.mem_of_getElem? (i := 101) rfl))) (mvT hZ (hw _ (List.mem_of_getElem? (i := 102) rfl))) (notFace_of_selects (args := #[]) (mvT hZ (hw _ (List.mem_of_getElem? (i := 104) rfl)))) (mvT hZ (hw _ (List.mem_of_getElem? (i := 104) rfl))) (mvT hZ (hw _ (List.mem_of_getElem? (i := 103) rfl))) (by decide) (backOf (W := 0) (own_rm21d l Z a0 hw [] cs S_cs hcs sf S_sf hsf b73 b45 so_13 so_26 so_3 so_6 b_13 kb_13 n_13 x_13 y_13 b_3 kb_3 n_3 x_3 y_3 b_26 kb_26 n_26 x_26 y_26 b_6 kb_6 n_6 x_6 y_6 T102.heap n0 Z104 G102_0 G102_1 G102_2 f157 f158 f159 f123 f124 f125 f126 f119 f120 f121 f122 f146 f147 f148 f149 f142 f143 f144 f145 O103 (Ne.symm ne15) (Ne.symm ne32) (P13_0 : own_N n_13) (P3_0 : own_N n_3) (P26_0 : own_N n_26) (P6_0 : own_N n_6)) hZ (hw _ (List.mem_of_getElem? (i := 105) rfl)) (hw _ (List.mem_of_getElem? (i := 36) rfl)) (by decide) (by decide)) q161a q161c (g := (mkF m 190 #[.val (.int v0), .val (.int v1), .val (.int v2), .val (.int v3), .val (.int v4), .val (.int v2), .val (.int v3), .val (.ref so_3), .val (.ref so_6), .val (.ref so_13), .val (.ref so_26), .val (.ref b45), .val (.ref b73), .val (.int (v4 &&& (3 : Int32))), .val (.int (1 : Int32))] [(.ref b45), (.ref b73)])) rfl (by rw [hml]; rfl) (Steps.refl _) (argsL := [(.ref b45)]) (rest := []) (lenOf own_pd15 rfl) rfl (by show 2 * 0 + _ ≤ _; exact Nat.le_of_eq rfl) (hb hby at_190) (fun _ _ => ⟨rfl, eh160, (by decide : 22 + 0 ≤ _), (by decide : 124 + 0 ≤ _)⟩)
                dsimp only [Pt.U, Pt.locs, Pt.cells, Pt.slots] at X161 lq161 yq161 zq161 st161 hQ161
                subst lq161 yq161 zq161
                obtain ⟨rfl, Nq161, eh161⟩ := hQ161
                have N161 := Fr.app N160h Nq161
                refine own_st (G' := T161.setTop (mkF m 193 #[.val (.int v0), .val (.int v1), .val (.int v2), .val (.int v3), .val (.int v4), .val (.int v2), .val (.int v3), .val (.ref so_3), .val (.ref so_6), .val (.ref so_13), .val (.ref so_26), .val (.ref b45), .val (.ref b73), .val (.int (v4 &&& (3 : Int32))), .val (.int (1 : Int32))] [(.int (own_keq (own_eqB n_13 x_13 y_13 n_3 x_3 y_3) (own_eqB n_26 x_26 y_26 n_6 x_6 y_6)))])) (fun t k => st161.trans k) ?_
                obtain ⟨_, X161h, N161h⟩ := own_hide X161 N161
                refine own_iload X161h hx 195 (hb hby at_193) rfl ?_
                refine own_icmpNo X161h hx 198 (hb hby at_195) (teq (by rw [own_eqs n_13 x_13 y_13 n_3 x_3 y_3, own_eqs n_26 x_26 y_26 n_6 x_6 y_6]; simp [own_keq, hc154_128, hc164_151] : (own_keq (own_eqB n_13 x_13 y_13 n_3 x_3 y_3) (own_eqB n_26 x_26 y_26 n_6 x_6 y_6)) = (1 : Int32))).2 ?_
                refine own_iconst X161h hx 199 (1 : Int32) (hb hby at_198) rfl ?_
                refine own_goto X161h hx 203 (hb hby at_199) ?_
                exact own_retNW (t := .boolean) (Q := own_Q0 Z cs S_cs hcs sf S_sf hsf v0 v1 v2 v3 v4 h0 n0) X161h hS102 (Nat.le_refl _) hx hrt (by simp) (hb hby at_203) hlk eh161 ⟨rfl, N161h⟩ (by decide) (by decide)
    · refine own_ifNo X0 hx 25 (hb hby at_22) (feq hc22_2).1 ?_
      refine own_iloadN X0 hx 26 (hb hby at_25) rfl ?_
      refine own_goto X0 hx 30 (hb hby at_26) ?_
      refine own_istore X0 hx 32 #[.val (.int v0), .val (.int v1), .val (.int v2), .val (.int v3), .val (.int v4), .val (.int v2), .val (.int v1), .unset, .unset, .unset, .unset, .unset, .unset, .unset, .unset] (hb hby at_30) rfl ?_
      refine own_iloadN X0 hx 33 (hb hby at_32) rfl ?_
      obtain ⟨_, _, ⟨T162, Lx162, kc162, nc162⟩, -, X162, ⟨Lc162, hQ162, lq162, yq162, zq162⟩, st162⟩ := Jvm.LawKit.callS X0 hx (y := (⟨"com/example/fates/fates/KeyEqualsPinLaw", "str", "(I)Ljava/lang/String;"⟩ : MethodName)) hown (mvT hZ (hw _ (List.mem_of_getElem? (i := 0) rfl))) (mvT hZ (hw _ (List.mem_of_getElem? (i := 1) rfl))) (mvT hZ (hw _ (List.mem_of_getElem? (i := 2) rfl))) (mvT hZ (hw _ (List.mem_of_getElem? (i := 3) rfl))) (by decide) (backOf (W := 0) (own_rm1 l Z a0 hw [] cs S_cs hcs sf S_sf hsf v0 h0 n0 Z0 O0) hZ (hw _ (List.mem_of_getElem? (i := 3) rfl)) (hw _ (List.mem_of_getElem? (i := 2) rfl)) (by decide) (by decide)) (g := (mkF m 33 #[.val (.int v0), .val (.int v1), .val (.int v2), .val (.int v3), .val (.int v4), .val (.int v2), .val (.int v1), .unset, .unset, .unset, .unset, .unset, .unset, .unset, .unset] [(.int v0)])) rfl (by rw [hml]; rfl) (argsL := [(.int v0)]) (rest := []) (lenOf own_pd16 rfl) rfl (by show 2 * 0 + _ ≤ _; exact Nat.le_of_eq rfl) (hb hby at_33) (fun _ _ => ⟨rfl, e0, (by decide : 0 + 3 ≤ _), (by decide : 0 + 8 ≤ _)⟩)
      dsimp only [Pt.U, Pt.locs, Pt.cells, Pt.slots] at X162 lq162 yq162 zq162 st162 hQ162
      subst lq162 yq162 zq162
      obtain ⟨so_162, b_162, kb_162, n_162, x_162, y_162, rfl, Nq162, Kp162, G162_0, G162_1, G162_2, G162_3, G162_4, G162_5, P162_0, P162_1⟩ := hQ162
      have N162 := Fr.app N0 Nq162
      have gt_so_162 : n0 ≤ so_162 := Nat.le_trans Z0 G162_0
      have gt_b_162 : n0 ≤ b_162 := Nat.le_trans Z0 G162_1
      have O163 := O0.keep Kp162 all0
      have Z164 := Nat.le_trans Z0 Kp162.1
      refine own_st (G' := T162.setTop (mkF m 36 #[.val (.int v0), .val (.int v1), .val (.int v2), .val (.int v3), .val (.int v4), .val (.int v2), .val (.int v1), .unset, .unset, .unset, .unset, .unset, .unset, .unset, .unset] [(.ref so_162)])) st162 ?_
      obtain ⟨_, X162h, N162h⟩ := own_hide X162 N162
      refine own_astore X162h hx 38 #[.val (.int v0), .val (.int v1), .val (.int v2), .val (.int v3), .val (.int v4), .val (.int v2), .val (.int v1), .val (.ref so_162), .unset, .unset, .unset, .unset, .unset, .unset, .unset] (hb hby at_36) rfl rfl ?_
      refine own_iloadN X162h hx 39 (hb hby at_38) rfl ?_
      obtain ⟨_, _, ⟨T165, Lx165, kc165, nc165⟩, -, X165, ⟨Lc165, hQ165, lq165, yq165, zq165⟩, st165⟩ := Jvm.LawKit.callS X162h hx (y := (⟨"com/example/fates/fates/KeyEqualsPinLaw", "str", "(I)Ljava/lang/String;"⟩ : MethodName)) hown (mvT hZ (hw _ (List.mem_of_getElem? (i := 0) rfl))) (mvT hZ (hw _ (List.mem_of_getElem? (i := 1) rfl))) (mvT hZ (hw _ (List.mem_of_getElem? (i := 2) rfl))) (mvT hZ (hw _ (List.mem_of_getElem? (i := 3) rfl))) (by decide) (backOf (W := 0) (own_rm1 l Z a0 hw [] cs S_cs hcs sf S_sf hsf v1 T162.heap n0 Z164 O163) hZ (hw _ (List.mem_of_getElem? (i := 3) rfl)) (hw _ (List.mem_of_getElem? (i := 2) rfl)) (by decide) (by decide)) (g := (mkF m 39 #[.val (.int v0), .val (.int v1), .val (.int v2), .val (.int v3), .val (.int v4), .val (.int v2), .val (.int v1), .val (.ref so_162), .unset, .unset, .unset, .unset, .unset, .unset, .unset] [(.int v1)])) rfl (by rw [hml]; rfl) (argsL := [(.int v1)]) (rest := []) (lenOf own_pd16 rfl) rfl (by show 2 * 0 + _ ≤ _; exact Nat.le_of_eq rfl) (hb hby at_39) (fun _ _ => ⟨rfl, rfl, (by decide : 3 + 3 ≤ _), (by decide : 8 + 8 ≤ _)⟩)
      dsimp only [Pt.U, Pt.locs, Pt.cells, Pt.slots] at X165 lq165 yq165 zq165 st165 hQ165
      subst lq165 yq165 zq165
      obtain ⟨so_165, b_165, kb_165, n_165, x_165, y_165, rfl, Nq165, Kp165, G165_0, G165_1, G165_2, G165_3, G165_4, G165_5, P165_0, P165_1⟩ := hQ165
      have N165 := Fr.app N162h Nq165
      have ne166 : so_162 ≠ so_165 := Nat.ne_of_lt (Nat.lt_of_lt_of_le G162_2.lt G165_0)
      have ne167 : b_162 ≠ so_165 := Nat.ne_of_lt (Nat.lt_of_lt_of_le G162_5.lt G165_0)
      have gt_so_165 : n0 ≤ so_165 := Nat.le_trans Z164 G165_0
      have ne168 : so_162 ≠ b_165 := Nat.ne_of_lt (Nat.lt_of_lt_of_le G162_2.lt G165_1)
      have ne169 : b_162 ≠ b_165 := Nat.ne_of_lt (Nat.lt_of_lt_of_le G162_5.lt G165_1)
      have gt_b_165 : n0 ≤ b_165 := Nat.le_trans Z164 G165_1
      have O170 := O163.keep Kp165 all0
      have Z171 := Nat.le_trans Z164 Kp165.1
      refine own_st (G' := T165.setTop (mkF m 42 #[.val (.int v0), .val (.int v1), .val (.int v2), .val (.int v3), .val (.int v4), .val (.int v2), .val (.int v1), .val (.ref so_162), .unset, .unset, .unset, .unset, .unset, .unset, .unset] [(.ref so_165)])) st165 ?_
      obtain ⟨_, X165h, N165h⟩ := own_hide X165 N165
      refine own_astore X165h hx 44 #[.val (.int v0), .val (.int v1), .val (.int v2), .val (.int v3), .val (.int v4), .val (.int v2), .val (.int v1), .val (.ref so_162), .val (.ref so_165), .unset, .unset, .unset, .unset, .unset, .unset] (hb hby at_42) rfl rfl ?_
      refine own_iload X165h hx 46 (hb hby at_44) rfl ?_
      obtain ⟨_, _, ⟨T172, Lx172, kc172, nc172⟩, -, X172, ⟨Lc172, hQ172, lq172, yq172, zq172⟩, st172⟩ := Jvm.LawKit.callS X165h hx (y := (⟨"com/example/fates/fates/KeyEqualsPinLaw", "str", "(I)Ljava/lang/String;"⟩ : MethodName)) hown (mvT hZ (hw _ (List.mem_of_getElem? (i := 0) rfl))) (mvT hZ (hw _ (List.mem_of_getElem? (i := 1) rfl))) (mvT hZ (hw _ (List.mem_of_getElem? (i := 2) rfl))) (mvT hZ (hw _ (List.mem_of_getElem? (i := 3) rfl))) (by decide) (backOf (W := 0) (own_rm1 l Z a0 hw [] cs S_cs hcs sf S_sf hsf v2 T165.heap n0 Z171 O170) hZ (hw _ (List.mem_of_getElem? (i := 3) rfl)) (hw _ (List.mem_of_getElem? (i := 2) rfl)) (by decide) (by decide)) (g := (mkF m 46 #[.val (.int v0), .val (.int v1), .val (.int v2), .val (.int v3), .val (.int v4), .val (.int v2), .val (.int v1), .val (.ref so_162), .val (.ref so_165), .unset, .unset, .unset, .unset, .unset, .unset] [(.int v2)])) rfl (by rw [hml]; rfl) (argsL := [(.int v2)]) (rest := []) (lenOf own_pd16 rfl) rfl (by show 2 * 0 + _ ≤ _; exact Nat.le_of_eq rfl) (hb hby at_46) (fun _ _ => ⟨rfl, rfl, (by decide : 6 + 3 ≤ _), (by decide : 16 + 8 ≤ _)⟩)
      dsimp only [Pt.U, Pt.locs, Pt.cells, Pt.slots] at X172 lq172 yq172 zq172 st172 hQ172
      subst lq172 yq172 zq172
      obtain ⟨so_172, b_172, kb_172, n_172, x_172, y_172, rfl, Nq172, Kp172, G172_0, G172_1, G172_2, G172_3, G172_4, G172_5, P172_0, P172_1⟩ := hQ172
      have N172 := Fr.app N165h Nq172
      have f173 := (G162_2.keep Kp165)
      have ne174 : so_162 ≠ so_172 := Nat.ne_of_lt (Nat.lt_of_lt_of_le f173.lt G172_0)
      have f175 := (G162_5.keep Kp165 nin0)
      have ne176 : b_162 ≠ so_172 := Nat.ne_of_lt (Nat.lt_of_lt_of_le f175.lt G172_0)
      have ne177 : so_165 ≠ so_172 := Nat.ne_of_lt (Nat.lt_of_lt_of_le G165_2.lt G172_0)
      have ne178 : b_165 ≠ so_172 := Nat.ne_of_lt (Nat.lt_of_lt_of_le G165_5.lt G172_0)
      have gt_so_172 : n0 ≤ so_172 := Nat.le_trans Z171 G172_0
      have ne179 : so_162 ≠ b_172 := Nat.ne_of_lt (Nat.lt_of_lt_of_le f173.lt G172_1)
      have ne180 : b_162 ≠ b_172 := Nat.ne_of_lt (Nat.lt_of_lt_of_le f175.lt G172_1)
      have ne181 : so_165 ≠ b_172 := Nat.ne_of_lt (Nat.lt_of_lt_of_le G165_2.lt G172_1)
      have ne182 : b_165 ≠ b_172 := Nat.ne_of_lt (Nat.lt_of_lt_of_le G165_5.lt G172_1)
      have gt_b_172 : n0 ≤ b_172 := Nat.le_trans Z171 G172_1
      have O183 := O170.keep Kp172 all0
      have Z184 := Nat.le_trans Z171 Kp172.1
      refine own_st (G' := T172.setTop (mkF m 49 #[.val (.int v0), .val (.int v1), .val (.int v2), .val (.int v3), .val (.int v4), .val (.int v2), .val (.int v1), .val (.ref so_162), .val (.ref so_165), .unset, .unset, .unset, .unset, .unset, .unset] [(.ref so_172)])) st172 ?_
      obtain ⟨_, X172h, N172h⟩ := own_hide X172 N172
      refine own_astore X172h hx 51 #[.val (.int v0), .val (.int v1), .val (.int v2), .val (.int v3), .val (.int v4), .val (.int v2), .val (.int v1), .val (.ref so_162), .val (.ref so_165), .val (.ref so_172), .unset, .unset, .unset, .unset, .unset] (hb hby at_49) rfl rfl ?_
      refine own_iload X172h hx 53 (hb hby at_51) rfl ?_
      obtain ⟨_, _, ⟨T185, Lx185, kc185, nc185⟩, -, X185, ⟨Lc185, hQ185, lq185, yq185, zq185⟩, st185⟩ := Jvm.LawKit.callS X172h hx (y := (⟨"com/example/fates/fates/KeyEqualsPinLaw", "str", "(I)Ljava/lang/String;"⟩ : MethodName)) hown (mvT hZ (hw _ (List.mem_of_getElem? (i := 0) rfl))) (mvT hZ (hw _ (List.mem_of_getElem? (i := 1) rfl))) (mvT hZ (hw _ (List.mem_of_getElem? (i := 2) rfl))) (mvT hZ (hw _ (List.mem_of_getElem? (i := 3) rfl))) (by decide) (backOf (W := 0) (own_rm1 l Z a0 hw [] cs S_cs hcs sf S_sf hsf v1 T172.heap n0 Z184 O183) hZ (hw _ (List.mem_of_getElem? (i := 3) rfl)) (hw _ (List.mem_of_getElem? (i := 2) rfl)) (by decide) (by decide)) (g := (mkF m 53 #[.val (.int v0), .val (.int v1), .val (.int v2), .val (.int v3), .val (.int v4), .val (.int v2), .val (.int v1), .val (.ref so_162), .val (.ref so_165), .val (.ref so_172), .unset, .unset, .unset, .unset, .unset] [(.int v1)])) rfl (by rw [hml]; rfl) (argsL := [(.int v1)]) (rest := []) (lenOf own_pd16 rfl) rfl (by show 2 * 0 + _ ≤ _; exact Nat.le_of_eq rfl) (hb hby at_53) (fun _ _ => ⟨rfl, rfl, (by decide : 9 + 3 ≤ _), (by decide : 24 + 8 ≤ _)⟩)
      dsimp only [Pt.U, Pt.locs, Pt.cells, Pt.slots] at X185 lq185 yq185 zq185 st185 hQ185
      subst lq185 yq185 zq185
      obtain ⟨so_185, b_185, kb_185, n_185, x_185, y_185, rfl, Nq185, Kp185, G185_0, G185_1, G185_2, G185_3, G185_4, G185_5, P185_0, P185_1⟩ := hQ185
      have N185 := Fr.app N172h Nq185
      have f186 := (f173.keep Kp172)
      have ne187 : so_162 ≠ so_185 := Nat.ne_of_lt (Nat.lt_of_lt_of_le f186.lt G185_0)
      have f188 := (f175.keep Kp172 nin0)
      have ne189 : b_162 ≠ so_185 := Nat.ne_of_lt (Nat.lt_of_lt_of_le f188.lt G185_0)
      have f190 := (G165_2.keep Kp172)
      have ne191 : so_165 ≠ so_185 := Nat.ne_of_lt (Nat.lt_of_lt_of_le f190.lt G185_0)
      have f192 := (G165_5.keep Kp172 nin0)
      have ne193 : b_165 ≠ so_185 := Nat.ne_of_lt (Nat.lt_of_lt_of_le f192.lt G185_0)
      have ne194 : so_172 ≠ so_185 := Nat.ne_of_lt (Nat.lt_of_lt_of_le G172_2.lt G185_0)
      have ne195 : b_172 ≠ so_185 := Nat.ne_of_lt (Nat.lt_of_lt_of_le G172_5.lt G185_0)
      have gt_so_185 : n0 ≤ so_185 := Nat.le_trans Z184 G185_0
      have ne196 : so_162 ≠ b_185 := Nat.ne_of_lt (Nat.lt_of_lt_of_le f186.lt G185_1)
      have ne197 : b_162 ≠ b_185 := Nat.ne_of_lt (Nat.lt_of_lt_of_le f188.lt G185_1)
      have ne198 : so_165 ≠ b_185 := Nat.ne_of_lt (Nat.lt_of_lt_of_le f190.lt G185_1)
      have ne199 : b_165 ≠ b_185 := Nat.ne_of_lt (Nat.lt_of_lt_of_le f192.lt G185_1)
      have ne200 : so_172 ≠ b_185 := Nat.ne_of_lt (Nat.lt_of_lt_of_le G172_2.lt G185_1)
      have ne201 : b_172 ≠ b_185 := Nat.ne_of_lt (Nat.lt_of_lt_of_le G172_5.lt G185_1)
      have gt_b_185 : n0 ≤ b_185 := Nat.le_trans Z184 G185_1
      have O202 := O183.keep Kp185 all0
      have Z203 := Nat.le_trans Z184 Kp185.1
      refine own_st (G' := T185.setTop (mkF m 56 #[.val (.int v0), .val (.int v1), .val (.int v2), .val (.int v3), .val (.int v4), .val (.int v2), .val (.int v1), .val (.ref so_162), .val (.ref so_165), .val (.ref so_172), .unset, .unset, .unset, .unset, .unset] [(.ref so_185)])) st185 ?_
      obtain ⟨_, X185h, N185h⟩ := own_hide X185 N185
      refine own_astore X185h hx 58 #[.val (.int v0), .val (.int v1), .val (.int v2), .val (.int v3), .val (.int v4), .val (.int v2), .val (.int v1), .val (.ref so_162), .val (.ref so_165), .val (.ref so_172), .val (.ref so_185), .unset, .unset, .unset, .unset] (hb hby at_56) rfl rfl ?_
      obtain ⟨T204, h204, X204, e204, E204, A204, D204, -, st204⟩ := newO X185h hx hZ hown (hw _ (List.mem_of_getElem? (i := 34) rfl)) (hw _ (List.mem_of_getElem? (i := 35) rfl)) (hw _ (List.mem_of_getElem? (i := 36) rfl)) rfl (g := (mkF m 58 #[.val (.int v0), .val (.int v1), .val (.int v2), .val (.int v3), .val (.int v4), .val (.int v2), .val (.int v1), .val (.ref so_162), .val (.ref so_165), .val (.ref so_172), .val (.ref so_185), .unset, .unset, .unset, .unset] [])) rfl (hb hby at_58) (by decide) (by decide)
      obtain ⟨b204, g204⟩ : ∃ z, z = T185.heap.size := ⟨_, rfl⟩
      rw [← g204] at A204 D204 st204
      have f205 := (f186.keep Kp185)
      have ne206 : so_162 ≠ b204 := Nat.ne_of_lt (Nat.lt_of_lt_of_le f205.lt (Nat.le_of_eq g204.symm))
      have f207 := (f188.keep Kp185 nin0)
      have ne208 : b_162 ≠ b204 := Nat.ne_of_lt (Nat.lt_of_lt_of_le f207.lt (Nat.le_of_eq g204.symm))
      have f209 := (f190.keep Kp185)
      have ne210 : so_165 ≠ b204 := Nat.ne_of_lt (Nat.lt_of_lt_of_le f209.lt (Nat.le_of_eq g204.symm))
      have f211 := (f192.keep Kp185 nin0)
      have ne212 : b_165 ≠ b204 := Nat.ne_of_lt (Nat.lt_of_lt_of_le f211.lt (Nat.le_of_eq g204.symm))
      have f213 := (G172_2.keep Kp185)
      have ne214 : so_172 ≠ b204 := Nat.ne_of_lt (Nat.lt_of_lt_of_le f213.lt (Nat.le_of_eq g204.symm))
      have f215 := (G172_5.keep Kp185 nin0)
      have ne216 : b_172 ≠ b204 := Nat.ne_of_lt (Nat.lt_of_lt_of_le f215.lt (Nat.le_of_eq g204.symm))
      have ne217 : so_185 ≠ b204 := Nat.ne_of_lt (Nat.lt_of_lt_of_le G185_2.lt (Nat.le_of_eq g204.symm))
      have ne218 : b_185 ≠ b204 := Nat.ne_of_lt (Nat.lt_of_lt_of_le G185_5.lt (Nat.le_of_eq g204.symm))
      have gt_b204 : n0 ≤ b204 := Nat.le_trans Z203 (Nat.le_of_eq g204.symm)
      have O219 := O202.ext E204
      have Z220 := Nat.le_trans Z203 E204.1
      have F204_group : Fld Z h204 b204 "com/example/fates/fates/Key" "group" "Ljava/lang/String;" .null := D204 (Or.inr (hw _ (List.mem_of_getElem? (i := 71) rfl))) (ty := (.object "java/lang/String")) (by decide)
      have F204_name : Fld Z h204 b204 "com/example/fates/fates/Key" "name" "Ljava/lang/String;" .null := D204 (Or.inr (hw _ (List.mem_of_getElem? (i := 74) rfl))) (ty := (.object "java/lang/String")) (by decide)
      refine own_st (G' := T204.setTop (mkF m 61 #[.val (.int v0), .val (.int v1), .val (.int v2), .val (.int v3), .val (.int v4), .val (.int v2), .val (.int v1), .val (.ref so_162), .val (.ref so_165), .val (.ref so_172), .val (.ref so_185), .unset, .unset, .unset, .unset] [(.ref b204)])) st204 ?_
      obtain ⟨_, X204h, N204h⟩ := own_hide X204 N185h
      refine own_dup X204h hx 62 (hb hby at_61) rfl ?_
      refine own_aload X204h hx 64 (hb hby at_62) rfl rfl ?_
      refine own_aload X204h hx 66 (hb hby at_64) rfl rfl ?_
      have f221 := (f205.ext E204)
      have f222 := ((((G162_3.keep Kp165 nin0).keep Kp172 nin0).keep Kp185 nin0).ext E204)
      have f223 := ((((G162_4.keep Kp165 nin0).keep Kp172 nin0).keep Kp185 nin0).ext E204)
      have f224 := (f207.ext E204)
      have f225 := (f209.ext E204)
      have f226 := (((G165_3.keep Kp172 nin0).keep Kp185 nin0).ext E204)
      have f227 := (((G165_4.keep Kp172 nin0).keep Kp185 nin0).ext E204)
      have f228 := (f211.ext E204)
      have hS0 : s.Since s.vm 0 := (State.WarmedH.refl s).since 0
      have X229q := (show Stand p l e room_1 (s.setVm s.vm) m #[(.int v0), (.int v1), (.int v2), (.int v3), (.int v4)] below meth c T204 _ _ _ from X204h)
      obtain ⟨_, _, ⟨T229, Lx229, kc229, nc229⟩, -, X229, hSx229, hgr229, ⟨Lc229, hQ229, lq229, yq229, zq229⟩, st229⟩ := X229q.specialBackS hx (y := (⟨"com/example/fates/fates/Key", "<init>", "(Ljava/lang/String;Ljava/lang/String;)V"⟩ : MethodName)) rfl hown (mvT hZ (hw _ (List.mem_of_getElem? (i := 37) rfl))) (mvT hZ (hw _ (List.mem_of_getElem? (i := 38) rfl))) (mvT hZ (hw _ (List.mem_of_getElem? (i := 39) rfl))) (by decide) (backOfS (W := 1) (own_rm8 l Z a0 hw [] cs S_cs hcs sf S_sf hsf b204 so_162 so_165 b_162 kb_162 n_162 x_162 y_162 b_165 kb_165 n_165 x_165 y_165 h204 n0 Z220 A204 F204_group F204_name gt_b204 O219 f221 f222 f223 f224 f225 f226 f227 f228 (P162_0 : own_N n_162) (P165_0 : own_N n_165) (Ne.symm ne210) (Ne.symm ne212)) hZ (hw _ (List.mem_of_getElem? (i := 39) rfl)) (hw _ (List.mem_of_getElem? (i := 36) rfl)) (by decide) (by decide)) (g := (mkF m 66 #[.val (.int v0), .val (.int v1), .val (.int v2), .val (.int v3), .val (.int v4), .val (.int v2), .val (.int v1), .val (.ref so_162), .val (.ref so_165), .val (.ref so_172), .val (.ref so_185), .unset, .unset, .unset, .unset] [(.ref so_165), (.ref so_162), (.ref b204), (.ref b204)])) rfl (by rw [hml]; rfl) (Steps.refl _) (a := b204) (argsL := [(.ref so_162), (.ref so_165)]) (rest := [(.ref b204)]) (lenOf own_pd17 rfl) rfl (by show 2 * 0 + _ ≤ _; exact Nat.le_of_eq rfl) (hb hby at_66) (fun _ _ => ⟨rfl, e204, (by decide : 13 + 4 ≤ _), (by decide : 34 + 44 ≤ _)⟩)
      dsimp only [Pt.U, Pt.locs, Pt.cells, Pt.slots] at X229 lq229 yq229 zq229 st229 hQ229 hSx229 hgr229
      subst lq229 yq229 zq229
      have hS229 := own_wf hS0 ((Nat.zero_le _)) hSx229 (by rw [e204] at hgr229; exact hgr229)
      have hown := own_wo hSx229 hown
      have hZ := own_wz hZ hSx229
      obtain ⟨rfl, Nq229, Kp229, G229_0, G229_1, G229_2⟩ := hQ229
      have N229 := Fr.app N204h Nq229
      have O230 := O219.keep Kp229 (allS gt_b204 all0)
      have Z231 := Nat.le_trans Z220 Kp229.1
      have X229w := (show Stand p l e room_1 (s.setVm T229.vm) m #[(.int v0), (.int v1), (.int v2), (.int v3), (.int v4)] below meth c T229 _ _ _ from X229)
      refine own_st (G' := T229.setTop (mkF m 69 #[.val (.int v0), .val (.int v1), .val (.int v2), .val (.int v3), .val (.int v4), .val (.int v2), .val (.int v1), .val (.ref so_162), .val (.ref so_165), .val (.ref so_172), .val (.ref so_185), .unset, .unset, .unset, .unset] [(.ref b204)])) (fun t k => st229.trans k) ?_
      obtain ⟨_, X229wh, N229wh⟩ := own_hide X229w N229
      refine own_astore X229wh hx 71 #[.val (.int v0), .val (.int v1), .val (.int v2), .val (.int v3), .val (.int v4), .val (.int v2), .val (.int v1), .val (.ref so_162), .val (.ref so_165), .val (.ref so_172), .val (.ref so_185), .val (.ref b204), .unset, .unset, .unset] (hb hby at_69) rfl rfl ?_
      obtain ⟨T232, h232, X232, e232, E232, A232, D232, -, st232⟩ := newO X229wh hx hZ hown (hw _ (List.mem_of_getElem? (i := 34) rfl)) (hw _ (List.mem_of_getElem? (i := 35) rfl)) (hw _ (List.mem_of_getElem? (i := 36) rfl)) rfl (g := (mkF m 71 #[.val (.int v0), .val (.int v1), .val (.int v2), .val (.int v3), .val (.int v4), .val (.int v2), .val (.int v1), .val (.ref so_162), .val (.ref so_165), .val (.ref so_172), .val (.ref so_185), .val (.ref b204), .unset, .unset, .unset] [])) rfl (hb hby at_71) (by decide) (by decide)
      obtain ⟨b232, g232⟩ : ∃ z, z = T229.heap.size := ⟨_, rfl⟩
      rw [← g232] at A232 D232 st232
      have f233 := (f221.keep Kp229)
      have ne234 : so_162 ≠ b232 := Nat.ne_of_lt (Nat.lt_of_lt_of_le f233.lt (Nat.le_of_eq g232.symm))
      have f235 := (f224.keep Kp229 (ninS ne208 nin0))
      have ne236 : b_162 ≠ b232 := Nat.ne_of_lt (Nat.lt_of_lt_of_le f235.lt (Nat.le_of_eq g232.symm))
      have f237 := (f225.keep Kp229)
      have ne238 : so_165 ≠ b232 := Nat.ne_of_lt (Nat.lt_of_lt_of_le f237.lt (Nat.le_of_eq g232.symm))
      have f239 := (f228.keep Kp229 (ninS ne212 nin0))
      have ne240 : b_165 ≠ b232 := Nat.ne_of_lt (Nat.lt_of_lt_of_le f239.lt (Nat.le_of_eq g232.symm))
      have f241 := ((f213.ext E204).keep Kp229)
      have ne242 : so_172 ≠ b232 := Nat.ne_of_lt (Nat.lt_of_lt_of_le f241.lt (Nat.le_of_eq g232.symm))
      have f243 := ((f215.ext E204).keep Kp229 (ninS ne216 nin0))
      have ne244 : b_172 ≠ b232 := Nat.ne_of_lt (Nat.lt_of_lt_of_le f243.lt (Nat.le_of_eq g232.symm))
      have f245 := ((G185_2.ext E204).keep Kp229)
      have ne246 : so_185 ≠ b232 := Nat.ne_of_lt (Nat.lt_of_lt_of_le f245.lt (Nat.le_of_eq g232.symm))
      have f247 := ((G185_5.ext E204).keep Kp229 (ninS ne218 nin0))
      have ne248 : b_185 ≠ b232 := Nat.ne_of_lt (Nat.lt_of_lt_of_le f247.lt (Nat.le_of_eq g232.symm))
      have ne249 : b204 ≠ b232 := Nat.ne_of_lt (Nat.lt_of_lt_of_le G229_0.lt (Nat.le_of_eq g232.symm))
      have gt_b232 : n0 ≤ b232 := Nat.le_trans Z231 (Nat.le_of_eq g232.symm)
      have O250 := O230.ext E232
      have Ks251 := Nat.le_trans (Nat.le_refl _) E232.1
      have Z252 := Nat.le_trans Z231 E232.1
      have F232_group : Fld Z h232 b232 "com/example/fates/fates/Key" "group" "Ljava/lang/String;" .null := D232 (Or.inr (hw _ (List.mem_of_getElem? (i := 71) rfl))) (ty := (.object "java/lang/String")) (by decide)
      have F232_name : Fld Z h232 b232 "com/example/fates/fates/Key" "name" "Ljava/lang/String;" .null := D232 (Or.inr (hw _ (List.mem_of_getElem? (i := 74) rfl))) (ty := (.object "java/lang/String")) (by decide)
      refine own_st (G' := T232.setTop (mkF m 74 #[.val (.int v0), .val (.int v1), .val (.int v2), .val (.int v3), .val (.int v4), .val (.int v2), .val (.int v1), .val (.ref so_162), .val (.ref so_165), .val (.ref so_172), .val (.ref so_185), .val (.ref b204), .unset, .unset, .unset] [(.ref b232)])) st232 ?_
      obtain ⟨_, X232h, N232h⟩ := own_hide X232 N229wh
      refine own_dup X232h hx 75 (hb hby at_74) rfl ?_
      refine own_aload X232h hx 77 (hb hby at_75) rfl rfl ?_
      refine own_aload X232h hx 79 (hb hby at_77) rfl rfl ?_
      have f253 := (f241.ext E232)
      have f254 := ((((G172_3.keep Kp185 nin0).ext E204).keep Kp229 (ninS ne214 nin0)).ext E232)
      have f255 := ((((G172_4.keep Kp185 nin0).ext E204).keep Kp229 (ninS ne214 nin0)).ext E232)
      have f256 := (f243.ext E232)
      have f257 := (f245.ext E232)
      have f258 := (((G185_3.ext E204).keep Kp229 (ninS ne217 nin0)).ext E232)
      have f259 := (((G185_4.ext E204).keep Kp229 (ninS ne217 nin0)).ext E232)
      have f260 := (f247.ext E232)
      obtain ⟨_, _, ⟨T261, Lx261, kc261, nc261⟩, -, X261, hSx261, hgr261, ⟨Lc261, hQ261, lq261, yq261, zq261⟩, st261⟩ := X232h.specialBackS hx (y := (⟨"com/example/fates/fates/Key", "<init>", "(Ljava/lang/String;Ljava/lang/String;)V"⟩ : MethodName)) rfl hown (mvT hZ (hw _ (List.mem_of_getElem? (i := 37) rfl))) (mvT hZ (hw _ (List.mem_of_getElem? (i := 38) rfl))) (mvT hZ (hw _ (List.mem_of_getElem? (i := 39) rfl))) (by decide) (backOfS (W := 1) (own_rm8 l Z a0 hw [] cs S_cs hcs sf S_sf hsf b232 so_172 so_185 b_172 kb_172 n_172 x_172 y_172 b_185 kb_185 n_185 x_185 y_185 h232 n0 Z252 A232 F232_group F232_name gt_b232 O250 f253 f254 f255 f256 f257 f258 f259 f260 (P172_0 : own_N n_172) (P185_0 : own_N n_185) (Ne.symm ne246) (Ne.symm ne248)) hZ (hw _ (List.mem_of_getElem? (i := 39) rfl)) (hw _ (List.mem_of_getElem? (i := 36) rfl)) (by decide) (by decide)) (g := (mkF m 79 #[.val (.int v0), .val (.int v1), .val (.int v2), .val (.int v3), .val (.int v4), .val (.int v2), .val (.int v1), .val (.ref so_162), .val (.ref so_165), .val (.ref so_172), .val (.ref so_185), .val (.ref b204), .unset, .unset, .unset] [(.ref so_185), (.ref so_172), (.ref b232), (.ref b232)])) rfl (by rw [hml]; rfl) (Steps.refl _) (a := b232) (argsL := [(.ref so_172), (.ref so_185)]) (rest := [(.ref b232)]) (lenOf own_pd17 rfl) rfl (by show 2 * 0 + _ ≤ _; exact Nat.le_of_eq rfl) (hb hby at_79) (fun _ _ => ⟨rfl, e232, (by decide : 18 + 4 ≤ _), (by decide : 80 + 44 ≤ _)⟩)
      dsimp only [Pt.U, Pt.locs, Pt.cells, Pt.slots] at X261 lq261 yq261 zq261 st261 hQ261 hSx261 hgr261
      subst lq261 yq261 zq261
      have hS261 := own_wf hS229 (Ks251) hSx261 (by rw [e232] at hgr261; exact hgr261)
      have hown := own_wo hSx261 hown
      have hZ := own_wz hZ hSx261
      obtain ⟨rfl, Nq261, Kp261, G261_0, G261_1, G261_2⟩ := hQ261
      have N261 := Fr.app N232h Nq261
      have O262 := O250.keep Kp261 (allS gt_b232 all0)
      have Z263 := Nat.le_trans Z252 Kp261.1
      have X261w := (show Stand p l e room_1 (s.setVm T261.vm) m #[(.int v0), (.int v1), (.int v2), (.int v3), (.int v4)] below meth c T261 _ _ _ from X261)
      refine own_st (G' := T261.setTop (mkF m 82 #[.val (.int v0), .val (.int v1), .val (.int v2), .val (.int v3), .val (.int v4), .val (.int v2), .val (.int v1), .val (.ref so_162), .val (.ref so_165), .val (.ref so_172), .val (.ref so_185), .val (.ref b204), .unset, .unset, .unset] [(.ref b232)])) (fun t k => st261.trans k) ?_
      obtain ⟨_, X261wh, N261wh⟩ := own_hide X261w N261
      refine own_astore X261wh hx 84 #[.val (.int v0), .val (.int v1), .val (.int v2), .val (.int v3), .val (.int v4), .val (.int v2), .val (.int v1), .val (.ref so_162), .val (.ref so_165), .val (.ref so_172), .val (.ref so_185), .val (.ref b204), .val (.ref b232), .unset, .unset] (hb hby at_82) rfl rfl ?_
      refine own_iload X261wh hx 86 (hb hby at_84) rfl ?_
      refine own_iconst X261wh hx 87 (3 : Int32) (hb hby at_86) rfl ?_
      refine own_iand X261wh hx 88 (hb hby at_87) ?_
      refine own_istore X261wh hx 90 #[.val (.int v0), .val (.int v1), .val (.int v2), .val (.int v3), .val (.int v4), .val (.int v2), .val (.int v1), .val (.ref so_162), .val (.ref so_165), .val (.ref so_172), .val (.ref so_185), .val (.ref b204), .val (.ref b232), .val (.int (v4 &&& (3 : Int32))), .unset] (hb hby at_88) rfl ?_
      refine own_iload X261wh hx 92 (hb hby at_90) rfl ?_
      refine own_iconst X261wh hx 93 (1 : Int32) (hb hby at_92) rfl ?_
      by_cases hc93_264 : (v4 &&& (3 : Int32)) = (1 : Int32)
      · refine own_icmpNo X261wh hx 96 (hb hby at_93) (teq hc93_264).2 ?_
        refine own_aload X261wh hx 98 (hb hby at_96) rfl rfl ?_
        refine own_aconstNull X261wh hx 99 (hb hby at_98) ?_
        have f266 := ((G229_0.ext E232).keep Kp261)
        obtain ⟨cq265, kq265, q265a, q265b, q265c⟩ := isOf hZ rfl f266
        obtain ⟨_, _, ⟨T265, Lx265, kc265, nc265⟩, -, X265, ⟨Lc265, hQ265, lq265, yq265, zq265⟩, st265⟩ := X261wh.virtualBack hx (y := (⟨"com/example/fates/fates/Key", "equals", "(Ljava/lang/Object;)Z"⟩ : MethodName)) (z := (⟨"com/example/fates/fates/Key", "equals", "(Ljava/lang/Object;)Z"⟩ : MethodName)) hown (mvT hZ (hw _ (List.mem_of_getElem? (i := 101) rfl))) (mvT hZ (hw _ (List.mem_of_getElem? (i := 102) rfl))) (notFace_of_selects (args := #[]) (mvT hZ (hw _ (List.mem_of_getElem? (i := 104) rfl)))) (mvT hZ (hw _ (List.mem_of_getElem? (i := 104) rfl))) (mvT hZ (hw _ (List.mem_of_getElem? (i := 103) rfl))) (by decide) (backOf (W := 0) (own_rm21n l Z a0 hw [] b204 T261.heap n0 Z263 ) hZ (hw _ (List.mem_of_getElem? (i := 105) rfl)) (hw _ (List.mem_of_getElem? (i := 36) rfl)) (by decide) (by decide)) q265a q265c (g := (mkF m 99 #[.val (.int v0), .val (.int v1), .val (.int v2), .val (.int v3), .val (.int v4), .val (.int v2), .val (.int v1), .val (.ref so_162), .val (.ref so_165), .val (.ref so_172), .val (.ref so_185), .val (.ref b204), .val (.ref b232), .val (.int (v4 &&& (3 : Int32))), .unset] [.null, (.ref b204)])) rfl (by rw [hml]; rfl) (Steps.refl _) (argsL := [.null]) (rest := []) (lenOf own_pd15 rfl) rfl (by show 2 * 0 + _ ≤ _; exact Nat.le_of_eq rfl) (hb hby at_99) (fun _ _ => ⟨rfl, rfl, (by decide : 22 + 0 ≤ _), (by decide : 124 + 0 ≤ _)⟩)
        dsimp only [Pt.U, Pt.locs, Pt.cells, Pt.slots] at X265 lq265 yq265 zq265 st265 hQ265
        subst lq265 yq265 zq265
        obtain ⟨rfl, Nq265, eh265⟩ := hQ265
        have N265 := Fr.app N261wh Nq265
        refine own_st (G' := T265.setTop (mkF m 102 #[.val (.int v0), .val (.int v1), .val (.int v2), .val (.int v3), .val (.int v4), .val (.int v2), .val (.int v1), .val (.ref so_162), .val (.ref so_165), .val (.ref so_172), .val (.ref so_185), .val (.ref b204), .val (.ref b232), .val (.int (v4 &&& (3 : Int32))), .unset] [(.int (0 : Int32))])) (fun t k => st265.trans k) ?_
        obtain ⟨_, X265h, N265h⟩ := own_hide X265 N265
        refine own_ifNo X265h hx 105 (hb hby at_102) (teq (rfl : (0 : Int32) = (0 : Int32))).2 ?_
        refine own_iconst X265h hx 106 (1 : Int32) (hb hby at_105) rfl ?_
        refine own_goto X265h hx 110 (hb hby at_106) ?_
        exact own_retNW (t := .boolean) (Q := own_Q0 Z cs S_cs hcs sf S_sf hsf v0 v1 v2 v3 v4 h0 n0) X265h hS261 (Nat.le_refl _) hx hrt (by simp) (hb hby at_110) hlk eh265 ⟨rfl, N265h⟩ (by decide) (by decide)
      · refine own_icmpYes X261wh hx 111 (hb hby at_93) (feq hc93_264).2 ?_
        refine own_iload X261wh hx 113 (hb hby at_111) rfl ?_
        refine own_iconst X261wh hx 114 (2 : Int32) (hb hby at_113) rfl ?_
        by_cases hc114_267 : (v4 &&& (3 : Int32)) = (2 : Int32)
        · refine own_icmpNo X261wh hx 117 (hb hby at_114) (teq hc114_267).2 ?_
          refine own_aload X261wh hx 119 (hb hby at_117) rfl rfl ?_
          refine own_aload X261wh hx 121 (hb hby at_119) rfl rfl ?_
          have f268 := ((f233.ext E232).keep Kp261)
          have f270 := ((G229_0.ext E232).keep Kp261)
          obtain ⟨cq269, kq269, q269a, q269b, q269c⟩ := isOf hZ rfl f270
          obtain ⟨_, _, ⟨T269, Lx269, kc269, nc269⟩, -, X269, ⟨Lc269, hQ269, lq269, yq269, zq269⟩, st269⟩ := X261wh.virtualBack hx (y := (⟨"com/example/fates/fates/Key", "equals", "(Ljava/lang/Object;)Z"⟩ : MethodName)) (z := (⟨"com/example/fates/fates/Key", "equals", "(Ljava/lang/Object;)Z"⟩ : MethodName)) hown (mvT hZ (hw _ (List.mem_of_getElem? (i := 101) rfl))) (mvT hZ (hw _ (List.mem_of_getElem? (i := 102) rfl))) (notFace_of_selects (args := #[]) (mvT hZ (hw _ (List.mem_of_getElem? (i := 104) rfl)))) (mvT hZ (hw _ (List.mem_of_getElem? (i := 104) rfl))) (mvT hZ (hw _ (List.mem_of_getElem? (i := 103) rfl))) (by decide) (backOf (W := 0) (own_rm21t l Z a0 hw [] b204 so_162 T261.heap n0 Z263 f268) hZ (hw _ (List.mem_of_getElem? (i := 105) rfl)) (hw _ (List.mem_of_getElem? (i := 36) rfl)) (by decide) (by decide)) q269a q269c (g := (mkF m 121 #[.val (.int v0), .val (.int v1), .val (.int v2), .val (.int v3), .val (.int v4), .val (.int v2), .val (.int v1), .val (.ref so_162), .val (.ref so_165), .val (.ref so_172), .val (.ref so_185), .val (.ref b204), .val (.ref b232), .val (.int (v4 &&& (3 : Int32))), .unset] [(.ref so_162), (.ref b204)])) rfl (by rw [hml]; rfl) (Steps.refl _) (argsL := [(.ref so_162)]) (rest := []) (lenOf own_pd15 rfl) rfl (by show 2 * 0 + _ ≤ _; exact Nat.le_of_eq rfl) (hb hby at_121) (fun _ _ => ⟨rfl, rfl, (by decide : 22 + 0 ≤ _), (by decide : 124 + 0 ≤ _)⟩)
          dsimp only [Pt.U, Pt.locs, Pt.cells, Pt.slots] at X269 lq269 yq269 zq269 st269 hQ269
          subst lq269 yq269 zq269
          obtain ⟨rfl, Nq269, eh269⟩ := hQ269
          have N269 := Fr.app N261wh Nq269
          refine own_st (G' := T269.setTop (mkF m 124 #[.val (.int v0), .val (.int v1), .val (.int v2), .val (.int v3), .val (.int v4), .val (.int v2), .val (.int v1), .val (.ref so_162), .val (.ref so_165), .val (.ref so_172), .val (.ref so_185), .val (.ref b204), .val (.ref b232), .val (.int (v4 &&& (3 : Int32))), .unset] [(.int (0 : Int32))])) (fun t k => st269.trans k) ?_
          obtain ⟨_, X269h, N269h⟩ := own_hide X269 N269
          refine own_ifNo X269h hx 127 (hb hby at_124) (teq (rfl : (0 : Int32) = (0 : Int32))).2 ?_
          refine own_iconst X269h hx 128 (1 : Int32) (hb hby at_127) rfl ?_
          refine own_goto X269h hx 132 (hb hby at_128) ?_
          exact own_retNW (t := .boolean) (Q := own_Q0 Z cs S_cs hcs sf S_sf hsf v0 v1 v2 v3 v4 h0 n0) X269h hS261 (Nat.le_refl _) hx hrt (by simp) (hb hby at_132) hlk eh269 ⟨rfl, N269h⟩ (by decide) (by decide)
        · refine own_icmpYes X261wh hx 133 (hb hby at_114) (feq hc114_267).2 ?_
          refine own_iload X261wh hx 135 (hb hby at_133) rfl ?_
          refine own_iconst X261wh hx 136 (3 : Int32) (hb hby at_135) rfl ?_
          by_cases hc136_271 : (v4 &&& (3 : Int32)) = (3 : Int32)
          · refine own_icmpNo X261wh hx 139 (hb hby at_136) (teq hc136_271).2 ?_
            refine own_aload X261wh hx 141 (hb hby at_139) rfl rfl ?_
            refine own_aload X261wh hx 143 (hb hby at_141) rfl rfl ?_
            have f272 := ((G229_0.ext E232).keep Kp261)
            have f273 := ((G229_1.ext E232).keep Kp261 (ninS ne249 nin0))
            have f274 := ((G229_2.ext E232).keep Kp261 (ninS ne249 nin0))
            have f275 := ((f233.ext E232).keep Kp261)
            have f276 := ((f237.ext E232).keep Kp261)
            obtain ⟨cq277, kq277, q277a, q277b, q277c⟩ := isOf hZ rfl f272
            obtain ⟨_, _, ⟨T277, Lx277, kc277, nc277⟩, -, X277, ⟨Lc277, hQ277, lq277, yq277, zq277⟩, st277⟩ := X261wh.virtualBack hx (y := (⟨"com/example/fates/fates/Key", "equals", "(Ljava/lang/Object;)Z"⟩ : MethodName)) (z := (⟨"com/example/fates/fates/Key", "equals", "(Ljava/lang/Object;)Z"⟩ : MethodName)) hown (mvT hZ (hw _ (List.mem_of_getElem? (i := 101) rfl))) (mvT hZ (hw _ (List.mem_of_getElem? (i := 102) rfl))) (notFace_of_selects (args := #[]) (mvT hZ (hw _ (List.mem_of_getElem? (i := 104) rfl)))) (mvT hZ (hw _ (List.mem_of_getElem? (i := 104) rfl))) (mvT hZ (hw _ (List.mem_of_getElem? (i := 103) rfl))) (by decide) (backOf (W := 0) (own_rm21s l Z a0 hw [] b204 so_162 so_165 T261.heap n0 Z263 f272 f273 f274 f275 f276) hZ (hw _ (List.mem_of_getElem? (i := 105) rfl)) (hw _ (List.mem_of_getElem? (i := 36) rfl)) (by decide) (by decide)) q277a q277c (g := (mkF m 143 #[.val (.int v0), .val (.int v1), .val (.int v2), .val (.int v3), .val (.int v4), .val (.int v2), .val (.int v1), .val (.ref so_162), .val (.ref so_165), .val (.ref so_172), .val (.ref so_185), .val (.ref b204), .val (.ref b232), .val (.int (v4 &&& (3 : Int32))), .unset] [(.ref b204), (.ref b204)])) rfl (by rw [hml]; rfl) (Steps.refl _) (argsL := [(.ref b204)]) (rest := []) (lenOf own_pd15 rfl) rfl (by show 2 * 0 + _ ≤ _; exact Nat.le_of_eq rfl) (hb hby at_143) (fun _ _ => ⟨rfl, rfl, (by decide : 22 + 0 ≤ _), (by decide : 124 + 0 ≤ _)⟩)
            dsimp only [Pt.U, Pt.locs, Pt.cells, Pt.slots] at X277 lq277 yq277 zq277 st277 hQ277
            subst lq277 yq277 zq277
            obtain ⟨rfl, Nq277, eh277⟩ := hQ277
            have N277 := Fr.app N261wh Nq277
            refine own_st (G' := T277.setTop (mkF m 146 #[.val (.int v0), .val (.int v1), .val (.int v2), .val (.int v3), .val (.int v4), .val (.int v2), .val (.int v1), .val (.ref so_162), .val (.ref so_165), .val (.ref so_172), .val (.ref so_185), .val (.ref b204), .val (.ref b232), .val (.int (v4 &&& (3 : Int32))), .unset] [(.int (1 : Int32))])) (fun t k => st277.trans k) ?_
            obtain ⟨_, X277h, N277h⟩ := own_hide X277 N277
            exact own_retNW (t := .boolean) (Q := own_Q0 Z cs S_cs hcs sf S_sf hsf v0 v1 v2 v3 v4 h0 n0) X277h hS261 (Nat.le_refl _) hx hrt (by simp) (hb hby at_146) hlk eh277 ⟨rfl, N277h⟩ (by decide) (by decide)
          · refine own_icmpYes X261wh hx 147 (hb hby at_136) (feq hc136_271).2 ?_
            refine own_aload X261wh hx 149 (hb hby at_147) rfl rfl ?_
            refine own_aload X261wh hx 151 (hb hby at_149) rfl rfl ?_
            have f278 := ((f233.ext E232).keep Kp261)
            have f279 := (((f222.keep Kp229 (ninS ne206 nin0)).ext E232).keep Kp261 (ninS ne234 nin0))
            have f280 := (((f223.keep Kp229 (ninS ne206 nin0)).ext E232).keep Kp261 (ninS ne234 nin0))
            have f281 := ((f235.ext E232).keep Kp261 (ninS ne236 nin0))
            have f282 := (f253.keep Kp261)
            have f283 := (f254.keep Kp261 (ninS ne242 nin0))
            have f284 := (f255.keep Kp261 (ninS ne242 nin0))
            have f285 := (f256.keep Kp261 (ninS ne244 nin0))
            obtain ⟨_, _, ⟨T286, Lx286, kc286, nc286⟩, -, X286, ⟨Lc286, hQ286, lq286, yq286, zq286⟩, st286⟩ := Jvm.LawKit.callS X261wh hx (y := (⟨"com/example/fates/fates/KeyEqualsPinLaw", "same", "(Ljava/lang/String;Ljava/lang/String;)Z"⟩ : MethodName)) hown (mvT hZ (hw _ (List.mem_of_getElem? (i := 75) rfl))) (mvT hZ (hw _ (List.mem_of_getElem? (i := 76) rfl))) (mvT hZ (hw _ (List.mem_of_getElem? (i := 2) rfl))) (mvT hZ (hw _ (List.mem_of_getElem? (i := 77) rfl))) (by decide) (backOf (W := 0) (own_rm15 l Z a0 hw [] cs S_cs hcs sf S_sf hsf so_162 so_172 b_162 kb_162 n_162 x_162 y_162 b_172 kb_172 n_172 x_172 y_172 T261.heap n0 Z263 f278 f279 f280 f281 f282 f283 f284 f285 O262 (P162_0 : own_N n_162) (P172_0 : own_N n_172) (P162_1 : own_B x_162 ∧ own_B y_162) (P172_1 : own_B x_172 ∧ own_B y_172)) hZ (hw _ (List.mem_of_getElem? (i := 77) rfl)) (hw _ (List.mem_of_getElem? (i := 2) rfl)) (by decide) (by decide)) (g := (mkF m 151 #[.val (.int v0), .val (.int v1), .val (.int v2), .val (.int v3), .val (.int v4), .val (.int v2), .val (.int v1), .val (.ref so_162), .val (.ref so_165), .val (.ref so_172), .val (.ref so_185), .val (.ref b204), .val (.ref b232), .val (.int (v4 &&& (3 : Int32))), .unset] [(.ref so_172), (.ref so_162)])) rfl (by rw [hml]; rfl) (argsL := [(.ref so_162), (.ref so_172)]) (rest := []) (lenOf own_pd18 rfl) rfl (by show 2 * 0 + _ ≤ _; exact Nat.le_of_eq rfl) (hb hby at_151) (fun _ _ => ⟨rfl, rfl, (by decide : 22 + 0 ≤ _), (by decide : 124 + 0 ≤ _)⟩)
            dsimp only [Pt.U, Pt.locs, Pt.cells, Pt.slots] at X286 lq286 yq286 zq286 st286 hQ286
            subst lq286 yq286 zq286
            obtain ⟨rfl, Nq286, eh286⟩ := hQ286
            have N286 := Fr.app N261wh Nq286
            refine own_st (G' := T286.setTop (mkF m 154 #[.val (.int v0), .val (.int v1), .val (.int v2), .val (.int v3), .val (.int v4), .val (.int v2), .val (.int v1), .val (.ref so_162), .val (.ref so_165), .val (.ref so_172), .val (.ref so_185), .val (.ref b204), .val (.ref b232), .val (.int (v4 &&& (3 : Int32))), .unset] [(.int (own_eqB n_162 x_162 y_162 n_172 x_172 y_172))])) st286 ?_
            obtain ⟨_, X286h, N286h⟩ := own_hide X286 N286
            by_cases hc154_287 : (own_eqB n_162 x_162 y_162 n_172 x_172 y_172) = (0 : Int32)
            · refine own_ifYes X286h hx 171 (hb hby at_154) (teq hc154_287).1 ?_
              refine own_iconst X286h hx 172 (0 : Int32) (hb hby at_171) rfl ?_
              refine own_istore X286h hx 174 #[.val (.int v0), .val (.int v1), .val (.int v2), .val (.int v3), .val (.int v4), .val (.int v2), .val (.int v1), .val (.ref so_162), .val (.ref so_165), .val (.ref so_172), .val (.ref so_185), .val (.ref b204), .val (.ref b232), .val (.int (v4 &&& (3 : Int32))), .val (.int (0 : Int32))] (hb hby at_172) rfl ?_
              refine own_aload X286h hx 176 (hb hby at_174) rfl rfl ?_
              refine own_aload X286h hx 178 (hb hby at_176) rfl rfl ?_
              have f288 := ((G229_0.ext E232).keep Kp261)
              have f289 := ((G229_1.ext E232).keep Kp261 (ninS ne249 nin0))
              have f290 := ((G229_2.ext E232).keep Kp261 (ninS ne249 nin0))
              have f291 := ((f237.ext E232).keep Kp261)
              have f292 := (((f226.keep Kp229 (ninS ne210 nin0)).ext E232).keep Kp261 (ninS ne238 nin0))
              have f293 := (((f227.keep Kp229 (ninS ne210 nin0)).ext E232).keep Kp261 (ninS ne238 nin0))
              have f294 := ((f239.ext E232).keep Kp261 (ninS ne240 nin0))
              have f295 := (f257.keep Kp261)
              have f296 := (f258.keep Kp261 (ninS ne246 nin0))
              have f297 := (f259.keep Kp261 (ninS ne246 nin0))
              have f298 := (f260.keep Kp261 (ninS ne248 nin0))
              obtain ⟨cq299, kq299, q299a, q299b, q299c⟩ := isOf hZ eh286 f288
              obtain ⟨_, _, ⟨T299, Lx299, kc299, nc299⟩, -, X299, ⟨Lc299, hQ299, lq299, yq299, zq299⟩, st299⟩ := X286h.virtualBack hx (y := (⟨"com/example/fates/fates/Key", "equals", "(Ljava/lang/Object;)Z"⟩ : MethodName)) (z := (⟨"com/example/fates/fates/Key", "equals", "(Ljava/lang/Object;)Z"⟩ : MethodName)) hown (mvT hZ (hw _ (List.mem_of_getElem? (i := 101) rfl))) (mvT hZ (hw _ (List.mem_of_getElem? (i := 102) rfl))) (notFace_of_selects (args := #[]) (mvT hZ (hw _ (List.mem_of_getElem? (i := 104) rfl)))) (mvT hZ (hw _ (List.mem_of_getElem? (i := 104) rfl))) (mvT hZ (hw _ (List.mem_of_getElem? (i := 103) rfl))) (by decide) (backOf (W := 0) (own_rm21d l Z a0 hw [] cs S_cs hcs sf S_sf hsf b204 b232 so_162 so_165 so_172 so_185 b_162 kb_162 n_162 x_162 y_162 b_172 kb_172 n_172 x_172 y_172 b_165 kb_165 n_165 x_165 y_165 b_185 kb_185 n_185 x_185 y_185 T261.heap n0 Z263 f288 f289 f290 G261_0 G261_1 G261_2 f278 f279 f280 f281 f282 f283 f284 f285 f291 f292 f293 f294 f295 f296 f297 f298 O262 ne174 ne191 (P162_0 : own_N n_162) (P172_0 : own_N n_172) (P165_0 : own_N n_165) (P185_0 : own_N n_185)) hZ (hw _ (List.mem_of_getElem? (i := 105) rfl)) (hw _ (List.mem_of_getElem? (i := 36) rfl)) (by decide) (by decide)) q299a q299c (g := (mkF m 178 #[.val (.int v0), .val (.int v1), .val (.int v2), .val (.int v3), .val (.int v4), .val (.int v2), .val (.int v1), .val (.ref so_162), .val (.ref so_165), .val (.ref so_172), .val (.ref so_185), .val (.ref b204), .val (.ref b232), .val (.int (v4 &&& (3 : Int32))), .val (.int (0 : Int32))] [(.ref b232), (.ref b204)])) rfl (by rw [hml]; rfl) (Steps.refl _) (argsL := [(.ref b232)]) (rest := []) (lenOf own_pd15 rfl) rfl (by show 2 * 0 + _ ≤ _; exact Nat.le_of_eq rfl) (hb hby at_178) (fun _ _ => ⟨rfl, eh286, (by decide : 22 + 0 ≤ _), (by decide : 124 + 0 ≤ _)⟩)
              dsimp only [Pt.U, Pt.locs, Pt.cells, Pt.slots] at X299 lq299 yq299 zq299 st299 hQ299
              subst lq299 yq299 zq299
              obtain ⟨rfl, Nq299, eh299⟩ := hQ299
              have N299 := Fr.app N286h Nq299
              refine own_st (G' := T299.setTop (mkF m 181 #[.val (.int v0), .val (.int v1), .val (.int v2), .val (.int v3), .val (.int v4), .val (.int v2), .val (.int v1), .val (.ref so_162), .val (.ref so_165), .val (.ref so_172), .val (.ref so_185), .val (.ref b204), .val (.ref b232), .val (.int (v4 &&& (3 : Int32))), .val (.int (0 : Int32))] [(.int (own_keq (own_eqB n_162 x_162 y_162 n_172 x_172 y_172) (own_eqB n_165 x_165 y_165 n_185 x_185 y_185)))])) (fun t k => st299.trans k) ?_
              obtain ⟨_, X299h, N299h⟩ := own_hide X299 N299
              refine own_iload X299h hx 183 (hb hby at_181) rfl ?_
              refine own_icmpNo X299h hx 186 (hb hby at_183) (teq (by simp [own_keq, hc154_287] : (own_keq (own_eqB n_162 x_162 y_162 n_172 x_172 y_172) (own_eqB n_165 x_165 y_165 n_185 x_185 y_185)) = (0 : Int32))).2 ?_
              refine own_aload X299h hx 188 (hb hby at_186) rfl rfl ?_
              refine own_aload X299h hx 190 (hb hby at_188) rfl rfl ?_
              obtain ⟨cq300, kq300, q300a, q300b, q300c⟩ := isOf hZ eh299 G261_0
              obtain ⟨_, _, ⟨T300, Lx300, kc300, nc300⟩, -, X300, ⟨Lc300, hQ300, lq300, yq300, zq300⟩, st300⟩ := X299h.virtualBack hx (y := (⟨"com/example/fates/fates/Key", "equals", "(Ljava/lang/Object;)Z"⟩ : MethodName)) (z := (⟨"com/example/fates/fates/Key", "equals", "(Ljava/lang/Object;)Z"⟩ : MethodName)) hown (mvT hZ (hw _ (List.mem_of_getElem? (i := 101) rfl))) (mvT hZ (hw _ (List.mem_of_getElem? (i := 102) rfl))) (notFace_of_selects (args := #[]) (mvT hZ (hw _ (List.mem_of_getElem? (i := 104) rfl)))) (mvT hZ (hw _ (List.mem_of_getElem? (i := 104) rfl))) (mvT hZ (hw _ (List.mem_of_getElem? (i := 103) rfl))) (by decide) (backOf (W := 0) (own_rm21d l Z a0 hw [] cs S_cs hcs sf S_sf hsf b232 b204 so_172 so_185 so_162 so_165 b_172 kb_172 n_172 x_172 y_172 b_162 kb_162 n_162 x_162 y_162 b_185 kb_185 n_185 x_185 y_185 b_165 kb_165 n_165 x_165 y_165 T261.heap n0 Z263 G261_0 G261_1 G261_2 f288 f289 f290 f282 f283 f284 f285 f278 f279 f280 f281 f295 f296 f297 f298 f291 f292 f293 f294 O262 (Ne.symm ne174) (Ne.symm ne191) (P172_0 : own_N n_172) (P162_0 : own_N n_162) (P185_0 : own_N n_185) (P165_0 : own_N n_165)) hZ (hw _ (List.mem_of_getElem? (i := 105) rfl)) (hw _ (List.mem_of_getElem? (i := 36) rfl)) (by decide) (by decide)) q300a q300c (g := (mkF m 190 #[.val (.int v0), .val (.int v1), .val (.int v2), .val (.int v3), .val (.int v4), .val (.int v2), .val (.int v1), .val (.ref so_162), .val (.ref so_165), .val (.ref so_172), .val (.ref so_185), .val (.ref b204), .val (.ref b232), .val (.int (v4 &&& (3 : Int32))), .val (.int (0 : Int32))] [(.ref b204), (.ref b232)])) rfl (by rw [hml]; rfl) (Steps.refl _) (argsL := [(.ref b204)]) (rest := []) (lenOf own_pd15 rfl) rfl (by show 2 * 0 + _ ≤ _; exact Nat.le_of_eq rfl) (hb hby at_190) (fun _ _ => ⟨rfl, eh299, (by decide : 22 + 0 ≤ _), (by decide : 124 + 0 ≤ _)⟩)
              dsimp only [Pt.U, Pt.locs, Pt.cells, Pt.slots] at X300 lq300 yq300 zq300 st300 hQ300
              subst lq300 yq300 zq300
              obtain ⟨rfl, Nq300, eh300⟩ := hQ300
              have N300 := Fr.app N299h Nq300
              refine own_st (G' := T300.setTop (mkF m 193 #[.val (.int v0), .val (.int v1), .val (.int v2), .val (.int v3), .val (.int v4), .val (.int v2), .val (.int v1), .val (.ref so_162), .val (.ref so_165), .val (.ref so_172), .val (.ref so_185), .val (.ref b204), .val (.ref b232), .val (.int (v4 &&& (3 : Int32))), .val (.int (0 : Int32))] [(.int (own_keq (own_eqB n_172 x_172 y_172 n_162 x_162 y_162) (own_eqB n_185 x_185 y_185 n_165 x_165 y_165)))])) (fun t k => st300.trans k) ?_
              obtain ⟨_, X300h, N300h⟩ := own_hide X300 N300
              refine own_iload X300h hx 195 (hb hby at_193) rfl ?_
              refine own_icmpNo X300h hx 198 (hb hby at_195) (teq (by rw [own_eqs n_172 x_172 y_172 n_162 x_162 y_162, own_eqs n_185 x_185 y_185 n_165 x_165 y_165]; simp [own_keq, hc154_287] : (own_keq (own_eqB n_172 x_172 y_172 n_162 x_162 y_162) (own_eqB n_185 x_185 y_185 n_165 x_165 y_165)) = (0 : Int32))).2 ?_
              refine own_iconst X300h hx 199 (1 : Int32) (hb hby at_198) rfl ?_
              refine own_goto X300h hx 203 (hb hby at_199) ?_
              exact own_retNW (t := .boolean) (Q := own_Q0 Z cs S_cs hcs sf S_sf hsf v0 v1 v2 v3 v4 h0 n0) X300h hS261 (Nat.le_refl _) hx hrt (by simp) (hb hby at_203) hlk eh300 ⟨rfl, N300h⟩ (by decide) (by decide)
            · refine own_ifNo X286h hx 157 (hb hby at_154) (feq hc154_287).1 ?_
              refine own_aload X286h hx 159 (hb hby at_157) rfl rfl ?_
              refine own_aload X286h hx 161 (hb hby at_159) rfl rfl ?_
              have f301 := ((f237.ext E232).keep Kp261)
              have f302 := (((f226.keep Kp229 (ninS ne210 nin0)).ext E232).keep Kp261 (ninS ne238 nin0))
              have f303 := (((f227.keep Kp229 (ninS ne210 nin0)).ext E232).keep Kp261 (ninS ne238 nin0))
              have f304 := ((f239.ext E232).keep Kp261 (ninS ne240 nin0))
              have f305 := (f257.keep Kp261)
              have f306 := (f258.keep Kp261 (ninS ne246 nin0))
              have f307 := (f259.keep Kp261 (ninS ne246 nin0))
              have f308 := (f260.keep Kp261 (ninS ne248 nin0))
              obtain ⟨_, _, ⟨T309, Lx309, kc309, nc309⟩, -, X309, ⟨Lc309, hQ309, lq309, yq309, zq309⟩, st309⟩ := Jvm.LawKit.callS X286h hx (y := (⟨"com/example/fates/fates/KeyEqualsPinLaw", "same", "(Ljava/lang/String;Ljava/lang/String;)Z"⟩ : MethodName)) hown (mvT hZ (hw _ (List.mem_of_getElem? (i := 75) rfl))) (mvT hZ (hw _ (List.mem_of_getElem? (i := 76) rfl))) (mvT hZ (hw _ (List.mem_of_getElem? (i := 2) rfl))) (mvT hZ (hw _ (List.mem_of_getElem? (i := 77) rfl))) (by decide) (backOf (W := 0) (own_rm15 l Z a0 hw [] cs S_cs hcs sf S_sf hsf so_165 so_185 b_165 kb_165 n_165 x_165 y_165 b_185 kb_185 n_185 x_185 y_185 T261.heap n0 Z263 f301 f302 f303 f304 f305 f306 f307 f308 O262 (P165_0 : own_N n_165) (P185_0 : own_N n_185) (P165_1 : own_B x_165 ∧ own_B y_165) (P185_1 : own_B x_185 ∧ own_B y_185)) hZ (hw _ (List.mem_of_getElem? (i := 77) rfl)) (hw _ (List.mem_of_getElem? (i := 2) rfl)) (by decide) (by decide)) (g := (mkF m 161 #[.val (.int v0), .val (.int v1), .val (.int v2), .val (.int v3), .val (.int v4), .val (.int v2), .val (.int v1), .val (.ref so_162), .val (.ref so_165), .val (.ref so_172), .val (.ref so_185), .val (.ref b204), .val (.ref b232), .val (.int (v4 &&& (3 : Int32))), .unset] [(.ref so_185), (.ref so_165)])) rfl (by rw [hml]; rfl) (argsL := [(.ref so_165), (.ref so_185)]) (rest := []) (lenOf own_pd18 rfl) rfl (by show 2 * 0 + _ ≤ _; exact Nat.le_of_eq rfl) (hb hby at_161) (fun _ _ => ⟨rfl, eh286, (by decide : 22 + 0 ≤ _), (by decide : 124 + 0 ≤ _)⟩)
              dsimp only [Pt.U, Pt.locs, Pt.cells, Pt.slots] at X309 lq309 yq309 zq309 st309 hQ309
              subst lq309 yq309 zq309
              obtain ⟨rfl, Nq309, eh309⟩ := hQ309
              have N309 := Fr.app N286h Nq309
              refine own_st (G' := T309.setTop (mkF m 164 #[.val (.int v0), .val (.int v1), .val (.int v2), .val (.int v3), .val (.int v4), .val (.int v2), .val (.int v1), .val (.ref so_162), .val (.ref so_165), .val (.ref so_172), .val (.ref so_185), .val (.ref b204), .val (.ref b232), .val (.int (v4 &&& (3 : Int32))), .unset] [(.int (own_eqB n_165 x_165 y_165 n_185 x_185 y_185))])) st309 ?_
              obtain ⟨_, X309h, N309h⟩ := own_hide X309 N309
              by_cases hc164_310 : (own_eqB n_165 x_165 y_165 n_185 x_185 y_185) = (0 : Int32)
              · refine own_ifYes X309h hx 171 (hb hby at_164) (teq hc164_310).1 ?_
                refine own_iconst X309h hx 172 (0 : Int32) (hb hby at_171) rfl ?_
                refine own_istore X309h hx 174 #[.val (.int v0), .val (.int v1), .val (.int v2), .val (.int v3), .val (.int v4), .val (.int v2), .val (.int v1), .val (.ref so_162), .val (.ref so_165), .val (.ref so_172), .val (.ref so_185), .val (.ref b204), .val (.ref b232), .val (.int (v4 &&& (3 : Int32))), .val (.int (0 : Int32))] (hb hby at_172) rfl ?_
                refine own_aload X309h hx 176 (hb hby at_174) rfl rfl ?_
                refine own_aload X309h hx 178 (hb hby at_176) rfl rfl ?_
                have f311 := ((G229_0.ext E232).keep Kp261)
                have f312 := ((G229_1.ext E232).keep Kp261 (ninS ne249 nin0))
                have f313 := ((G229_2.ext E232).keep Kp261 (ninS ne249 nin0))
                obtain ⟨cq314, kq314, q314a, q314b, q314c⟩ := isOf hZ eh309 f311
                obtain ⟨_, _, ⟨T314, Lx314, kc314, nc314⟩, -, X314, ⟨Lc314, hQ314, lq314, yq314, zq314⟩, st314⟩ := X309h.virtualBack hx (y := (⟨"com/example/fates/fates/Key", "equals", "(Ljava/lang/Object;)Z"⟩ : MethodName)) (z := (⟨"com/example/fates/fates/Key", "equals", "(Ljava/lang/Object;)Z"⟩ : MethodName)) hown (mvT hZ (hw _ (List.mem_of_getElem? (i := 101) rfl))) (mvT hZ (hw _ (List.mem_of_getElem? (i := 102) rfl))) (notFace_of_selects (args := #[]) (mvT hZ (hw _ (List.mem_of_getElem? (i := 104) rfl)))) (mvT hZ (hw _ (List.mem_of_getElem? (i := 104) rfl))) (mvT hZ (hw _ (List.mem_of_getElem? (i := 103) rfl))) (by decide) (backOf (W := 0) (own_rm21d l Z a0 hw [] cs S_cs hcs sf S_sf hsf b204 b232 so_162 so_165 so_172 so_185 b_162 kb_162 n_162 x_162 y_162 b_172 kb_172 n_172 x_172 y_172 b_165 kb_165 n_165 x_165 y_165 b_185 kb_185 n_185 x_185 y_185 T261.heap n0 Z263 f311 f312 f313 G261_0 G261_1 G261_2 f278 f279 f280 f281 f282 f283 f284 f285 f301 f302 f303 f304 f305 f306 f307 f308 O262 ne174 ne191 (P162_0 : own_N n_162) (P172_0 : own_N n_172) (P165_0 : own_N n_165) (P185_0 : own_N n_185)) hZ (hw _ (List.mem_of_getElem? (i := 105) rfl)) (hw _ (List.mem_of_getElem? (i := 36) rfl)) (by decide) (by decide)) q314a q314c (g := (mkF m 178 #[.val (.int v0), .val (.int v1), .val (.int v2), .val (.int v3), .val (.int v4), .val (.int v2), .val (.int v1), .val (.ref so_162), .val (.ref so_165), .val (.ref so_172), .val (.ref so_185), .val (.ref b204), .val (.ref b232), .val (.int (v4 &&& (3 : Int32))), .val (.int (0 : Int32))] [(.ref b232), (.ref b204)])) rfl (by rw [hml]; rfl) (Steps.refl _) (argsL := [(.ref b232)]) (rest := []) (lenOf own_pd15 rfl) rfl (by show 2 * 0 + _ ≤ _; exact Nat.le_of_eq rfl) (hb hby at_178) (fun _ _ => ⟨rfl, eh309, (by decide : 22 + 0 ≤ _), (by decide : 124 + 0 ≤ _)⟩)
                dsimp only [Pt.U, Pt.locs, Pt.cells, Pt.slots] at X314 lq314 yq314 zq314 st314 hQ314
                subst lq314 yq314 zq314
                obtain ⟨rfl, Nq314, eh314⟩ := hQ314
                have N314 := Fr.app N309h Nq314
                refine own_st (G' := T314.setTop (mkF m 181 #[.val (.int v0), .val (.int v1), .val (.int v2), .val (.int v3), .val (.int v4), .val (.int v2), .val (.int v1), .val (.ref so_162), .val (.ref so_165), .val (.ref so_172), .val (.ref so_185), .val (.ref b204), .val (.ref b232), .val (.int (v4 &&& (3 : Int32))), .val (.int (0 : Int32))] [(.int (own_keq (own_eqB n_162 x_162 y_162 n_172 x_172 y_172) (own_eqB n_165 x_165 y_165 n_185 x_185 y_185)))])) (fun t k => st314.trans k) ?_
                obtain ⟨_, X314h, N314h⟩ := own_hide X314 N314
                refine own_iload X314h hx 183 (hb hby at_181) rfl ?_
                refine own_icmpNo X314h hx 186 (hb hby at_183) (teq (by simp [own_keq, hc154_287, hc164_310] : (own_keq (own_eqB n_162 x_162 y_162 n_172 x_172 y_172) (own_eqB n_165 x_165 y_165 n_185 x_185 y_185)) = (0 : Int32))).2 ?_
                refine own_aload X314h hx 188 (hb hby at_186) rfl rfl ?_
                refine own_aload X314h hx 190 (hb hby at_188) rfl rfl ?_
                obtain ⟨cq315, kq315, q315a, q315b, q315c⟩ := isOf hZ eh314 G261_0
                obtain ⟨_, _, ⟨T315, Lx315, kc315, nc315⟩, -, X315, ⟨Lc315, hQ315, lq315, yq315, zq315⟩, st315⟩ := X314h.virtualBack hx (y := (⟨"com/example/fates/fates/Key", "equals", "(Ljava/lang/Object;)Z"⟩ : MethodName)) (z := (⟨"com/example/fates/fates/Key", "equals", "(Ljava/lang/Object;)Z"⟩ : MethodName)) hown (mvT hZ (hw _ (List.mem_of_getElem? (i := 101) rfl))) (mvT hZ (hw _ (List.mem_of_getElem? (i := 102) rfl))) (notFace_of_selects (args := #[]) (mvT hZ (hw _ (List.mem_of_getElem? (i := 104) rfl)))) (mvT hZ (hw _ (List.mem_of_getElem? (i := 104) rfl))) (mvT hZ (hw _ (List.mem_of_getElem? (i := 103) rfl))) (by decide) (backOf (W := 0) (own_rm21d l Z a0 hw [] cs S_cs hcs sf S_sf hsf b232 b204 so_172 so_185 so_162 so_165 b_172 kb_172 n_172 x_172 y_172 b_162 kb_162 n_162 x_162 y_162 b_185 kb_185 n_185 x_185 y_185 b_165 kb_165 n_165 x_165 y_165 T261.heap n0 Z263 G261_0 G261_1 G261_2 f311 f312 f313 f282 f283 f284 f285 f278 f279 f280 f281 f305 f306 f307 f308 f301 f302 f303 f304 O262 (Ne.symm ne174) (Ne.symm ne191) (P172_0 : own_N n_172) (P162_0 : own_N n_162) (P185_0 : own_N n_185) (P165_0 : own_N n_165)) hZ (hw _ (List.mem_of_getElem? (i := 105) rfl)) (hw _ (List.mem_of_getElem? (i := 36) rfl)) (by decide) (by decide)) q315a q315c (g := (mkF m 190 #[.val (.int v0), .val (.int v1), .val (.int v2), .val (.int v3), .val (.int v4), .val (.int v2), .val (.int v1), .val (.ref so_162), .val (.ref so_165), .val (.ref so_172), .val (.ref so_185), .val (.ref b204), .val (.ref b232), .val (.int (v4 &&& (3 : Int32))), .val (.int (0 : Int32))] [(.ref b204), (.ref b232)])) rfl (by rw [hml]; rfl) (Steps.refl _) (argsL := [(.ref b204)]) (rest := []) (lenOf own_pd15 rfl) rfl (by show 2 * 0 + _ ≤ _; exact Nat.le_of_eq rfl) (hb hby at_190) (fun _ _ => ⟨rfl, eh314, (by decide : 22 + 0 ≤ _), (by decide : 124 + 0 ≤ _)⟩)
                dsimp only [Pt.U, Pt.locs, Pt.cells, Pt.slots] at X315 lq315 yq315 zq315 st315 hQ315
                subst lq315 yq315 zq315
                obtain ⟨rfl, Nq315, eh315⟩ := hQ315
                have N315 := Fr.app N314h Nq315
                refine own_st (G' := T315.setTop (mkF m 193 #[.val (.int v0), .val (.int v1), .val (.int v2), .val (.int v3), .val (.int v4), .val (.int v2), .val (.int v1), .val (.ref so_162), .val (.ref so_165), .val (.ref so_172), .val (.ref so_185), .val (.ref b204), .val (.ref b232), .val (.int (v4 &&& (3 : Int32))), .val (.int (0 : Int32))] [(.int (own_keq (own_eqB n_172 x_172 y_172 n_162 x_162 y_162) (own_eqB n_185 x_185 y_185 n_165 x_165 y_165)))])) (fun t k => st315.trans k) ?_
                obtain ⟨_, X315h, N315h⟩ := own_hide X315 N315
                refine own_iload X315h hx 195 (hb hby at_193) rfl ?_
                refine own_icmpNo X315h hx 198 (hb hby at_195) (teq (by rw [own_eqs n_172 x_172 y_172 n_162 x_162 y_162, own_eqs n_185 x_185 y_185 n_165 x_165 y_165]; simp [own_keq, hc154_287, hc164_310] : (own_keq (own_eqB n_172 x_172 y_172 n_162 x_162 y_162) (own_eqB n_185 x_185 y_185 n_165 x_165 y_165)) = (0 : Int32))).2 ?_
                refine own_iconst X315h hx 199 (1 : Int32) (hb hby at_198) rfl ?_
                refine own_goto X315h hx 203 (hb hby at_199) ?_
                exact own_retNW (t := .boolean) (Q := own_Q0 Z cs S_cs hcs sf S_sf hsf v0 v1 v2 v3 v4 h0 n0) X315h hS261 (Nat.le_refl _) hx hrt (by simp) (hb hby at_203) hlk eh315 ⟨rfl, N315h⟩ (by decide) (by decide)
              · refine own_ifNo X309h hx 167 (hb hby at_164) (feq hc164_310).1 ?_
                refine own_iconst X309h hx 168 (1 : Int32) (hb hby at_167) rfl ?_
                refine own_goto X309h hx 172 (hb hby at_168) ?_
                refine own_istore X309h hx 174 #[.val (.int v0), .val (.int v1), .val (.int v2), .val (.int v3), .val (.int v4), .val (.int v2), .val (.int v1), .val (.ref so_162), .val (.ref so_165), .val (.ref so_172), .val (.ref so_185), .val (.ref b204), .val (.ref b232), .val (.int (v4 &&& (3 : Int32))), .val (.int (1 : Int32))] (hb hby at_172) rfl ?_
                refine own_aload X309h hx 176 (hb hby at_174) rfl rfl ?_
                refine own_aload X309h hx 178 (hb hby at_176) rfl rfl ?_
                have f316 := ((G229_0.ext E232).keep Kp261)
                have f317 := ((G229_1.ext E232).keep Kp261 (ninS ne249 nin0))
                have f318 := ((G229_2.ext E232).keep Kp261 (ninS ne249 nin0))
                obtain ⟨cq319, kq319, q319a, q319b, q319c⟩ := isOf hZ eh309 f316
                obtain ⟨_, _, ⟨T319, Lx319, kc319, nc319⟩, -, X319, ⟨Lc319, hQ319, lq319, yq319, zq319⟩, st319⟩ := X309h.virtualBack hx (y := (⟨"com/example/fates/fates/Key", "equals", "(Ljava/lang/Object;)Z"⟩ : MethodName)) (z := (⟨"com/example/fates/fates/Key", "equals", "(Ljava/lang/Object;)Z"⟩ : MethodName)) hown (mvT hZ (hw _ (List.mem_of_getElem? (i := 101) rfl))) (mvT hZ (hw _ (List.mem_of_getElem? (i := 102) rfl))) (notFace_of_selects (args := #[]) (mvT hZ (hw _ (List.mem_of_getElem? (i := 104) rfl)))) (mvT hZ (hw _ (List.mem_of_getElem? (i := 104) rfl))) (mvT hZ (hw _ (List.mem_of_getElem? (i := 103) rfl))) (by decide) (backOf (W := 0) (own_rm21d l Z a0 hw [] cs S_cs hcs sf S_sf hsf b204 b232 so_162 so_165 so_172 so_185 b_162 kb_162 n_162 x_162 y_162 b_172 kb_172 n_172 x_172 y_172 b_165 kb_165 n_165 x_165 y_165 b_185 kb_185 n_185 x_185 y_185 T261.heap n0 Z263 f316 f317 f318 G261_0 G261_1 G261_2 f278 f279 f280 f281 f282 f283 f284 f285 f301 f302 f303 f304 f305 f306 f307 f308 O262 ne174 ne191 (P162_0 : own_N n_162) (P172_0 : own_N n_172) (P165_0 : own_N n_165) (P185_0 : own_N n_185)) hZ (hw _ (List.mem_of_getElem? (i := 105) rfl)) (hw _ (List.mem_of_getElem? (i := 36) rfl)) (by decide) (by decide)) q319a q319c (g := (mkF m 178 #[.val (.int v0), .val (.int v1), .val (.int v2), .val (.int v3), .val (.int v4), .val (.int v2), .val (.int v1), .val (.ref so_162), .val (.ref so_165), .val (.ref so_172), .val (.ref so_185), .val (.ref b204), .val (.ref b232), .val (.int (v4 &&& (3 : Int32))), .val (.int (1 : Int32))] [(.ref b232), (.ref b204)])) rfl (by rw [hml]; rfl) (Steps.refl _) (argsL := [(.ref b232)]) (rest := []) (lenOf own_pd15 rfl) rfl (by show 2 * 0 + _ ≤ _; exact Nat.le_of_eq rfl) (hb hby at_178) (fun _ _ => ⟨rfl, eh309, (by decide : 22 + 0 ≤ _), (by decide : 124 + 0 ≤ _)⟩)
                dsimp only [Pt.U, Pt.locs, Pt.cells, Pt.slots] at X319 lq319 yq319 zq319 st319 hQ319
                subst lq319 yq319 zq319
                obtain ⟨rfl, Nq319, eh319⟩ := hQ319
                have N319 := Fr.app N309h Nq319
                refine own_st (G' := T319.setTop (mkF m 181 #[.val (.int v0), .val (.int v1), .val (.int v2), .val (.int v3), .val (.int v4), .val (.int v2), .val (.int v1), .val (.ref so_162), .val (.ref so_165), .val (.ref so_172), .val (.ref so_185), .val (.ref b204), .val (.ref b232), .val (.int (v4 &&& (3 : Int32))), .val (.int (1 : Int32))] [(.int (own_keq (own_eqB n_162 x_162 y_162 n_172 x_172 y_172) (own_eqB n_165 x_165 y_165 n_185 x_185 y_185)))])) (fun t k => st319.trans k) ?_
                obtain ⟨_, X319h, N319h⟩ := own_hide X319 N319
                refine own_iload X319h hx 183 (hb hby at_181) rfl ?_
                refine own_icmpNo X319h hx 186 (hb hby at_183) (teq (by simp [own_keq, hc154_287, hc164_310] : (own_keq (own_eqB n_162 x_162 y_162 n_172 x_172 y_172) (own_eqB n_165 x_165 y_165 n_185 x_185 y_185)) = (1 : Int32))).2 ?_
                refine own_aload X319h hx 188 (hb hby at_186) rfl rfl ?_
                refine own_aload X319h hx 190 (hb hby at_188) rfl rfl ?_
                obtain ⟨cq320, kq320, q320a, q320b, q320c⟩ := isOf hZ eh319 G261_0
                obtain ⟨_, _, ⟨T320, Lx320, kc320, nc320⟩, -, X320, ⟨Lc320, hQ320, lq320, yq320, zq320⟩, st320⟩ := X319h.virtualBack hx (y := (⟨"com/example/fates/fates/Key", "equals", "(Ljava/lang/Object;)Z"⟩ : MethodName)) (z := (⟨"com/example/fates/fates/Key", "equals", "(Ljava/lang/Object;)Z"⟩ : MethodName)) hown (mvT hZ (hw _ (List.mem_of_getElem? (i := 101) rfl))) (mvT hZ (hw _ (List.mem_of_getElem? (i := 102) rfl))) (notFace_of_selects (args := #[]) (mvT hZ (hw _ (List.mem_of_getElem? (i := 104) rfl)))) (mvT hZ (hw _ (List.mem_of_getElem? (i := 104) rfl))) (mvT hZ (hw _ (List.mem_of_getElem? (i := 103) rfl))) (by decide) (backOf (W := 0) (own_rm21d l Z a0 hw [] cs S_cs hcs sf S_sf hsf b232 b204 so_172 so_185 so_162 so_165 b_172 kb_172 n_172 x_172 y_172 b_162 kb_162 n_162 x_162 y_162 b_185 kb_185 n_185 x_185 y_185 b_165 kb_165 n_165 x_165 y_165 T261.heap n0 Z263 G261_0 G261_1 G261_2 f316 f317 f318 f282 f283 f284 f285 f278 f279 f280 f281 f305 f306 f307 f308 f301 f302 f303 f304 O262 (Ne.symm ne174) (Ne.symm ne191) (P172_0 : own_N n_172) (P162_0 : own_N n_162) (P185_0 : own_N n_185) (P165_0 : own_N n_165)) hZ (hw _ (List.mem_of_getElem? (i := 105) rfl)) (hw _ (List.mem_of_getElem? (i := 36) rfl)) (by decide) (by decide)) q320a q320c (g := (mkF m 190 #[.val (.int v0), .val (.int v1), .val (.int v2), .val (.int v3), .val (.int v4), .val (.int v2), .val (.int v1), .val (.ref so_162), .val (.ref so_165), .val (.ref so_172), .val (.ref so_185), .val (.ref b204), .val (.ref b232), .val (.int (v4 &&& (3 : Int32))), .val (.int (1 : Int32))] [(.ref b204), (.ref b232)])) rfl (by rw [hml]; rfl) (Steps.refl _) (argsL := [(.ref b204)]) (rest := []) (lenOf own_pd15 rfl) rfl (by show 2 * 0 + _ ≤ _; exact Nat.le_of_eq rfl) (hb hby at_190) (fun _ _ => ⟨rfl, eh319, (by decide : 22 + 0 ≤ _), (by decide : 124 + 0 ≤ _)⟩)
                dsimp only [Pt.U, Pt.locs, Pt.cells, Pt.slots] at X320 lq320 yq320 zq320 st320 hQ320
                subst lq320 yq320 zq320
                obtain ⟨rfl, Nq320, eh320⟩ := hQ320
                have N320 := Fr.app N319h Nq320
                refine own_st (G' := T320.setTop (mkF m 193 #[.val (.int v0), .val (.int v1), .val (.int v2), .val (.int v3), .val (.int v4), .val (.int v2), .val (.int v1), .val (.ref so_162), .val (.ref so_165), .val (.ref so_172), .val (.ref so_185), .val (.ref b204), .val (.ref b232), .val (.int (v4 &&& (3 : Int32))), .val (.int (1 : Int32))] [(.int (own_keq (own_eqB n_172 x_172 y_172 n_162 x_162 y_162) (own_eqB n_185 x_185 y_185 n_165 x_165 y_165)))])) (fun t k => st320.trans k) ?_
                obtain ⟨_, X320h, N320h⟩ := own_hide X320 N320
                refine own_iload X320h hx 195 (hb hby at_193) rfl ?_
                refine own_icmpNo X320h hx 198 (hb hby at_195) (teq (by rw [own_eqs n_172 x_172 y_172 n_162 x_162 y_162, own_eqs n_185 x_185 y_185 n_165 x_165 y_165]; simp [own_keq, hc154_287, hc164_310] : (own_keq (own_eqB n_172 x_172 y_172 n_162 x_162 y_162) (own_eqB n_185 x_185 y_185 n_165 x_165 y_165)) = (1 : Int32))).2 ?_
                refine own_iconst X320h hx 199 (1 : Int32) (hb hby at_198) rfl ?_
                refine own_goto X320h hx 203 (hb hby at_199) ?_
                exact own_retNW (t := .boolean) (Q := own_Q0 Z cs S_cs hcs sf S_sf hsf v0 v1 v2 v3 v4 h0 n0) X320h hS261 (Nat.le_refl _) hx hrt (by simp) (hb hby at_203) hlk eh320 ⟨rfl, N320h⟩ (by decide) (by decide)
  · refine own_ifNo X0 hx 9 (hb hby at_6) (feq hc6_1).1 ?_
    refine own_iloadN X0 hx 10 (hb hby at_9) rfl ?_
    refine own_goto X0 hx 14 (hb hby at_10) ?_
    refine own_istore X0 hx 16 #[.val (.int v0), .val (.int v1), .val (.int v2), .val (.int v3), .val (.int v4), .val (.int v0), .unset, .unset, .unset, .unset, .unset, .unset, .unset, .unset, .unset] (hb hby at_14) rfl ?_
    refine own_iload X0 hx 18 (hb hby at_16) rfl ?_
    refine own_iconst X0 hx 19 (3 : Int32) (hb hby at_18) rfl ?_
    refine own_iushr X0 hx 20 (hb hby at_19) ?_
    refine own_iconst X0 hx 21 (1 : Int32) (hb hby at_20) rfl ?_
    refine own_iand X0 hx 22 (hb hby at_21) ?_
    by_cases hc22_321 : (((v4.toUInt32 >>> ((3 : Int32) &&& 31).toUInt32).toInt32) &&& (1 : Int32)) = (0 : Int32)
    · refine own_ifYes X0 hx 29 (hb hby at_22) (teq hc22_321).1 ?_
      refine own_iloadN X0 hx 30 (hb hby at_29) rfl ?_
      refine own_istore X0 hx 32 #[.val (.int v0), .val (.int v1), .val (.int v2), .val (.int v3), .val (.int v4), .val (.int v0), .val (.int v3), .unset, .unset, .unset, .unset, .unset, .unset, .unset, .unset] (hb hby at_30) rfl ?_
      refine own_iloadN X0 hx 33 (hb hby at_32) rfl ?_
      obtain ⟨_, _, ⟨T322, Lx322, kc322, nc322⟩, -, X322, ⟨Lc322, hQ322, lq322, yq322, zq322⟩, st322⟩ := Jvm.LawKit.callS X0 hx (y := (⟨"com/example/fates/fates/KeyEqualsPinLaw", "str", "(I)Ljava/lang/String;"⟩ : MethodName)) hown (mvT hZ (hw _ (List.mem_of_getElem? (i := 0) rfl))) (mvT hZ (hw _ (List.mem_of_getElem? (i := 1) rfl))) (mvT hZ (hw _ (List.mem_of_getElem? (i := 2) rfl))) (mvT hZ (hw _ (List.mem_of_getElem? (i := 3) rfl))) (by decide) (backOf (W := 0) (own_rm1 l Z a0 hw [] cs S_cs hcs sf S_sf hsf v0 h0 n0 Z0 O0) hZ (hw _ (List.mem_of_getElem? (i := 3) rfl)) (hw _ (List.mem_of_getElem? (i := 2) rfl)) (by decide) (by decide)) (g := (mkF m 33 #[.val (.int v0), .val (.int v1), .val (.int v2), .val (.int v3), .val (.int v4), .val (.int v0), .val (.int v3), .unset, .unset, .unset, .unset, .unset, .unset, .unset, .unset] [(.int v0)])) rfl (by rw [hml]; rfl) (argsL := [(.int v0)]) (rest := []) (lenOf own_pd16 rfl) rfl (by show 2 * 0 + _ ≤ _; exact Nat.le_of_eq rfl) (hb hby at_33) (fun _ _ => ⟨rfl, e0, (by decide : 0 + 3 ≤ _), (by decide : 0 + 8 ≤ _)⟩)
      dsimp only [Pt.U, Pt.locs, Pt.cells, Pt.slots] at X322 lq322 yq322 zq322 st322 hQ322
      subst lq322 yq322 zq322
      obtain ⟨so_322, b_322, kb_322, n_322, x_322, y_322, rfl, Nq322, Kp322, G322_0, G322_1, G322_2, G322_3, G322_4, G322_5, P322_0, P322_1⟩ := hQ322
      have N322 := Fr.app N0 Nq322
      have gt_so_322 : n0 ≤ so_322 := Nat.le_trans Z0 G322_0
      have gt_b_322 : n0 ≤ b_322 := Nat.le_trans Z0 G322_1
      have O323 := O0.keep Kp322 all0
      have Z324 := Nat.le_trans Z0 Kp322.1
      refine own_st (G' := T322.setTop (mkF m 36 #[.val (.int v0), .val (.int v1), .val (.int v2), .val (.int v3), .val (.int v4), .val (.int v0), .val (.int v3), .unset, .unset, .unset, .unset, .unset, .unset, .unset, .unset] [(.ref so_322)])) st322 ?_
      obtain ⟨_, X322h, N322h⟩ := own_hide X322 N322
      refine own_astore X322h hx 38 #[.val (.int v0), .val (.int v1), .val (.int v2), .val (.int v3), .val (.int v4), .val (.int v0), .val (.int v3), .val (.ref so_322), .unset, .unset, .unset, .unset, .unset, .unset, .unset] (hb hby at_36) rfl rfl ?_
      refine own_iloadN X322h hx 39 (hb hby at_38) rfl ?_
      obtain ⟨_, _, ⟨T325, Lx325, kc325, nc325⟩, -, X325, ⟨Lc325, hQ325, lq325, yq325, zq325⟩, st325⟩ := Jvm.LawKit.callS X322h hx (y := (⟨"com/example/fates/fates/KeyEqualsPinLaw", "str", "(I)Ljava/lang/String;"⟩ : MethodName)) hown (mvT hZ (hw _ (List.mem_of_getElem? (i := 0) rfl))) (mvT hZ (hw _ (List.mem_of_getElem? (i := 1) rfl))) (mvT hZ (hw _ (List.mem_of_getElem? (i := 2) rfl))) (mvT hZ (hw _ (List.mem_of_getElem? (i := 3) rfl))) (by decide) (backOf (W := 0) (own_rm1 l Z a0 hw [] cs S_cs hcs sf S_sf hsf v1 T322.heap n0 Z324 O323) hZ (hw _ (List.mem_of_getElem? (i := 3) rfl)) (hw _ (List.mem_of_getElem? (i := 2) rfl)) (by decide) (by decide)) (g := (mkF m 39 #[.val (.int v0), .val (.int v1), .val (.int v2), .val (.int v3), .val (.int v4), .val (.int v0), .val (.int v3), .val (.ref so_322), .unset, .unset, .unset, .unset, .unset, .unset, .unset] [(.int v1)])) rfl (by rw [hml]; rfl) (argsL := [(.int v1)]) (rest := []) (lenOf own_pd16 rfl) rfl (by show 2 * 0 + _ ≤ _; exact Nat.le_of_eq rfl) (hb hby at_39) (fun _ _ => ⟨rfl, rfl, (by decide : 3 + 3 ≤ _), (by decide : 8 + 8 ≤ _)⟩)
      dsimp only [Pt.U, Pt.locs, Pt.cells, Pt.slots] at X325 lq325 yq325 zq325 st325 hQ325
      subst lq325 yq325 zq325
      obtain ⟨so_325, b_325, kb_325, n_325, x_325, y_325, rfl, Nq325, Kp325, G325_0, G325_1, G325_2, G325_3, G325_4, G325_5, P325_0, P325_1⟩ := hQ325
      have N325 := Fr.app N322h Nq325
      have ne326 : so_322 ≠ so_325 := Nat.ne_of_lt (Nat.lt_of_lt_of_le G322_2.lt G325_0)
      have ne327 : b_322 ≠ so_325 := Nat.ne_of_lt (Nat.lt_of_lt_of_le G322_5.lt G325_0)
      have gt_so_325 : n0 ≤ so_325 := Nat.le_trans Z324 G325_0
      have ne328 : so_322 ≠ b_325 := Nat.ne_of_lt (Nat.lt_of_lt_of_le G322_2.lt G325_1)
      have ne329 : b_322 ≠ b_325 := Nat.ne_of_lt (Nat.lt_of_lt_of_le G322_5.lt G325_1)
      have gt_b_325 : n0 ≤ b_325 := Nat.le_trans Z324 G325_1
      have O330 := O323.keep Kp325 all0
      have Z331 := Nat.le_trans Z324 Kp325.1
      refine own_st (G' := T325.setTop (mkF m 42 #[.val (.int v0), .val (.int v1), .val (.int v2), .val (.int v3), .val (.int v4), .val (.int v0), .val (.int v3), .val (.ref so_322), .unset, .unset, .unset, .unset, .unset, .unset, .unset] [(.ref so_325)])) st325 ?_
      obtain ⟨_, X325h, N325h⟩ := own_hide X325 N325
      refine own_astore X325h hx 44 #[.val (.int v0), .val (.int v1), .val (.int v2), .val (.int v3), .val (.int v4), .val (.int v0), .val (.int v3), .val (.ref so_322), .val (.ref so_325), .unset, .unset, .unset, .unset, .unset, .unset] (hb hby at_42) rfl rfl ?_
      refine own_iload X325h hx 46 (hb hby at_44) rfl ?_
      obtain ⟨_, _, ⟨T332, Lx332, kc332, nc332⟩, -, X332, ⟨Lc332, hQ332, lq332, yq332, zq332⟩, st332⟩ := Jvm.LawKit.callS X325h hx (y := (⟨"com/example/fates/fates/KeyEqualsPinLaw", "str", "(I)Ljava/lang/String;"⟩ : MethodName)) hown (mvT hZ (hw _ (List.mem_of_getElem? (i := 0) rfl))) (mvT hZ (hw _ (List.mem_of_getElem? (i := 1) rfl))) (mvT hZ (hw _ (List.mem_of_getElem? (i := 2) rfl))) (mvT hZ (hw _ (List.mem_of_getElem? (i := 3) rfl))) (by decide) (backOf (W := 0) (own_rm1 l Z a0 hw [] cs S_cs hcs sf S_sf hsf v0 T325.heap n0 Z331 O330) hZ (hw _ (List.mem_of_getElem? (i := 3) rfl)) (hw _ (List.mem_of_getElem? (i := 2) rfl)) (by decide) (by decide)) (g := (mkF m 46 #[.val (.int v0), .val (.int v1), .val (.int v2), .val (.int v3), .val (.int v4), .val (.int v0), .val (.int v3), .val (.ref so_322), .val (.ref so_325), .unset, .unset, .unset, .unset, .unset, .unset] [(.int v0)])) rfl (by rw [hml]; rfl) (argsL := [(.int v0)]) (rest := []) (lenOf own_pd16 rfl) rfl (by show 2 * 0 + _ ≤ _; exact Nat.le_of_eq rfl) (hb hby at_46) (fun _ _ => ⟨rfl, rfl, (by decide : 6 + 3 ≤ _), (by decide : 16 + 8 ≤ _)⟩)
      dsimp only [Pt.U, Pt.locs, Pt.cells, Pt.slots] at X332 lq332 yq332 zq332 st332 hQ332
      subst lq332 yq332 zq332
      obtain ⟨so_332, b_332, kb_332, n_332, x_332, y_332, rfl, Nq332, Kp332, G332_0, G332_1, G332_2, G332_3, G332_4, G332_5, P332_0, P332_1⟩ := hQ332
      have N332 := Fr.app N325h Nq332
      have f333 := (G322_2.keep Kp325)
      have ne334 : so_322 ≠ so_332 := Nat.ne_of_lt (Nat.lt_of_lt_of_le f333.lt G332_0)
      have f335 := (G322_5.keep Kp325 nin0)
      have ne336 : b_322 ≠ so_332 := Nat.ne_of_lt (Nat.lt_of_lt_of_le f335.lt G332_0)
      have ne337 : so_325 ≠ so_332 := Nat.ne_of_lt (Nat.lt_of_lt_of_le G325_2.lt G332_0)
      have ne338 : b_325 ≠ so_332 := Nat.ne_of_lt (Nat.lt_of_lt_of_le G325_5.lt G332_0)
      have gt_so_332 : n0 ≤ so_332 := Nat.le_trans Z331 G332_0
      have ne339 : so_322 ≠ b_332 := Nat.ne_of_lt (Nat.lt_of_lt_of_le f333.lt G332_1)
      have ne340 : b_322 ≠ b_332 := Nat.ne_of_lt (Nat.lt_of_lt_of_le f335.lt G332_1)
      have ne341 : so_325 ≠ b_332 := Nat.ne_of_lt (Nat.lt_of_lt_of_le G325_2.lt G332_1)
      have ne342 : b_325 ≠ b_332 := Nat.ne_of_lt (Nat.lt_of_lt_of_le G325_5.lt G332_1)
      have gt_b_332 : n0 ≤ b_332 := Nat.le_trans Z331 G332_1
      have O343 := O330.keep Kp332 all0
      have Z344 := Nat.le_trans Z331 Kp332.1
      refine own_st (G' := T332.setTop (mkF m 49 #[.val (.int v0), .val (.int v1), .val (.int v2), .val (.int v3), .val (.int v4), .val (.int v0), .val (.int v3), .val (.ref so_322), .val (.ref so_325), .unset, .unset, .unset, .unset, .unset, .unset] [(.ref so_332)])) st332 ?_
      obtain ⟨_, X332h, N332h⟩ := own_hide X332 N332
      refine own_astore X332h hx 51 #[.val (.int v0), .val (.int v1), .val (.int v2), .val (.int v3), .val (.int v4), .val (.int v0), .val (.int v3), .val (.ref so_322), .val (.ref so_325), .val (.ref so_332), .unset, .unset, .unset, .unset, .unset] (hb hby at_49) rfl rfl ?_
      refine own_iload X332h hx 53 (hb hby at_51) rfl ?_
      obtain ⟨_, _, ⟨T345, Lx345, kc345, nc345⟩, -, X345, ⟨Lc345, hQ345, lq345, yq345, zq345⟩, st345⟩ := Jvm.LawKit.callS X332h hx (y := (⟨"com/example/fates/fates/KeyEqualsPinLaw", "str", "(I)Ljava/lang/String;"⟩ : MethodName)) hown (mvT hZ (hw _ (List.mem_of_getElem? (i := 0) rfl))) (mvT hZ (hw _ (List.mem_of_getElem? (i := 1) rfl))) (mvT hZ (hw _ (List.mem_of_getElem? (i := 2) rfl))) (mvT hZ (hw _ (List.mem_of_getElem? (i := 3) rfl))) (by decide) (backOf (W := 0) (own_rm1 l Z a0 hw [] cs S_cs hcs sf S_sf hsf v3 T332.heap n0 Z344 O343) hZ (hw _ (List.mem_of_getElem? (i := 3) rfl)) (hw _ (List.mem_of_getElem? (i := 2) rfl)) (by decide) (by decide)) (g := (mkF m 53 #[.val (.int v0), .val (.int v1), .val (.int v2), .val (.int v3), .val (.int v4), .val (.int v0), .val (.int v3), .val (.ref so_322), .val (.ref so_325), .val (.ref so_332), .unset, .unset, .unset, .unset, .unset] [(.int v3)])) rfl (by rw [hml]; rfl) (argsL := [(.int v3)]) (rest := []) (lenOf own_pd16 rfl) rfl (by show 2 * 0 + _ ≤ _; exact Nat.le_of_eq rfl) (hb hby at_53) (fun _ _ => ⟨rfl, rfl, (by decide : 9 + 3 ≤ _), (by decide : 24 + 8 ≤ _)⟩)
      dsimp only [Pt.U, Pt.locs, Pt.cells, Pt.slots] at X345 lq345 yq345 zq345 st345 hQ345
      subst lq345 yq345 zq345
      obtain ⟨so_345, b_345, kb_345, n_345, x_345, y_345, rfl, Nq345, Kp345, G345_0, G345_1, G345_2, G345_3, G345_4, G345_5, P345_0, P345_1⟩ := hQ345
      have N345 := Fr.app N332h Nq345
      have f346 := (f333.keep Kp332)
      have ne347 : so_322 ≠ so_345 := Nat.ne_of_lt (Nat.lt_of_lt_of_le f346.lt G345_0)
      have f348 := (f335.keep Kp332 nin0)
      have ne349 : b_322 ≠ so_345 := Nat.ne_of_lt (Nat.lt_of_lt_of_le f348.lt G345_0)
      have f350 := (G325_2.keep Kp332)
      have ne351 : so_325 ≠ so_345 := Nat.ne_of_lt (Nat.lt_of_lt_of_le f350.lt G345_0)
      have f352 := (G325_5.keep Kp332 nin0)
      have ne353 : b_325 ≠ so_345 := Nat.ne_of_lt (Nat.lt_of_lt_of_le f352.lt G345_0)
      have ne354 : so_332 ≠ so_345 := Nat.ne_of_lt (Nat.lt_of_lt_of_le G332_2.lt G345_0)
      have ne355 : b_332 ≠ so_345 := Nat.ne_of_lt (Nat.lt_of_lt_of_le G332_5.lt G345_0)
      have gt_so_345 : n0 ≤ so_345 := Nat.le_trans Z344 G345_0
      have ne356 : so_322 ≠ b_345 := Nat.ne_of_lt (Nat.lt_of_lt_of_le f346.lt G345_1)
      have ne357 : b_322 ≠ b_345 := Nat.ne_of_lt (Nat.lt_of_lt_of_le f348.lt G345_1)
      have ne358 : so_325 ≠ b_345 := Nat.ne_of_lt (Nat.lt_of_lt_of_le f350.lt G345_1)
      have ne359 : b_325 ≠ b_345 := Nat.ne_of_lt (Nat.lt_of_lt_of_le f352.lt G345_1)
      have ne360 : so_332 ≠ b_345 := Nat.ne_of_lt (Nat.lt_of_lt_of_le G332_2.lt G345_1)
      have ne361 : b_332 ≠ b_345 := Nat.ne_of_lt (Nat.lt_of_lt_of_le G332_5.lt G345_1)
      have gt_b_345 : n0 ≤ b_345 := Nat.le_trans Z344 G345_1
      have O362 := O343.keep Kp345 all0
      have Z363 := Nat.le_trans Z344 Kp345.1
      refine own_st (G' := T345.setTop (mkF m 56 #[.val (.int v0), .val (.int v1), .val (.int v2), .val (.int v3), .val (.int v4), .val (.int v0), .val (.int v3), .val (.ref so_322), .val (.ref so_325), .val (.ref so_332), .unset, .unset, .unset, .unset, .unset] [(.ref so_345)])) st345 ?_
      obtain ⟨_, X345h, N345h⟩ := own_hide X345 N345
      refine own_astore X345h hx 58 #[.val (.int v0), .val (.int v1), .val (.int v2), .val (.int v3), .val (.int v4), .val (.int v0), .val (.int v3), .val (.ref so_322), .val (.ref so_325), .val (.ref so_332), .val (.ref so_345), .unset, .unset, .unset, .unset] (hb hby at_56) rfl rfl ?_
      obtain ⟨T364, h364, X364, e364, E364, A364, D364, -, st364⟩ := newO X345h hx hZ hown (hw _ (List.mem_of_getElem? (i := 34) rfl)) (hw _ (List.mem_of_getElem? (i := 35) rfl)) (hw _ (List.mem_of_getElem? (i := 36) rfl)) rfl (g := (mkF m 58 #[.val (.int v0), .val (.int v1), .val (.int v2), .val (.int v3), .val (.int v4), .val (.int v0), .val (.int v3), .val (.ref so_322), .val (.ref so_325), .val (.ref so_332), .val (.ref so_345), .unset, .unset, .unset, .unset] [])) rfl (hb hby at_58) (by decide) (by decide)
      obtain ⟨b364, g364⟩ : ∃ z, z = T345.heap.size := ⟨_, rfl⟩
      rw [← g364] at A364 D364 st364
      have f365 := (f346.keep Kp345)
      have ne366 : so_322 ≠ b364 := Nat.ne_of_lt (Nat.lt_of_lt_of_le f365.lt (Nat.le_of_eq g364.symm))
      have f367 := (f348.keep Kp345 nin0)
      have ne368 : b_322 ≠ b364 := Nat.ne_of_lt (Nat.lt_of_lt_of_le f367.lt (Nat.le_of_eq g364.symm))
      have f369 := (f350.keep Kp345)
      have ne370 : so_325 ≠ b364 := Nat.ne_of_lt (Nat.lt_of_lt_of_le f369.lt (Nat.le_of_eq g364.symm))
      have f371 := (f352.keep Kp345 nin0)
      have ne372 : b_325 ≠ b364 := Nat.ne_of_lt (Nat.lt_of_lt_of_le f371.lt (Nat.le_of_eq g364.symm))
      have f373 := (G332_2.keep Kp345)
      have ne374 : so_332 ≠ b364 := Nat.ne_of_lt (Nat.lt_of_lt_of_le f373.lt (Nat.le_of_eq g364.symm))
      have f375 := (G332_5.keep Kp345 nin0)
      have ne376 : b_332 ≠ b364 := Nat.ne_of_lt (Nat.lt_of_lt_of_le f375.lt (Nat.le_of_eq g364.symm))
      have ne377 : so_345 ≠ b364 := Nat.ne_of_lt (Nat.lt_of_lt_of_le G345_2.lt (Nat.le_of_eq g364.symm))
      have ne378 : b_345 ≠ b364 := Nat.ne_of_lt (Nat.lt_of_lt_of_le G345_5.lt (Nat.le_of_eq g364.symm))
      have gt_b364 : n0 ≤ b364 := Nat.le_trans Z363 (Nat.le_of_eq g364.symm)
      have O379 := O362.ext E364
      have Z380 := Nat.le_trans Z363 E364.1
      have F364_group : Fld Z h364 b364 "com/example/fates/fates/Key" "group" "Ljava/lang/String;" .null := D364 (Or.inr (hw _ (List.mem_of_getElem? (i := 71) rfl))) (ty := (.object "java/lang/String")) (by decide)
      have F364_name : Fld Z h364 b364 "com/example/fates/fates/Key" "name" "Ljava/lang/String;" .null := D364 (Or.inr (hw _ (List.mem_of_getElem? (i := 74) rfl))) (ty := (.object "java/lang/String")) (by decide)
      refine own_st (G' := T364.setTop (mkF m 61 #[.val (.int v0), .val (.int v1), .val (.int v2), .val (.int v3), .val (.int v4), .val (.int v0), .val (.int v3), .val (.ref so_322), .val (.ref so_325), .val (.ref so_332), .val (.ref so_345), .unset, .unset, .unset, .unset] [(.ref b364)])) st364 ?_
      obtain ⟨_, X364h, N364h⟩ := own_hide X364 N345h
      refine own_dup X364h hx 62 (hb hby at_61) rfl ?_
      refine own_aload X364h hx 64 (hb hby at_62) rfl rfl ?_
      refine own_aload X364h hx 66 (hb hby at_64) rfl rfl ?_
      have f381 := (f365.ext E364)
      have f382 := ((((G322_3.keep Kp325 nin0).keep Kp332 nin0).keep Kp345 nin0).ext E364)
      have f383 := ((((G322_4.keep Kp325 nin0).keep Kp332 nin0).keep Kp345 nin0).ext E364)
      have f384 := (f367.ext E364)
      have f385 := (f369.ext E364)
      have f386 := (((G325_3.keep Kp332 nin0).keep Kp345 nin0).ext E364)
      have f387 := (((G325_4.keep Kp332 nin0).keep Kp345 nin0).ext E364)
      have f388 := (f371.ext E364)
      have hS0 : s.Since s.vm 0 := (State.WarmedH.refl s).since 0
      have X389q := (show Stand p l e room_1 (s.setVm s.vm) m #[(.int v0), (.int v1), (.int v2), (.int v3), (.int v4)] below meth c T364 _ _ _ from X364h)
      obtain ⟨_, _, ⟨T389, Lx389, kc389, nc389⟩, -, X389, hSx389, hgr389, ⟨Lc389, hQ389, lq389, yq389, zq389⟩, st389⟩ := X389q.specialBackS hx (y := (⟨"com/example/fates/fates/Key", "<init>", "(Ljava/lang/String;Ljava/lang/String;)V"⟩ : MethodName)) rfl hown (mvT hZ (hw _ (List.mem_of_getElem? (i := 37) rfl))) (mvT hZ (hw _ (List.mem_of_getElem? (i := 38) rfl))) (mvT hZ (hw _ (List.mem_of_getElem? (i := 39) rfl))) (by decide) (backOfS (W := 1) (own_rm8 l Z a0 hw [] cs S_cs hcs sf S_sf hsf b364 so_322 so_325 b_322 kb_322 n_322 x_322 y_322 b_325 kb_325 n_325 x_325 y_325 h364 n0 Z380 A364 F364_group F364_name gt_b364 O379 f381 f382 f383 f384 f385 f386 f387 f388 (P322_0 : own_N n_322) (P325_0 : own_N n_325) (Ne.symm ne370) (Ne.symm ne372)) hZ (hw _ (List.mem_of_getElem? (i := 39) rfl)) (hw _ (List.mem_of_getElem? (i := 36) rfl)) (by decide) (by decide)) (g := (mkF m 66 #[.val (.int v0), .val (.int v1), .val (.int v2), .val (.int v3), .val (.int v4), .val (.int v0), .val (.int v3), .val (.ref so_322), .val (.ref so_325), .val (.ref so_332), .val (.ref so_345), .unset, .unset, .unset, .unset] [(.ref so_325), (.ref so_322), (.ref b364), (.ref b364)])) rfl (by rw [hml]; rfl) (Steps.refl _) (a := b364) (argsL := [(.ref so_322), (.ref so_325)]) (rest := [(.ref b364)]) (lenOf own_pd17 rfl) rfl (by show 2 * 0 + _ ≤ _; exact Nat.le_of_eq rfl) (hb hby at_66) (fun _ _ => ⟨rfl, e364, (by decide : 13 + 4 ≤ _), (by decide : 34 + 44 ≤ _)⟩)
      dsimp only [Pt.U, Pt.locs, Pt.cells, Pt.slots] at X389 lq389 yq389 zq389 st389 hQ389 hSx389 hgr389
      subst lq389 yq389 zq389
      have hS389 := own_wf hS0 ((Nat.zero_le _)) hSx389 (by rw [e364] at hgr389; exact hgr389)
      have hown := own_wo hSx389 hown
      have hZ := own_wz hZ hSx389
      obtain ⟨rfl, Nq389, Kp389, G389_0, G389_1, G389_2⟩ := hQ389
      have N389 := Fr.app N364h Nq389
      have O390 := O379.keep Kp389 (allS gt_b364 all0)
      have Z391 := Nat.le_trans Z380 Kp389.1
      have X389w := (show Stand p l e room_1 (s.setVm T389.vm) m #[(.int v0), (.int v1), (.int v2), (.int v3), (.int v4)] below meth c T389 _ _ _ from X389)
      refine own_st (G' := T389.setTop (mkF m 69 #[.val (.int v0), .val (.int v1), .val (.int v2), .val (.int v3), .val (.int v4), .val (.int v0), .val (.int v3), .val (.ref so_322), .val (.ref so_325), .val (.ref so_332), .val (.ref so_345), .unset, .unset, .unset, .unset] [(.ref b364)])) (fun t k => st389.trans k) ?_
      obtain ⟨_, X389wh, N389wh⟩ := own_hide X389w N389
      refine own_astore X389wh hx 71 #[.val (.int v0), .val (.int v1), .val (.int v2), .val (.int v3), .val (.int v4), .val (.int v0), .val (.int v3), .val (.ref so_322), .val (.ref so_325), .val (.ref so_332), .val (.ref so_345), .val (.ref b364), .unset, .unset, .unset] (hb hby at_69) rfl rfl ?_
      obtain ⟨T392, h392, X392, e392, E392, A392, D392, -, st392⟩ := newO X389wh hx hZ hown (hw _ (List.mem_of_getElem? (i := 34) rfl)) (hw _ (List.mem_of_getElem? (i := 35) rfl)) (hw _ (List.mem_of_getElem? (i := 36) rfl)) rfl (g := (mkF m 71 #[.val (.int v0), .val (.int v1), .val (.int v2), .val (.int v3), .val (.int v4), .val (.int v0), .val (.int v3), .val (.ref so_322), .val (.ref so_325), .val (.ref so_332), .val (.ref so_345), .val (.ref b364), .unset, .unset, .unset] [])) rfl (hb hby at_71) (by decide) (by decide)
      obtain ⟨b392, g392⟩ : ∃ z, z = T389.heap.size := ⟨_, rfl⟩
      rw [← g392] at A392 D392 st392
      have f393 := (f381.keep Kp389)
      have ne394 : so_322 ≠ b392 := Nat.ne_of_lt (Nat.lt_of_lt_of_le f393.lt (Nat.le_of_eq g392.symm))
      have f395 := (f384.keep Kp389 (ninS ne368 nin0))
      have ne396 : b_322 ≠ b392 := Nat.ne_of_lt (Nat.lt_of_lt_of_le f395.lt (Nat.le_of_eq g392.symm))
      have f397 := (f385.keep Kp389)
      have ne398 : so_325 ≠ b392 := Nat.ne_of_lt (Nat.lt_of_lt_of_le f397.lt (Nat.le_of_eq g392.symm))
      have f399 := (f388.keep Kp389 (ninS ne372 nin0))
      have ne400 : b_325 ≠ b392 := Nat.ne_of_lt (Nat.lt_of_lt_of_le f399.lt (Nat.le_of_eq g392.symm))
      have f401 := ((f373.ext E364).keep Kp389)
      have ne402 : so_332 ≠ b392 := Nat.ne_of_lt (Nat.lt_of_lt_of_le f401.lt (Nat.le_of_eq g392.symm))
      have f403 := ((f375.ext E364).keep Kp389 (ninS ne376 nin0))
      have ne404 : b_332 ≠ b392 := Nat.ne_of_lt (Nat.lt_of_lt_of_le f403.lt (Nat.le_of_eq g392.symm))
      have f405 := ((G345_2.ext E364).keep Kp389)
      have ne406 : so_345 ≠ b392 := Nat.ne_of_lt (Nat.lt_of_lt_of_le f405.lt (Nat.le_of_eq g392.symm))
      have f407 := ((G345_5.ext E364).keep Kp389 (ninS ne378 nin0))
      have ne408 : b_345 ≠ b392 := Nat.ne_of_lt (Nat.lt_of_lt_of_le f407.lt (Nat.le_of_eq g392.symm))
      have ne409 : b364 ≠ b392 := Nat.ne_of_lt (Nat.lt_of_lt_of_le G389_0.lt (Nat.le_of_eq g392.symm))
      have gt_b392 : n0 ≤ b392 := Nat.le_trans Z391 (Nat.le_of_eq g392.symm)
      have O410 := O390.ext E392
      have Ks411 := Nat.le_trans (Nat.le_refl _) E392.1
      have Z412 := Nat.le_trans Z391 E392.1
      have F392_group : Fld Z h392 b392 "com/example/fates/fates/Key" "group" "Ljava/lang/String;" .null := D392 (Or.inr (hw _ (List.mem_of_getElem? (i := 71) rfl))) (ty := (.object "java/lang/String")) (by decide)
      have F392_name : Fld Z h392 b392 "com/example/fates/fates/Key" "name" "Ljava/lang/String;" .null := D392 (Or.inr (hw _ (List.mem_of_getElem? (i := 74) rfl))) (ty := (.object "java/lang/String")) (by decide)
      refine own_st (G' := T392.setTop (mkF m 74 #[.val (.int v0), .val (.int v1), .val (.int v2), .val (.int v3), .val (.int v4), .val (.int v0), .val (.int v3), .val (.ref so_322), .val (.ref so_325), .val (.ref so_332), .val (.ref so_345), .val (.ref b364), .unset, .unset, .unset] [(.ref b392)])) st392 ?_
      obtain ⟨_, X392h, N392h⟩ := own_hide X392 N389wh
      refine own_dup X392h hx 75 (hb hby at_74) rfl ?_
      refine own_aload X392h hx 77 (hb hby at_75) rfl rfl ?_
      refine own_aload X392h hx 79 (hb hby at_77) rfl rfl ?_
      have f413 := (f401.ext E392)
      have f414 := ((((G332_3.keep Kp345 nin0).ext E364).keep Kp389 (ninS ne374 nin0)).ext E392)
      have f415 := ((((G332_4.keep Kp345 nin0).ext E364).keep Kp389 (ninS ne374 nin0)).ext E392)
      have f416 := (f403.ext E392)
      have f417 := (f405.ext E392)
      have f418 := (((G345_3.ext E364).keep Kp389 (ninS ne377 nin0)).ext E392)
      have f419 := (((G345_4.ext E364).keep Kp389 (ninS ne377 nin0)).ext E392)
      have f420 := (f407.ext E392)
      obtain ⟨_, _, ⟨T421, Lx421, kc421, nc421⟩, -, X421, hSx421, hgr421, ⟨Lc421, hQ421, lq421, yq421, zq421⟩, st421⟩ := X392h.specialBackS hx (y := (⟨"com/example/fates/fates/Key", "<init>", "(Ljava/lang/String;Ljava/lang/String;)V"⟩ : MethodName)) rfl hown (mvT hZ (hw _ (List.mem_of_getElem? (i := 37) rfl))) (mvT hZ (hw _ (List.mem_of_getElem? (i := 38) rfl))) (mvT hZ (hw _ (List.mem_of_getElem? (i := 39) rfl))) (by decide) (backOfS (W := 1) (own_rm8 l Z a0 hw [] cs S_cs hcs sf S_sf hsf b392 so_332 so_345 b_332 kb_332 n_332 x_332 y_332 b_345 kb_345 n_345 x_345 y_345 h392 n0 Z412 A392 F392_group F392_name gt_b392 O410 f413 f414 f415 f416 f417 f418 f419 f420 (P332_0 : own_N n_332) (P345_0 : own_N n_345) (Ne.symm ne406) (Ne.symm ne408)) hZ (hw _ (List.mem_of_getElem? (i := 39) rfl)) (hw _ (List.mem_of_getElem? (i := 36) rfl)) (by decide) (by decide)) (g := (mkF m 79 #[.val (.int v0), .val (.int v1), .val (.int v2), .val (.int v3), .val (.int v4), .val (.int v0), .val (.int v3), .val (.ref so_322), .val (.ref so_325), .val (.ref so_332), .val (.ref so_345), .val (.ref b364), .unset, .unset, .unset] [(.ref so_345), (.ref so_332), (.ref b392), (.ref b392)])) rfl (by rw [hml]; rfl) (Steps.refl _) (a := b392) (argsL := [(.ref so_332), (.ref so_345)]) (rest := [(.ref b392)]) (lenOf own_pd17 rfl) rfl (by show 2 * 0 + _ ≤ _; exact Nat.le_of_eq rfl) (hb hby at_79) (fun _ _ => ⟨rfl, e392, (by decide : 18 + 4 ≤ _), (by decide : 80 + 44 ≤ _)⟩)
      dsimp only [Pt.U, Pt.locs, Pt.cells, Pt.slots] at X421 lq421 yq421 zq421 st421 hQ421 hSx421 hgr421
      subst lq421 yq421 zq421
      have hS421 := own_wf hS389 (Ks411) hSx421 (by rw [e392] at hgr421; exact hgr421)
      have hown := own_wo hSx421 hown
      have hZ := own_wz hZ hSx421
      obtain ⟨rfl, Nq421, Kp421, G421_0, G421_1, G421_2⟩ := hQ421
      have N421 := Fr.app N392h Nq421
      have O422 := O410.keep Kp421 (allS gt_b392 all0)
      have Z423 := Nat.le_trans Z412 Kp421.1
      have X421w := (show Stand p l e room_1 (s.setVm T421.vm) m #[(.int v0), (.int v1), (.int v2), (.int v3), (.int v4)] below meth c T421 _ _ _ from X421)
      refine own_st (G' := T421.setTop (mkF m 82 #[.val (.int v0), .val (.int v1), .val (.int v2), .val (.int v3), .val (.int v4), .val (.int v0), .val (.int v3), .val (.ref so_322), .val (.ref so_325), .val (.ref so_332), .val (.ref so_345), .val (.ref b364), .unset, .unset, .unset] [(.ref b392)])) (fun t k => st421.trans k) ?_
      obtain ⟨_, X421wh, N421wh⟩ := own_hide X421w N421
      refine own_astore X421wh hx 84 #[.val (.int v0), .val (.int v1), .val (.int v2), .val (.int v3), .val (.int v4), .val (.int v0), .val (.int v3), .val (.ref so_322), .val (.ref so_325), .val (.ref so_332), .val (.ref so_345), .val (.ref b364), .val (.ref b392), .unset, .unset] (hb hby at_82) rfl rfl ?_
      refine own_iload X421wh hx 86 (hb hby at_84) rfl ?_
      refine own_iconst X421wh hx 87 (3 : Int32) (hb hby at_86) rfl ?_
      refine own_iand X421wh hx 88 (hb hby at_87) ?_
      refine own_istore X421wh hx 90 #[.val (.int v0), .val (.int v1), .val (.int v2), .val (.int v3), .val (.int v4), .val (.int v0), .val (.int v3), .val (.ref so_322), .val (.ref so_325), .val (.ref so_332), .val (.ref so_345), .val (.ref b364), .val (.ref b392), .val (.int (v4 &&& (3 : Int32))), .unset] (hb hby at_88) rfl ?_
      refine own_iload X421wh hx 92 (hb hby at_90) rfl ?_
      refine own_iconst X421wh hx 93 (1 : Int32) (hb hby at_92) rfl ?_
      by_cases hc93_424 : (v4 &&& (3 : Int32)) = (1 : Int32)
      · refine own_icmpNo X421wh hx 96 (hb hby at_93) (teq hc93_424).2 ?_
        refine own_aload X421wh hx 98 (hb hby at_96) rfl rfl ?_
        refine own_aconstNull X421wh hx 99 (hb hby at_98) ?_
        have f426 := ((G389_0.ext E392).keep Kp421)
        obtain ⟨cq425, kq425, q425a, q425b, q425c⟩ := isOf hZ rfl f426
        obtain ⟨_, _, ⟨T425, Lx425, kc425, nc425⟩, -, X425, ⟨Lc425, hQ425, lq425, yq425, zq425⟩, st425⟩ := X421wh.virtualBack hx (y := (⟨"com/example/fates/fates/Key", "equals", "(Ljava/lang/Object;)Z"⟩ : MethodName)) (z := (⟨"com/example/fates/fates/Key", "equals", "(Ljava/lang/Object;)Z"⟩ : MethodName)) hown (mvT hZ (hw _ (List.mem_of_getElem? (i := 101) rfl))) (mvT hZ (hw _ (List.mem_of_getElem? (i := 102) rfl))) (notFace_of_selects (args := #[]) (mvT hZ (hw _ (List.mem_of_getElem? (i := 104) rfl)))) (mvT hZ (hw _ (List.mem_of_getElem? (i := 104) rfl))) (mvT hZ (hw _ (List.mem_of_getElem? (i := 103) rfl))) (by decide) (backOf (W := 0) (own_rm21n l Z a0 hw [] b364 T421.heap n0 Z423 ) hZ (hw _ (List.mem_of_getElem? (i := 105) rfl)) (hw _ (List.mem_of_getElem? (i := 36) rfl)) (by decide) (by decide)) q425a q425c (g := (mkF m 99 #[.val (.int v0), .val (.int v1), .val (.int v2), .val (.int v3), .val (.int v4), .val (.int v0), .val (.int v3), .val (.ref so_322), .val (.ref so_325), .val (.ref so_332), .val (.ref so_345), .val (.ref b364), .val (.ref b392), .val (.int (v4 &&& (3 : Int32))), .unset] [.null, (.ref b364)])) rfl (by rw [hml]; rfl) (Steps.refl _) (argsL := [.null]) (rest := []) (lenOf own_pd15 rfl) rfl (by show 2 * 0 + _ ≤ _; exact Nat.le_of_eq rfl) (hb hby at_99) (fun _ _ => ⟨rfl, rfl, (by decide : 22 + 0 ≤ _), (by decide : 124 + 0 ≤ _)⟩)
        dsimp only [Pt.U, Pt.locs, Pt.cells, Pt.slots] at X425 lq425 yq425 zq425 st425 hQ425
        subst lq425 yq425 zq425
        obtain ⟨rfl, Nq425, eh425⟩ := hQ425
        have N425 := Fr.app N421wh Nq425
        refine own_st (G' := T425.setTop (mkF m 102 #[.val (.int v0), .val (.int v1), .val (.int v2), .val (.int v3), .val (.int v4), .val (.int v0), .val (.int v3), .val (.ref so_322), .val (.ref so_325), .val (.ref so_332), .val (.ref so_345), .val (.ref b364), .val (.ref b392), .val (.int (v4 &&& (3 : Int32))), .unset] [(.int (0 : Int32))])) (fun t k => st425.trans k) ?_
        obtain ⟨_, X425h, N425h⟩ := own_hide X425 N425
        refine own_ifNo X425h hx 105 (hb hby at_102) (teq (rfl : (0 : Int32) = (0 : Int32))).2 ?_
        refine own_iconst X425h hx 106 (1 : Int32) (hb hby at_105) rfl ?_
        refine own_goto X425h hx 110 (hb hby at_106) ?_
        exact own_retNW (t := .boolean) (Q := own_Q0 Z cs S_cs hcs sf S_sf hsf v0 v1 v2 v3 v4 h0 n0) X425h hS421 (Nat.le_refl _) hx hrt (by simp) (hb hby at_110) hlk eh425 ⟨rfl, N425h⟩ (by decide) (by decide)
      · refine own_icmpYes X421wh hx 111 (hb hby at_93) (feq hc93_424).2 ?_
        refine own_iload X421wh hx 113 (hb hby at_111) rfl ?_
        refine own_iconst X421wh hx 114 (2 : Int32) (hb hby at_113) rfl ?_
        by_cases hc114_427 : (v4 &&& (3 : Int32)) = (2 : Int32)
        · refine own_icmpNo X421wh hx 117 (hb hby at_114) (teq hc114_427).2 ?_
          refine own_aload X421wh hx 119 (hb hby at_117) rfl rfl ?_
          refine own_aload X421wh hx 121 (hb hby at_119) rfl rfl ?_
          have f428 := ((f393.ext E392).keep Kp421)
          have f430 := ((G389_0.ext E392).keep Kp421)
          obtain ⟨cq429, kq429, q429a, q429b, q429c⟩ := isOf hZ rfl f430
          obtain ⟨_, _, ⟨T429, Lx429, kc429, nc429⟩, -, X429, ⟨Lc429, hQ429, lq429, yq429, zq429⟩, st429⟩ := X421wh.virtualBack hx (y := (⟨"com/example/fates/fates/Key", "equals", "(Ljava/lang/Object;)Z"⟩ : MethodName)) (z := (⟨"com/example/fates/fates/Key", "equals", "(Ljava/lang/Object;)Z"⟩ : MethodName)) hown (mvT hZ (hw _ (List.mem_of_getElem? (i := 101) rfl))) (mvT hZ (hw _ (List.mem_of_getElem? (i := 102) rfl))) (notFace_of_selects (args := #[]) (mvT hZ (hw _ (List.mem_of_getElem? (i := 104) rfl)))) (mvT hZ (hw _ (List.mem_of_getElem? (i := 104) rfl))) (mvT hZ (hw _ (List.mem_of_getElem? (i := 103) rfl))) (by decide) (backOf (W := 0) (own_rm21t l Z a0 hw [] b364 so_322 T421.heap n0 Z423 f428) hZ (hw _ (List.mem_of_getElem? (i := 105) rfl)) (hw _ (List.mem_of_getElem? (i := 36) rfl)) (by decide) (by decide)) q429a q429c (g := (mkF m 121 #[.val (.int v0), .val (.int v1), .val (.int v2), .val (.int v3), .val (.int v4), .val (.int v0), .val (.int v3), .val (.ref so_322), .val (.ref so_325), .val (.ref so_332), .val (.ref so_345), .val (.ref b364), .val (.ref b392), .val (.int (v4 &&& (3 : Int32))), .unset] [(.ref so_322), (.ref b364)])) rfl (by rw [hml]; rfl) (Steps.refl _) (argsL := [(.ref so_322)]) (rest := []) (lenOf own_pd15 rfl) rfl (by show 2 * 0 + _ ≤ _; exact Nat.le_of_eq rfl) (hb hby at_121) (fun _ _ => ⟨rfl, rfl, (by decide : 22 + 0 ≤ _), (by decide : 124 + 0 ≤ _)⟩)
          dsimp only [Pt.U, Pt.locs, Pt.cells, Pt.slots] at X429 lq429 yq429 zq429 st429 hQ429
          subst lq429 yq429 zq429
          obtain ⟨rfl, Nq429, eh429⟩ := hQ429
          have N429 := Fr.app N421wh Nq429
          refine own_st (G' := T429.setTop (mkF m 124 #[.val (.int v0), .val (.int v1), .val (.int v2), .val (.int v3), .val (.int v4), .val (.int v0), .val (.int v3), .val (.ref so_322), .val (.ref so_325), .val (.ref so_332), .val (.ref so_345), .val (.ref b364), .val (.ref b392), .val (.int (v4 &&& (3 : Int32))), .unset] [(.int (0 : Int32))])) (fun t k => st429.trans k) ?_
          obtain ⟨_, X429h, N429h⟩ := own_hide X429 N429
          refine own_ifNo X429h hx 127 (hb hby at_124) (teq (rfl : (0 : Int32) = (0 : Int32))).2 ?_
          refine own_iconst X429h hx 128 (1 : Int32) (hb hby at_127) rfl ?_
          refine own_goto X429h hx 132 (hb hby at_128) ?_
          exact own_retNW (t := .boolean) (Q := own_Q0 Z cs S_cs hcs sf S_sf hsf v0 v1 v2 v3 v4 h0 n0) X429h hS421 (Nat.le_refl _) hx hrt (by simp) (hb hby at_132) hlk eh429 ⟨rfl, N429h⟩ (by decide) (by decide)
        · refine own_icmpYes X421wh hx 133 (hb hby at_114) (feq hc114_427).2 ?_
          refine own_iload X421wh hx 135 (hb hby at_133) rfl ?_
          refine own_iconst X421wh hx 136 (3 : Int32) (hb hby at_135) rfl ?_
          by_cases hc136_431 : (v4 &&& (3 : Int32)) = (3 : Int32)
          · refine own_icmpNo X421wh hx 139 (hb hby at_136) (teq hc136_431).2 ?_
            refine own_aload X421wh hx 141 (hb hby at_139) rfl rfl ?_
            refine own_aload X421wh hx 143 (hb hby at_141) rfl rfl ?_
            have f432 := ((G389_0.ext E392).keep Kp421)
            have f433 := ((G389_1.ext E392).keep Kp421 (ninS ne409 nin0))
            have f434 := ((G389_2.ext E392).keep Kp421 (ninS ne409 nin0))
            have f435 := ((f393.ext E392).keep Kp421)
            have f436 := ((f397.ext E392).keep Kp421)
            obtain ⟨cq437, kq437, q437a, q437b, q437c⟩ := isOf hZ rfl f432
            obtain ⟨_, _, ⟨T437, Lx437, kc437, nc437⟩, -, X437, ⟨Lc437, hQ437, lq437, yq437, zq437⟩, st437⟩ := X421wh.virtualBack hx (y := (⟨"com/example/fates/fates/Key", "equals", "(Ljava/lang/Object;)Z"⟩ : MethodName)) (z := (⟨"com/example/fates/fates/Key", "equals", "(Ljava/lang/Object;)Z"⟩ : MethodName)) hown (mvT hZ (hw _ (List.mem_of_getElem? (i := 101) rfl))) (mvT hZ (hw _ (List.mem_of_getElem? (i := 102) rfl))) (notFace_of_selects (args := #[]) (mvT hZ (hw _ (List.mem_of_getElem? (i := 104) rfl)))) (mvT hZ (hw _ (List.mem_of_getElem? (i := 104) rfl))) (mvT hZ (hw _ (List.mem_of_getElem? (i := 103) rfl))) (by decide) (backOf (W := 0) (own_rm21s l Z a0 hw [] b364 so_322 so_325 T421.heap n0 Z423 f432 f433 f434 f435 f436) hZ (hw _ (List.mem_of_getElem? (i := 105) rfl)) (hw _ (List.mem_of_getElem? (i := 36) rfl)) (by decide) (by decide)) q437a q437c (g := (mkF m 143 #[.val (.int v0), .val (.int v1), .val (.int v2), .val (.int v3), .val (.int v4), .val (.int v0), .val (.int v3), .val (.ref so_322), .val (.ref so_325), .val (.ref so_332), .val (.ref so_345), .val (.ref b364), .val (.ref b392), .val (.int (v4 &&& (3 : Int32))), .unset] [(.ref b364), (.ref b364)])) rfl (by rw [hml]; rfl) (Steps.refl _) (argsL := [(.ref b364)]) (rest := []) (lenOf own_pd15 rfl) rfl (by show 2 * 0 + _ ≤ _; exact Nat.le_of_eq rfl) (hb hby at_143) (fun _ _ => ⟨rfl, rfl, (by decide : 22 + 0 ≤ _), (by decide : 124 + 0 ≤ _)⟩)
            dsimp only [Pt.U, Pt.locs, Pt.cells, Pt.slots] at X437 lq437 yq437 zq437 st437 hQ437
            subst lq437 yq437 zq437
            obtain ⟨rfl, Nq437, eh437⟩ := hQ437
            have N437 := Fr.app N421wh Nq437
            refine own_st (G' := T437.setTop (mkF m 146 #[.val (.int v0), .val (.int v1), .val (.int v2), .val (.int v3), .val (.int v4), .val (.int v0), .val (.int v3), .val (.ref so_322), .val (.ref so_325), .val (.ref so_332), .val (.ref so_345), .val (.ref b364), .val (.ref b392), .val (.int (v4 &&& (3 : Int32))), .unset] [(.int (1 : Int32))])) (fun t k => st437.trans k) ?_
            obtain ⟨_, X437h, N437h⟩ := own_hide X437 N437
            exact own_retNW (t := .boolean) (Q := own_Q0 Z cs S_cs hcs sf S_sf hsf v0 v1 v2 v3 v4 h0 n0) X437h hS421 (Nat.le_refl _) hx hrt (by simp) (hb hby at_146) hlk eh437 ⟨rfl, N437h⟩ (by decide) (by decide)
          · refine own_icmpYes X421wh hx 147 (hb hby at_136) (feq hc136_431).2 ?_
            refine own_aload X421wh hx 149 (hb hby at_147) rfl rfl ?_
            refine own_aload X421wh hx 151 (hb hby at_149) rfl rfl ?_
            have f438 := ((f393.ext E392).keep Kp421)
            have f439 := (((f382.keep Kp389 (ninS ne366 nin0)).ext E392).keep Kp421 (ninS ne394 nin0))
            have f440 := (((f383.keep Kp389 (ninS ne366 nin0)).ext E392).keep Kp421 (ninS ne394 nin0))
            have f441 := ((f395.ext E392).keep Kp421 (ninS ne396 nin0))
            have f442 := (f413.keep Kp421)
            have f443 := (f414.keep Kp421 (ninS ne402 nin0))
            have f444 := (f415.keep Kp421 (ninS ne402 nin0))
            have f445 := (f416.keep Kp421 (ninS ne404 nin0))
            obtain ⟨_, _, ⟨T446, Lx446, kc446, nc446⟩, -, X446, ⟨Lc446, hQ446, lq446, yq446, zq446⟩, st446⟩ := Jvm.LawKit.callS X421wh hx (y := (⟨"com/example/fates/fates/KeyEqualsPinLaw", "same", "(Ljava/lang/String;Ljava/lang/String;)Z"⟩ : MethodName)) hown (mvT hZ (hw _ (List.mem_of_getElem? (i := 75) rfl))) (mvT hZ (hw _ (List.mem_of_getElem? (i := 76) rfl))) (mvT hZ (hw _ (List.mem_of_getElem? (i := 2) rfl))) (mvT hZ (hw _ (List.mem_of_getElem? (i := 77) rfl))) (by decide) (backOf (W := 0) (own_rm15 l Z a0 hw [] cs S_cs hcs sf S_sf hsf so_322 so_332 b_322 kb_322 n_322 x_322 y_322 b_332 kb_332 n_332 x_332 y_332 T421.heap n0 Z423 f438 f439 f440 f441 f442 f443 f444 f445 O422 (P322_0 : own_N n_322) (P332_0 : own_N n_332) (P322_1 : own_B x_322 ∧ own_B y_322) (P332_1 : own_B x_332 ∧ own_B y_332)) hZ (hw _ (List.mem_of_getElem? (i := 77) rfl)) (hw _ (List.mem_of_getElem? (i := 2) rfl)) (by decide) (by decide)) (g := (mkF m 151 #[.val (.int v0), .val (.int v1), .val (.int v2), .val (.int v3), .val (.int v4), .val (.int v0), .val (.int v3), .val (.ref so_322), .val (.ref so_325), .val (.ref so_332), .val (.ref so_345), .val (.ref b364), .val (.ref b392), .val (.int (v4 &&& (3 : Int32))), .unset] [(.ref so_332), (.ref so_322)])) rfl (by rw [hml]; rfl) (argsL := [(.ref so_322), (.ref so_332)]) (rest := []) (lenOf own_pd18 rfl) rfl (by show 2 * 0 + _ ≤ _; exact Nat.le_of_eq rfl) (hb hby at_151) (fun _ _ => ⟨rfl, rfl, (by decide : 22 + 0 ≤ _), (by decide : 124 + 0 ≤ _)⟩)
            dsimp only [Pt.U, Pt.locs, Pt.cells, Pt.slots] at X446 lq446 yq446 zq446 st446 hQ446
            subst lq446 yq446 zq446
            obtain ⟨rfl, Nq446, eh446⟩ := hQ446
            have N446 := Fr.app N421wh Nq446
            refine own_st (G' := T446.setTop (mkF m 154 #[.val (.int v0), .val (.int v1), .val (.int v2), .val (.int v3), .val (.int v4), .val (.int v0), .val (.int v3), .val (.ref so_322), .val (.ref so_325), .val (.ref so_332), .val (.ref so_345), .val (.ref b364), .val (.ref b392), .val (.int (v4 &&& (3 : Int32))), .unset] [(.int (own_eqB n_322 x_322 y_322 n_332 x_332 y_332))])) st446 ?_
            obtain ⟨_, X446h, N446h⟩ := own_hide X446 N446
            by_cases hc154_447 : (own_eqB n_322 x_322 y_322 n_332 x_332 y_332) = (0 : Int32)
            · refine own_ifYes X446h hx 171 (hb hby at_154) (teq hc154_447).1 ?_
              refine own_iconst X446h hx 172 (0 : Int32) (hb hby at_171) rfl ?_
              refine own_istore X446h hx 174 #[.val (.int v0), .val (.int v1), .val (.int v2), .val (.int v3), .val (.int v4), .val (.int v0), .val (.int v3), .val (.ref so_322), .val (.ref so_325), .val (.ref so_332), .val (.ref so_345), .val (.ref b364), .val (.ref b392), .val (.int (v4 &&& (3 : Int32))), .val (.int (0 : Int32))] (hb hby at_172) rfl ?_
              refine own_aload X446h hx 176 (hb hby at_174) rfl rfl ?_
              refine own_aload X446h hx 178 (hb hby at_176) rfl rfl ?_
              have f448 := ((G389_0.ext E392).keep Kp421)
              have f449 := ((G389_1.ext E392).keep Kp421 (ninS ne409 nin0))
              have f450 := ((G389_2.ext E392).keep Kp421 (ninS ne409 nin0))
              have f451 := ((f397.ext E392).keep Kp421)
              have f452 := (((f386.keep Kp389 (ninS ne370 nin0)).ext E392).keep Kp421 (ninS ne398 nin0))
              have f453 := (((f387.keep Kp389 (ninS ne370 nin0)).ext E392).keep Kp421 (ninS ne398 nin0))
              have f454 := ((f399.ext E392).keep Kp421 (ninS ne400 nin0))
              have f455 := (f417.keep Kp421)
              have f456 := (f418.keep Kp421 (ninS ne406 nin0))
              have f457 := (f419.keep Kp421 (ninS ne406 nin0))
              have f458 := (f420.keep Kp421 (ninS ne408 nin0))
              obtain ⟨cq459, kq459, q459a, q459b, q459c⟩ := isOf hZ eh446 f448
              obtain ⟨_, _, ⟨T459, Lx459, kc459, nc459⟩, -, X459, ⟨Lc459, hQ459, lq459, yq459, zq459⟩, st459⟩ := X446h.virtualBack hx (y := (⟨"com/example/fates/fates/Key", "equals", "(Ljava/lang/Object;)Z"⟩ : MethodName)) (z := (⟨"com/example/fates/fates/Key", "equals", "(Ljava/lang/Object;)Z"⟩ : MethodName)) hown (mvT hZ (hw _ (List.mem_of_getElem? (i := 101) rfl))) (mvT hZ (hw _ (List.mem_of_getElem? (i := 102) rfl))) (notFace_of_selects (args := #[]) (mvT hZ (hw _ (List.mem_of_getElem? (i := 104) rfl)))) (mvT hZ (hw _ (List.mem_of_getElem? (i := 104) rfl))) (mvT hZ (hw _ (List.mem_of_getElem? (i := 103) rfl))) (by decide) (backOf (W := 0) (own_rm21d l Z a0 hw [] cs S_cs hcs sf S_sf hsf b364 b392 so_322 so_325 so_332 so_345 b_322 kb_322 n_322 x_322 y_322 b_332 kb_332 n_332 x_332 y_332 b_325 kb_325 n_325 x_325 y_325 b_345 kb_345 n_345 x_345 y_345 T421.heap n0 Z423 f448 f449 f450 G421_0 G421_1 G421_2 f438 f439 f440 f441 f442 f443 f444 f445 f451 f452 f453 f454 f455 f456 f457 f458 O422 ne334 ne351 (P322_0 : own_N n_322) (P332_0 : own_N n_332) (P325_0 : own_N n_325) (P345_0 : own_N n_345)) hZ (hw _ (List.mem_of_getElem? (i := 105) rfl)) (hw _ (List.mem_of_getElem? (i := 36) rfl)) (by decide) (by decide)) q459a q459c (g := (mkF m 178 #[.val (.int v0), .val (.int v1), .val (.int v2), .val (.int v3), .val (.int v4), .val (.int v0), .val (.int v3), .val (.ref so_322), .val (.ref so_325), .val (.ref so_332), .val (.ref so_345), .val (.ref b364), .val (.ref b392), .val (.int (v4 &&& (3 : Int32))), .val (.int (0 : Int32))] [(.ref b392), (.ref b364)])) rfl (by rw [hml]; rfl) (Steps.refl _) (argsL := [(.ref b392)]) (rest := []) (lenOf own_pd15 rfl) rfl (by show 2 * 0 + _ ≤ _; exact Nat.le_of_eq rfl) (hb hby at_178) (fun _ _ => ⟨rfl, eh446, (by decide : 22 + 0 ≤ _), (by decide : 124 + 0 ≤ _)⟩)
              dsimp only [Pt.U, Pt.locs, Pt.cells, Pt.slots] at X459 lq459 yq459 zq459 st459 hQ459
              subst lq459 yq459 zq459
              obtain ⟨rfl, Nq459, eh459⟩ := hQ459
              have N459 := Fr.app N446h Nq459
              refine own_st (G' := T459.setTop (mkF m 181 #[.val (.int v0), .val (.int v1), .val (.int v2), .val (.int v3), .val (.int v4), .val (.int v0), .val (.int v3), .val (.ref so_322), .val (.ref so_325), .val (.ref so_332), .val (.ref so_345), .val (.ref b364), .val (.ref b392), .val (.int (v4 &&& (3 : Int32))), .val (.int (0 : Int32))] [(.int (own_keq (own_eqB n_322 x_322 y_322 n_332 x_332 y_332) (own_eqB n_325 x_325 y_325 n_345 x_345 y_345)))])) (fun t k => st459.trans k) ?_
              obtain ⟨_, X459h, N459h⟩ := own_hide X459 N459
              refine own_iload X459h hx 183 (hb hby at_181) rfl ?_
              refine own_icmpNo X459h hx 186 (hb hby at_183) (teq (by simp [own_keq, hc154_447] : (own_keq (own_eqB n_322 x_322 y_322 n_332 x_332 y_332) (own_eqB n_325 x_325 y_325 n_345 x_345 y_345)) = (0 : Int32))).2 ?_
              refine own_aload X459h hx 188 (hb hby at_186) rfl rfl ?_
              refine own_aload X459h hx 190 (hb hby at_188) rfl rfl ?_
              obtain ⟨cq460, kq460, q460a, q460b, q460c⟩ := isOf hZ eh459 G421_0
              obtain ⟨_, _, ⟨T460, Lx460, kc460, nc460⟩, -, X460, ⟨Lc460, hQ460, lq460, yq460, zq460⟩, st460⟩ := X459h.virtualBack hx (y := (⟨"com/example/fates/fates/Key", "equals", "(Ljava/lang/Object;)Z"⟩ : MethodName)) (z := (⟨"com/example/fates/fates/Key", "equals", "(Ljava/lang/Object;)Z"⟩ : MethodName)) hown (mvT hZ (hw _ (List.mem_of_getElem? (i := 101) rfl))) (mvT hZ (hw _ (List.mem_of_getElem? (i := 102) rfl))) (notFace_of_selects (args := #[]) (mvT hZ (hw _ (List.mem_of_getElem? (i := 104) rfl)))) (mvT hZ (hw _ (List.mem_of_getElem? (i := 104) rfl))) (mvT hZ (hw _ (List.mem_of_getElem? (i := 103) rfl))) (by decide) (backOf (W := 0) (own_rm21d l Z a0 hw [] cs S_cs hcs sf S_sf hsf b392 b364 so_332 so_345 so_322 so_325 b_332 kb_332 n_332 x_332 y_332 b_322 kb_322 n_322 x_322 y_322 b_345 kb_345 n_345 x_345 y_345 b_325 kb_325 n_325 x_325 y_325 T421.heap n0 Z423 G421_0 G421_1 G421_2 f448 f449 f450 f442 f443 f444 f445 f438 f439 f440 f441 f455 f456 f457 f458 f451 f452 f453 f454 O422 (Ne.symm ne334) (Ne.symm ne351) (P332_0 : own_N n_332) (P322_0 : own_N n_322) (P345_0 : own_N n_345) (P325_0 : own_N n_325)) hZ (hw _ (List.mem_of_getElem? (i := 105) rfl)) (hw _ (List.mem_of_getElem? (i := 36) rfl)) (by decide) (by decide)) q460a q460c (g := (mkF m 190 #[.val (.int v0), .val (.int v1), .val (.int v2), .val (.int v3), .val (.int v4), .val (.int v0), .val (.int v3), .val (.ref so_322), .val (.ref so_325), .val (.ref so_332), .val (.ref so_345), .val (.ref b364), .val (.ref b392), .val (.int (v4 &&& (3 : Int32))), .val (.int (0 : Int32))] [(.ref b364), (.ref b392)])) rfl (by rw [hml]; rfl) (Steps.refl _) (argsL := [(.ref b364)]) (rest := []) (lenOf own_pd15 rfl) rfl (by show 2 * 0 + _ ≤ _; exact Nat.le_of_eq rfl) (hb hby at_190) (fun _ _ => ⟨rfl, eh459, (by decide : 22 + 0 ≤ _), (by decide : 124 + 0 ≤ _)⟩)
              dsimp only [Pt.U, Pt.locs, Pt.cells, Pt.slots] at X460 lq460 yq460 zq460 st460 hQ460
              subst lq460 yq460 zq460
              obtain ⟨rfl, Nq460, eh460⟩ := hQ460
              have N460 := Fr.app N459h Nq460
              refine own_st (G' := T460.setTop (mkF m 193 #[.val (.int v0), .val (.int v1), .val (.int v2), .val (.int v3), .val (.int v4), .val (.int v0), .val (.int v3), .val (.ref so_322), .val (.ref so_325), .val (.ref so_332), .val (.ref so_345), .val (.ref b364), .val (.ref b392), .val (.int (v4 &&& (3 : Int32))), .val (.int (0 : Int32))] [(.int (own_keq (own_eqB n_332 x_332 y_332 n_322 x_322 y_322) (own_eqB n_345 x_345 y_345 n_325 x_325 y_325)))])) (fun t k => st460.trans k) ?_
              obtain ⟨_, X460h, N460h⟩ := own_hide X460 N460
              refine own_iload X460h hx 195 (hb hby at_193) rfl ?_
              refine own_icmpNo X460h hx 198 (hb hby at_195) (teq (by rw [own_eqs n_332 x_332 y_332 n_322 x_322 y_322, own_eqs n_345 x_345 y_345 n_325 x_325 y_325]; simp [own_keq, hc154_447] : (own_keq (own_eqB n_332 x_332 y_332 n_322 x_322 y_322) (own_eqB n_345 x_345 y_345 n_325 x_325 y_325)) = (0 : Int32))).2 ?_
              refine own_iconst X460h hx 199 (1 : Int32) (hb hby at_198) rfl ?_
              refine own_goto X460h hx 203 (hb hby at_199) ?_
              exact own_retNW (t := .boolean) (Q := own_Q0 Z cs S_cs hcs sf S_sf hsf v0 v1 v2 v3 v4 h0 n0) X460h hS421 (Nat.le_refl _) hx hrt (by simp) (hb hby at_203) hlk eh460 ⟨rfl, N460h⟩ (by decide) (by decide)
            · refine own_ifNo X446h hx 157 (hb hby at_154) (feq hc154_447).1 ?_
              refine own_aload X446h hx 159 (hb hby at_157) rfl rfl ?_
              refine own_aload X446h hx 161 (hb hby at_159) rfl rfl ?_
              have f461 := ((f397.ext E392).keep Kp421)
              have f462 := (((f386.keep Kp389 (ninS ne370 nin0)).ext E392).keep Kp421 (ninS ne398 nin0))
              have f463 := (((f387.keep Kp389 (ninS ne370 nin0)).ext E392).keep Kp421 (ninS ne398 nin0))
              have f464 := ((f399.ext E392).keep Kp421 (ninS ne400 nin0))
              have f465 := (f417.keep Kp421)
              have f466 := (f418.keep Kp421 (ninS ne406 nin0))
              have f467 := (f419.keep Kp421 (ninS ne406 nin0))
              have f468 := (f420.keep Kp421 (ninS ne408 nin0))
              obtain ⟨_, _, ⟨T469, Lx469, kc469, nc469⟩, -, X469, ⟨Lc469, hQ469, lq469, yq469, zq469⟩, st469⟩ := Jvm.LawKit.callS X446h hx (y := (⟨"com/example/fates/fates/KeyEqualsPinLaw", "same", "(Ljava/lang/String;Ljava/lang/String;)Z"⟩ : MethodName)) hown (mvT hZ (hw _ (List.mem_of_getElem? (i := 75) rfl))) (mvT hZ (hw _ (List.mem_of_getElem? (i := 76) rfl))) (mvT hZ (hw _ (List.mem_of_getElem? (i := 2) rfl))) (mvT hZ (hw _ (List.mem_of_getElem? (i := 77) rfl))) (by decide) (backOf (W := 0) (own_rm15 l Z a0 hw [] cs S_cs hcs sf S_sf hsf so_325 so_345 b_325 kb_325 n_325 x_325 y_325 b_345 kb_345 n_345 x_345 y_345 T421.heap n0 Z423 f461 f462 f463 f464 f465 f466 f467 f468 O422 (P325_0 : own_N n_325) (P345_0 : own_N n_345) (P325_1 : own_B x_325 ∧ own_B y_325) (P345_1 : own_B x_345 ∧ own_B y_345)) hZ (hw _ (List.mem_of_getElem? (i := 77) rfl)) (hw _ (List.mem_of_getElem? (i := 2) rfl)) (by decide) (by decide)) (g := (mkF m 161 #[.val (.int v0), .val (.int v1), .val (.int v2), .val (.int v3), .val (.int v4), .val (.int v0), .val (.int v3), .val (.ref so_322), .val (.ref so_325), .val (.ref so_332), .val (.ref so_345), .val (.ref b364), .val (.ref b392), .val (.int (v4 &&& (3 : Int32))), .unset] [(.ref so_345), (.ref so_325)])) rfl (by rw [hml]; rfl) (argsL := [(.ref so_325), (.ref so_345)]) (rest := []) (lenOf own_pd18 rfl) rfl (by show 2 * 0 + _ ≤ _; exact Nat.le_of_eq rfl) (hb hby at_161) (fun _ _ => ⟨rfl, eh446, (by decide : 22 + 0 ≤ _), (by decide : 124 + 0 ≤ _)⟩)
              dsimp only [Pt.U, Pt.locs, Pt.cells, Pt.slots] at X469 lq469 yq469 zq469 st469 hQ469
              subst lq469 yq469 zq469
              obtain ⟨rfl, Nq469, eh469⟩ := hQ469
              have N469 := Fr.app N446h Nq469
              refine own_st (G' := T469.setTop (mkF m 164 #[.val (.int v0), .val (.int v1), .val (.int v2), .val (.int v3), .val (.int v4), .val (.int v0), .val (.int v3), .val (.ref so_322), .val (.ref so_325), .val (.ref so_332), .val (.ref so_345), .val (.ref b364), .val (.ref b392), .val (.int (v4 &&& (3 : Int32))), .unset] [(.int (own_eqB n_325 x_325 y_325 n_345 x_345 y_345))])) st469 ?_
              obtain ⟨_, X469h, N469h⟩ := own_hide X469 N469
              by_cases hc164_470 : (own_eqB n_325 x_325 y_325 n_345 x_345 y_345) = (0 : Int32)
              · refine own_ifYes X469h hx 171 (hb hby at_164) (teq hc164_470).1 ?_
                refine own_iconst X469h hx 172 (0 : Int32) (hb hby at_171) rfl ?_
                refine own_istore X469h hx 174 #[.val (.int v0), .val (.int v1), .val (.int v2), .val (.int v3), .val (.int v4), .val (.int v0), .val (.int v3), .val (.ref so_322), .val (.ref so_325), .val (.ref so_332), .val (.ref so_345), .val (.ref b364), .val (.ref b392), .val (.int (v4 &&& (3 : Int32))), .val (.int (0 : Int32))] (hb hby at_172) rfl ?_
                refine own_aload X469h hx 176 (hb hby at_174) rfl rfl ?_
                refine own_aload X469h hx 178 (hb hby at_176) rfl rfl ?_
                have f471 := ((G389_0.ext E392).keep Kp421)
                have f472 := ((G389_1.ext E392).keep Kp421 (ninS ne409 nin0))
                have f473 := ((G389_2.ext E392).keep Kp421 (ninS ne409 nin0))
                obtain ⟨cq474, kq474, q474a, q474b, q474c⟩ := isOf hZ eh469 f471
                obtain ⟨_, _, ⟨T474, Lx474, kc474, nc474⟩, -, X474, ⟨Lc474, hQ474, lq474, yq474, zq474⟩, st474⟩ := X469h.virtualBack hx (y := (⟨"com/example/fates/fates/Key", "equals", "(Ljava/lang/Object;)Z"⟩ : MethodName)) (z := (⟨"com/example/fates/fates/Key", "equals", "(Ljava/lang/Object;)Z"⟩ : MethodName)) hown (mvT hZ (hw _ (List.mem_of_getElem? (i := 101) rfl))) (mvT hZ (hw _ (List.mem_of_getElem? (i := 102) rfl))) (notFace_of_selects (args := #[]) (mvT hZ (hw _ (List.mem_of_getElem? (i := 104) rfl)))) (mvT hZ (hw _ (List.mem_of_getElem? (i := 104) rfl))) (mvT hZ (hw _ (List.mem_of_getElem? (i := 103) rfl))) (by decide) (backOf (W := 0) (own_rm21d l Z a0 hw [] cs S_cs hcs sf S_sf hsf b364 b392 so_322 so_325 so_332 so_345 b_322 kb_322 n_322 x_322 y_322 b_332 kb_332 n_332 x_332 y_332 b_325 kb_325 n_325 x_325 y_325 b_345 kb_345 n_345 x_345 y_345 T421.heap n0 Z423 f471 f472 f473 G421_0 G421_1 G421_2 f438 f439 f440 f441 f442 f443 f444 f445 f461 f462 f463 f464 f465 f466 f467 f468 O422 ne334 ne351 (P322_0 : own_N n_322) (P332_0 : own_N n_332) (P325_0 : own_N n_325) (P345_0 : own_N n_345)) hZ (hw _ (List.mem_of_getElem? (i := 105) rfl)) (hw _ (List.mem_of_getElem? (i := 36) rfl)) (by decide) (by decide)) q474a q474c (g := (mkF m 178 #[.val (.int v0), .val (.int v1), .val (.int v2), .val (.int v3), .val (.int v4), .val (.int v0), .val (.int v3), .val (.ref so_322), .val (.ref so_325), .val (.ref so_332), .val (.ref so_345), .val (.ref b364), .val (.ref b392), .val (.int (v4 &&& (3 : Int32))), .val (.int (0 : Int32))] [(.ref b392), (.ref b364)])) rfl (by rw [hml]; rfl) (Steps.refl _) (argsL := [(.ref b392)]) (rest := []) (lenOf own_pd15 rfl) rfl (by show 2 * 0 + _ ≤ _; exact Nat.le_of_eq rfl) (hb hby at_178) (fun _ _ => ⟨rfl, eh469, (by decide : 22 + 0 ≤ _), (by decide : 124 + 0 ≤ _)⟩)
                dsimp only [Pt.U, Pt.locs, Pt.cells, Pt.slots] at X474 lq474 yq474 zq474 st474 hQ474
                subst lq474 yq474 zq474
                obtain ⟨rfl, Nq474, eh474⟩ := hQ474
                have N474 := Fr.app N469h Nq474
                refine own_st (G' := T474.setTop (mkF m 181 #[.val (.int v0), .val (.int v1), .val (.int v2), .val (.int v3), .val (.int v4), .val (.int v0), .val (.int v3), .val (.ref so_322), .val (.ref so_325), .val (.ref so_332), .val (.ref so_345), .val (.ref b364), .val (.ref b392), .val (.int (v4 &&& (3 : Int32))), .val (.int (0 : Int32))] [(.int (own_keq (own_eqB n_322 x_322 y_322 n_332 x_332 y_332) (own_eqB n_325 x_325 y_325 n_345 x_345 y_345)))])) (fun t k => st474.trans k) ?_
                obtain ⟨_, X474h, N474h⟩ := own_hide X474 N474
                refine own_iload X474h hx 183 (hb hby at_181) rfl ?_
                refine own_icmpNo X474h hx 186 (hb hby at_183) (teq (by simp [own_keq, hc154_447, hc164_470] : (own_keq (own_eqB n_322 x_322 y_322 n_332 x_332 y_332) (own_eqB n_325 x_325 y_325 n_345 x_345 y_345)) = (0 : Int32))).2 ?_
                refine own_aload X474h hx 188 (hb hby at_186) rfl rfl ?_
                refine own_aload X474h hx 190 (hb hby at_188) rfl rfl ?_
                obtain ⟨cq475, kq475, q475a, q475b, q475c⟩ := isOf hZ eh474 G421_0
                obtain ⟨_, _, ⟨T475, Lx475, kc475, nc475⟩, -, X475, ⟨Lc475, hQ475, lq475, yq475, zq475⟩, st475⟩ := X474h.virtualBack hx (y := (⟨"com/example/fates/fates/Key", "equals", "(Ljava/lang/Object;)Z"⟩ : MethodName)) (z := (⟨"com/example/fates/fates/Key", "equals", "(Ljava/lang/Object;)Z"⟩ : MethodName)) hown (mvT hZ (hw _ (List.mem_of_getElem? (i := 101) rfl))) (mvT hZ (hw _ (List.mem_of_getElem? (i := 102) rfl))) (notFace_of_selects (args := #[]) (mvT hZ (hw _ (List.mem_of_getElem? (i := 104) rfl)))) (mvT hZ (hw _ (List.mem_of_getElem? (i := 104) rfl))) (mvT hZ (hw _ (List.mem_of_getElem? (i := 103) rfl))) (by decide) (backOf (W := 0) (own_rm21d l Z a0 hw [] cs S_cs hcs sf S_sf hsf b392 b364 so_332 so_345 so_322 so_325 b_332 kb_332 n_332 x_332 y_332 b_322 kb_322 n_322 x_322 y_322 b_345 kb_345 n_345 x_345 y_345 b_325 kb_325 n_325 x_325 y_325 T421.heap n0 Z423 G421_0 G421_1 G421_2 f471 f472 f473 f442 f443 f444 f445 f438 f439 f440 f441 f465 f466 f467 f468 f461 f462 f463 f464 O422 (Ne.symm ne334) (Ne.symm ne351) (P332_0 : own_N n_332) (P322_0 : own_N n_322) (P345_0 : own_N n_345) (P325_0 : own_N n_325)) hZ (hw _ (List.mem_of_getElem? (i := 105) rfl)) (hw _ (List.mem_of_getElem? (i := 36) rfl)) (by decide) (by decide)) q475a q475c (g := (mkF m 190 #[.val (.int v0), .val (.int v1), .val (.int v2), .val (.int v3), .val (.int v4), .val (.int v0), .val (.int v3), .val (.ref so_322), .val (.ref so_325), .val (.ref so_332), .val (.ref so_345), .val (.ref b364), .val (.ref b392), .val (.int (v4 &&& (3 : Int32))), .val (.int (0 : Int32))] [(.ref b364), (.ref b392)])) rfl (by rw [hml]; rfl) (Steps.refl _) (argsL := [(.ref b364)]) (rest := []) (lenOf own_pd15 rfl) rfl (by show 2 * 0 + _ ≤ _; exact Nat.le_of_eq rfl) (hb hby at_190) (fun _ _ => ⟨rfl, eh474, (by decide : 22 + 0 ≤ _), (by decide : 124 + 0 ≤ _)⟩)
                dsimp only [Pt.U, Pt.locs, Pt.cells, Pt.slots] at X475 lq475 yq475 zq475 st475 hQ475
                subst lq475 yq475 zq475
                obtain ⟨rfl, Nq475, eh475⟩ := hQ475
                have N475 := Fr.app N474h Nq475
                refine own_st (G' := T475.setTop (mkF m 193 #[.val (.int v0), .val (.int v1), .val (.int v2), .val (.int v3), .val (.int v4), .val (.int v0), .val (.int v3), .val (.ref so_322), .val (.ref so_325), .val (.ref so_332), .val (.ref so_345), .val (.ref b364), .val (.ref b392), .val (.int (v4 &&& (3 : Int32))), .val (.int (0 : Int32))] [(.int (own_keq (own_eqB n_332 x_332 y_332 n_322 x_322 y_322) (own_eqB n_345 x_345 y_345 n_325 x_325 y_325)))])) (fun t k => st475.trans k) ?_
                obtain ⟨_, X475h, N475h⟩ := own_hide X475 N475
                refine own_iload X475h hx 195 (hb hby at_193) rfl ?_
                refine own_icmpNo X475h hx 198 (hb hby at_195) (teq (by rw [own_eqs n_332 x_332 y_332 n_322 x_322 y_322, own_eqs n_345 x_345 y_345 n_325 x_325 y_325]; simp [own_keq, hc154_447, hc164_470] : (own_keq (own_eqB n_332 x_332 y_332 n_322 x_322 y_322) (own_eqB n_345 x_345 y_345 n_325 x_325 y_325)) = (0 : Int32))).2 ?_
                refine own_iconst X475h hx 199 (1 : Int32) (hb hby at_198) rfl ?_
                refine own_goto X475h hx 203 (hb hby at_199) ?_
                exact own_retNW (t := .boolean) (Q := own_Q0 Z cs S_cs hcs sf S_sf hsf v0 v1 v2 v3 v4 h0 n0) X475h hS421 (Nat.le_refl _) hx hrt (by simp) (hb hby at_203) hlk eh475 ⟨rfl, N475h⟩ (by decide) (by decide)
              · refine own_ifNo X469h hx 167 (hb hby at_164) (feq hc164_470).1 ?_
                refine own_iconst X469h hx 168 (1 : Int32) (hb hby at_167) rfl ?_
                refine own_goto X469h hx 172 (hb hby at_168) ?_
                refine own_istore X469h hx 174 #[.val (.int v0), .val (.int v1), .val (.int v2), .val (.int v3), .val (.int v4), .val (.int v0), .val (.int v3), .val (.ref so_322), .val (.ref so_325), .val (.ref so_332), .val (.ref so_345), .val (.ref b364), .val (.ref b392), .val (.int (v4 &&& (3 : Int32))), .val (.int (1 : Int32))] (hb hby at_172) rfl ?_
                refine own_aload X469h hx 176 (hb hby at_174) rfl rfl ?_
                refine own_aload X469h hx 178 (hb hby at_176) rfl rfl ?_
                have f476 := ((G389_0.ext E392).keep Kp421)
                have f477 := ((G389_1.ext E392).keep Kp421 (ninS ne409 nin0))
                have f478 := ((G389_2.ext E392).keep Kp421 (ninS ne409 nin0))
                obtain ⟨cq479, kq479, q479a, q479b, q479c⟩ := isOf hZ eh469 f476
                obtain ⟨_, _, ⟨T479, Lx479, kc479, nc479⟩, -, X479, ⟨Lc479, hQ479, lq479, yq479, zq479⟩, st479⟩ := X469h.virtualBack hx (y := (⟨"com/example/fates/fates/Key", "equals", "(Ljava/lang/Object;)Z"⟩ : MethodName)) (z := (⟨"com/example/fates/fates/Key", "equals", "(Ljava/lang/Object;)Z"⟩ : MethodName)) hown (mvT hZ (hw _ (List.mem_of_getElem? (i := 101) rfl))) (mvT hZ (hw _ (List.mem_of_getElem? (i := 102) rfl))) (notFace_of_selects (args := #[]) (mvT hZ (hw _ (List.mem_of_getElem? (i := 104) rfl)))) (mvT hZ (hw _ (List.mem_of_getElem? (i := 104) rfl))) (mvT hZ (hw _ (List.mem_of_getElem? (i := 103) rfl))) (by decide) (backOf (W := 0) (own_rm21d l Z a0 hw [] cs S_cs hcs sf S_sf hsf b364 b392 so_322 so_325 so_332 so_345 b_322 kb_322 n_322 x_322 y_322 b_332 kb_332 n_332 x_332 y_332 b_325 kb_325 n_325 x_325 y_325 b_345 kb_345 n_345 x_345 y_345 T421.heap n0 Z423 f476 f477 f478 G421_0 G421_1 G421_2 f438 f439 f440 f441 f442 f443 f444 f445 f461 f462 f463 f464 f465 f466 f467 f468 O422 ne334 ne351 (P322_0 : own_N n_322) (P332_0 : own_N n_332) (P325_0 : own_N n_325) (P345_0 : own_N n_345)) hZ (hw _ (List.mem_of_getElem? (i := 105) rfl)) (hw _ (List.mem_of_getElem? (i := 36) rfl)) (by decide) (by decide)) q479a q479c (g := (mkF m 178 #[.val (.int v0), .val (.int v1), .val (.int v2), .val (.int v3), .val (.int v4), .val (.int v0), .val (.int v3), .val (.ref so_322), .val (.ref so_325), .val (.ref so_332), .val (.ref so_345), .val (.ref b364), .val (.ref b392), .val (.int (v4 &&& (3 : Int32))), .val (.int (1 : Int32))] [(.ref b392), (.ref b364)])) rfl (by rw [hml]; rfl) (Steps.refl _) (argsL := [(.ref b392)]) (rest := []) (lenOf own_pd15 rfl) rfl (by show 2 * 0 + _ ≤ _; exact Nat.le_of_eq rfl) (hb hby at_178) (fun _ _ => ⟨rfl, eh469, (by decide : 22 + 0 ≤ _), (by decide : 124 + 0 ≤ _)⟩)
                dsimp only [Pt.U, Pt.locs, Pt.cells, Pt.slots] at X479 lq479 yq479 zq479 st479 hQ479
                subst lq479 yq479 zq479
                obtain ⟨rfl, Nq479, eh479⟩ := hQ479
                have N479 := Fr.app N469h Nq479
                refine own_st (G' := T479.setTop (mkF m 181 #[.val (.int v0), .val (.int v1), .val (.int v2), .val (.int v3), .val (.int v4), .val (.int v0), .val (.int v3), .val (.ref so_322), .val (.ref so_325), .val (.ref so_332), .val (.ref so_345), .val (.ref b364), .val (.ref b392), .val (.int (v4 &&& (3 : Int32))), .val (.int (1 : Int32))] [(.int (own_keq (own_eqB n_322 x_322 y_322 n_332 x_332 y_332) (own_eqB n_325 x_325 y_325 n_345 x_345 y_345)))])) (fun t k => st479.trans k) ?_
                obtain ⟨_, X479h, N479h⟩ := own_hide X479 N479
                refine own_iload X479h hx 183 (hb hby at_181) rfl ?_
                refine own_icmpNo X479h hx 186 (hb hby at_183) (teq (by simp [own_keq, hc154_447, hc164_470] : (own_keq (own_eqB n_322 x_322 y_322 n_332 x_332 y_332) (own_eqB n_325 x_325 y_325 n_345 x_345 y_345)) = (1 : Int32))).2 ?_
                refine own_aload X479h hx 188 (hb hby at_186) rfl rfl ?_
                refine own_aload X479h hx 190 (hb hby at_188) rfl rfl ?_
                obtain ⟨cq480, kq480, q480a, q480b, q480c⟩ := isOf hZ eh479 G421_0
                obtain ⟨_, _, ⟨T480, Lx480, kc480, nc480⟩, -, X480, ⟨Lc480, hQ480, lq480, yq480, zq480⟩, st480⟩ := X479h.virtualBack hx (y := (⟨"com/example/fates/fates/Key", "equals", "(Ljava/lang/Object;)Z"⟩ : MethodName)) (z := (⟨"com/example/fates/fates/Key", "equals", "(Ljava/lang/Object;)Z"⟩ : MethodName)) hown (mvT hZ (hw _ (List.mem_of_getElem? (i := 101) rfl))) (mvT hZ (hw _ (List.mem_of_getElem? (i := 102) rfl))) (notFace_of_selects (args := #[]) (mvT hZ (hw _ (List.mem_of_getElem? (i := 104) rfl)))) (mvT hZ (hw _ (List.mem_of_getElem? (i := 104) rfl))) (mvT hZ (hw _ (List.mem_of_getElem? (i := 103) rfl))) (by decide) (backOf (W := 0) (own_rm21d l Z a0 hw [] cs S_cs hcs sf S_sf hsf b392 b364 so_332 so_345 so_322 so_325 b_332 kb_332 n_332 x_332 y_332 b_322 kb_322 n_322 x_322 y_322 b_345 kb_345 n_345 x_345 y_345 b_325 kb_325 n_325 x_325 y_325 T421.heap n0 Z423 G421_0 G421_1 G421_2 f476 f477 f478 f442 f443 f444 f445 f438 f439 f440 f441 f465 f466 f467 f468 f461 f462 f463 f464 O422 (Ne.symm ne334) (Ne.symm ne351) (P332_0 : own_N n_332) (P322_0 : own_N n_322) (P345_0 : own_N n_345) (P325_0 : own_N n_325)) hZ (hw _ (List.mem_of_getElem? (i := 105) rfl)) (hw _ (List.mem_of_getElem? (i := 36) rfl)) (by decide) (by decide)) q480a q480c (g := (mkF m 190 #[.val (.int v0), .val (.int v1), .val (.int v2), .val (.int v3), .val (.int v4), .val (.int v0), .val (.int v3), .val (.ref so_322), .val (.ref so_325), .val (.ref so_332), .val (.ref so_345), .val (.ref b364), .val (.ref b392), .val (.int (v4 &&& (3 : Int32))), .val (.int (1 : Int32))] [(.ref b364), (.ref b392)])) rfl (by rw [hml]; rfl) (Steps.refl _) (argsL := [(.ref b364)]) (rest := []) (lenOf own_pd15 rfl) rfl (by show 2 * 0 + _ ≤ _; exact Nat.le_of_eq rfl) (hb hby at_190) (fun _ _ => ⟨rfl, eh479, (by decide : 22 + 0 ≤ _), (by decide : 124 + 0 ≤ _)⟩)
                dsimp only [Pt.U, Pt.locs, Pt.cells, Pt.slots] at X480 lq480 yq480 zq480 st480 hQ480
                subst lq480 yq480 zq480
                obtain ⟨rfl, Nq480, eh480⟩ := hQ480
                have N480 := Fr.app N479h Nq480
                refine own_st (G' := T480.setTop (mkF m 193 #[.val (.int v0), .val (.int v1), .val (.int v2), .val (.int v3), .val (.int v4), .val (.int v0), .val (.int v3), .val (.ref so_322), .val (.ref so_325), .val (.ref so_332), .val (.ref so_345), .val (.ref b364), .val (.ref b392), .val (.int (v4 &&& (3 : Int32))), .val (.int (1 : Int32))] [(.int (own_keq (own_eqB n_332 x_332 y_332 n_322 x_322 y_322) (own_eqB n_345 x_345 y_345 n_325 x_325 y_325)))])) (fun t k => st480.trans k) ?_
                obtain ⟨_, X480h, N480h⟩ := own_hide X480 N480
                refine own_iload X480h hx 195 (hb hby at_193) rfl ?_
                refine own_icmpNo X480h hx 198 (hb hby at_195) (teq (by rw [own_eqs n_332 x_332 y_332 n_322 x_322 y_322, own_eqs n_345 x_345 y_345 n_325 x_325 y_325]; simp [own_keq, hc154_447, hc164_470] : (own_keq (own_eqB n_332 x_332 y_332 n_322 x_322 y_322) (own_eqB n_345 x_345 y_345 n_325 x_325 y_325)) = (1 : Int32))).2 ?_
                refine own_iconst X480h hx 199 (1 : Int32) (hb hby at_198) rfl ?_
                refine own_goto X480h hx 203 (hb hby at_199) ?_
                exact own_retNW (t := .boolean) (Q := own_Q0 Z cs S_cs hcs sf S_sf hsf v0 v1 v2 v3 v4 h0 n0) X480h hS421 (Nat.le_refl _) hx hrt (by simp) (hb hby at_203) hlk eh480 ⟨rfl, N480h⟩ (by decide) (by decide)
    · refine own_ifNo X0 hx 25 (hb hby at_22) (feq hc22_321).1 ?_
      refine own_iloadN X0 hx 26 (hb hby at_25) rfl ?_
      refine own_goto X0 hx 30 (hb hby at_26) ?_
      refine own_istore X0 hx 32 #[.val (.int v0), .val (.int v1), .val (.int v2), .val (.int v3), .val (.int v4), .val (.int v0), .val (.int v1), .unset, .unset, .unset, .unset, .unset, .unset, .unset, .unset] (hb hby at_30) rfl ?_
      refine own_iloadN X0 hx 33 (hb hby at_32) rfl ?_
      obtain ⟨_, _, ⟨T481, Lx481, kc481, nc481⟩, -, X481, ⟨Lc481, hQ481, lq481, yq481, zq481⟩, st481⟩ := Jvm.LawKit.callS X0 hx (y := (⟨"com/example/fates/fates/KeyEqualsPinLaw", "str", "(I)Ljava/lang/String;"⟩ : MethodName)) hown (mvT hZ (hw _ (List.mem_of_getElem? (i := 0) rfl))) (mvT hZ (hw _ (List.mem_of_getElem? (i := 1) rfl))) (mvT hZ (hw _ (List.mem_of_getElem? (i := 2) rfl))) (mvT hZ (hw _ (List.mem_of_getElem? (i := 3) rfl))) (by decide) (backOf (W := 0) (own_rm1 l Z a0 hw [] cs S_cs hcs sf S_sf hsf v0 h0 n0 Z0 O0) hZ (hw _ (List.mem_of_getElem? (i := 3) rfl)) (hw _ (List.mem_of_getElem? (i := 2) rfl)) (by decide) (by decide)) (g := (mkF m 33 #[.val (.int v0), .val (.int v1), .val (.int v2), .val (.int v3), .val (.int v4), .val (.int v0), .val (.int v1), .unset, .unset, .unset, .unset, .unset, .unset, .unset, .unset] [(.int v0)])) rfl (by rw [hml]; rfl) (argsL := [(.int v0)]) (rest := []) (lenOf own_pd16 rfl) rfl (by show 2 * 0 + _ ≤ _; exact Nat.le_of_eq rfl) (hb hby at_33) (fun _ _ => ⟨rfl, e0, (by decide : 0 + 3 ≤ _), (by decide : 0 + 8 ≤ _)⟩)
      dsimp only [Pt.U, Pt.locs, Pt.cells, Pt.slots] at X481 lq481 yq481 zq481 st481 hQ481
      subst lq481 yq481 zq481
      obtain ⟨so_481, b_481, kb_481, n_481, x_481, y_481, rfl, Nq481, Kp481, G481_0, G481_1, G481_2, G481_3, G481_4, G481_5, P481_0, P481_1⟩ := hQ481
      have N481 := Fr.app N0 Nq481
      have gt_so_481 : n0 ≤ so_481 := Nat.le_trans Z0 G481_0
      have gt_b_481 : n0 ≤ b_481 := Nat.le_trans Z0 G481_1
      have O482 := O0.keep Kp481 all0
      have Z483 := Nat.le_trans Z0 Kp481.1
      refine own_st (G' := T481.setTop (mkF m 36 #[.val (.int v0), .val (.int v1), .val (.int v2), .val (.int v3), .val (.int v4), .val (.int v0), .val (.int v1), .unset, .unset, .unset, .unset, .unset, .unset, .unset, .unset] [(.ref so_481)])) st481 ?_
      obtain ⟨_, X481h, N481h⟩ := own_hide X481 N481
      refine own_astore X481h hx 38 #[.val (.int v0), .val (.int v1), .val (.int v2), .val (.int v3), .val (.int v4), .val (.int v0), .val (.int v1), .val (.ref so_481), .unset, .unset, .unset, .unset, .unset, .unset, .unset] (hb hby at_36) rfl rfl ?_
      refine own_iloadN X481h hx 39 (hb hby at_38) rfl ?_
      obtain ⟨_, _, ⟨T484, Lx484, kc484, nc484⟩, -, X484, ⟨Lc484, hQ484, lq484, yq484, zq484⟩, st484⟩ := Jvm.LawKit.callS X481h hx (y := (⟨"com/example/fates/fates/KeyEqualsPinLaw", "str", "(I)Ljava/lang/String;"⟩ : MethodName)) hown (mvT hZ (hw _ (List.mem_of_getElem? (i := 0) rfl))) (mvT hZ (hw _ (List.mem_of_getElem? (i := 1) rfl))) (mvT hZ (hw _ (List.mem_of_getElem? (i := 2) rfl))) (mvT hZ (hw _ (List.mem_of_getElem? (i := 3) rfl))) (by decide) (backOf (W := 0) (own_rm1 l Z a0 hw [] cs S_cs hcs sf S_sf hsf v1 T481.heap n0 Z483 O482) hZ (hw _ (List.mem_of_getElem? (i := 3) rfl)) (hw _ (List.mem_of_getElem? (i := 2) rfl)) (by decide) (by decide)) (g := (mkF m 39 #[.val (.int v0), .val (.int v1), .val (.int v2), .val (.int v3), .val (.int v4), .val (.int v0), .val (.int v1), .val (.ref so_481), .unset, .unset, .unset, .unset, .unset, .unset, .unset] [(.int v1)])) rfl (by rw [hml]; rfl) (argsL := [(.int v1)]) (rest := []) (lenOf own_pd16 rfl) rfl (by show 2 * 0 + _ ≤ _; exact Nat.le_of_eq rfl) (hb hby at_39) (fun _ _ => ⟨rfl, rfl, (by decide : 3 + 3 ≤ _), (by decide : 8 + 8 ≤ _)⟩)
      dsimp only [Pt.U, Pt.locs, Pt.cells, Pt.slots] at X484 lq484 yq484 zq484 st484 hQ484
      subst lq484 yq484 zq484
      obtain ⟨so_484, b_484, kb_484, n_484, x_484, y_484, rfl, Nq484, Kp484, G484_0, G484_1, G484_2, G484_3, G484_4, G484_5, P484_0, P484_1⟩ := hQ484
      have N484 := Fr.app N481h Nq484
      have ne485 : so_481 ≠ so_484 := Nat.ne_of_lt (Nat.lt_of_lt_of_le G481_2.lt G484_0)
      have ne486 : b_481 ≠ so_484 := Nat.ne_of_lt (Nat.lt_of_lt_of_le G481_5.lt G484_0)
      have gt_so_484 : n0 ≤ so_484 := Nat.le_trans Z483 G484_0
      have ne487 : so_481 ≠ b_484 := Nat.ne_of_lt (Nat.lt_of_lt_of_le G481_2.lt G484_1)
      have ne488 : b_481 ≠ b_484 := Nat.ne_of_lt (Nat.lt_of_lt_of_le G481_5.lt G484_1)
      have gt_b_484 : n0 ≤ b_484 := Nat.le_trans Z483 G484_1
      have O489 := O482.keep Kp484 all0
      have Z490 := Nat.le_trans Z483 Kp484.1
      refine own_st (G' := T484.setTop (mkF m 42 #[.val (.int v0), .val (.int v1), .val (.int v2), .val (.int v3), .val (.int v4), .val (.int v0), .val (.int v1), .val (.ref so_481), .unset, .unset, .unset, .unset, .unset, .unset, .unset] [(.ref so_484)])) st484 ?_
      obtain ⟨_, X484h, N484h⟩ := own_hide X484 N484
      refine own_astore X484h hx 44 #[.val (.int v0), .val (.int v1), .val (.int v2), .val (.int v3), .val (.int v4), .val (.int v0), .val (.int v1), .val (.ref so_481), .val (.ref so_484), .unset, .unset, .unset, .unset, .unset, .unset] (hb hby at_42) rfl rfl ?_
      refine own_iload X484h hx 46 (hb hby at_44) rfl ?_
      obtain ⟨_, _, ⟨T491, Lx491, kc491, nc491⟩, -, X491, ⟨Lc491, hQ491, lq491, yq491, zq491⟩, st491⟩ := Jvm.LawKit.callS X484h hx (y := (⟨"com/example/fates/fates/KeyEqualsPinLaw", "str", "(I)Ljava/lang/String;"⟩ : MethodName)) hown (mvT hZ (hw _ (List.mem_of_getElem? (i := 0) rfl))) (mvT hZ (hw _ (List.mem_of_getElem? (i := 1) rfl))) (mvT hZ (hw _ (List.mem_of_getElem? (i := 2) rfl))) (mvT hZ (hw _ (List.mem_of_getElem? (i := 3) rfl))) (by decide) (backOf (W := 0) (own_rm1 l Z a0 hw [] cs S_cs hcs sf S_sf hsf v0 T484.heap n0 Z490 O489) hZ (hw _ (List.mem_of_getElem? (i := 3) rfl)) (hw _ (List.mem_of_getElem? (i := 2) rfl)) (by decide) (by decide)) (g := (mkF m 46 #[.val (.int v0), .val (.int v1), .val (.int v2), .val (.int v3), .val (.int v4), .val (.int v0), .val (.int v1), .val (.ref so_481), .val (.ref so_484), .unset, .unset, .unset, .unset, .unset, .unset] [(.int v0)])) rfl (by rw [hml]; rfl) (argsL := [(.int v0)]) (rest := []) (lenOf own_pd16 rfl) rfl (by show 2 * 0 + _ ≤ _; exact Nat.le_of_eq rfl) (hb hby at_46) (fun _ _ => ⟨rfl, rfl, (by decide : 6 + 3 ≤ _), (by decide : 16 + 8 ≤ _)⟩)
      dsimp only [Pt.U, Pt.locs, Pt.cells, Pt.slots] at X491 lq491 yq491 zq491 st491 hQ491
      subst lq491 yq491 zq491
      obtain ⟨so_491, b_491, kb_491, n_491, x_491, y_491, rfl, Nq491, Kp491, G491_0, G491_1, G491_2, G491_3, G491_4, G491_5, P491_0, P491_1⟩ := hQ491
      have N491 := Fr.app N484h Nq491
      have f492 := (G481_2.keep Kp484)
      have ne493 : so_481 ≠ so_491 := Nat.ne_of_lt (Nat.lt_of_lt_of_le f492.lt G491_0)
      have f494 := (G481_5.keep Kp484 nin0)
      have ne495 : b_481 ≠ so_491 := Nat.ne_of_lt (Nat.lt_of_lt_of_le f494.lt G491_0)
      have ne496 : so_484 ≠ so_491 := Nat.ne_of_lt (Nat.lt_of_lt_of_le G484_2.lt G491_0)
      have ne497 : b_484 ≠ so_491 := Nat.ne_of_lt (Nat.lt_of_lt_of_le G484_5.lt G491_0)
      have gt_so_491 : n0 ≤ so_491 := Nat.le_trans Z490 G491_0
      have ne498 : so_481 ≠ b_491 := Nat.ne_of_lt (Nat.lt_of_lt_of_le f492.lt G491_1)
      have ne499 : b_481 ≠ b_491 := Nat.ne_of_lt (Nat.lt_of_lt_of_le f494.lt G491_1)
      have ne500 : so_484 ≠ b_491 := Nat.ne_of_lt (Nat.lt_of_lt_of_le G484_2.lt G491_1)
      have ne501 : b_484 ≠ b_491 := Nat.ne_of_lt (Nat.lt_of_lt_of_le G484_5.lt G491_1)
      have gt_b_491 : n0 ≤ b_491 := Nat.le_trans Z490 G491_1
      have O502 := O489.keep Kp491 all0
      have Z503 := Nat.le_trans Z490 Kp491.1
      refine own_st (G' := T491.setTop (mkF m 49 #[.val (.int v0), .val (.int v1), .val (.int v2), .val (.int v3), .val (.int v4), .val (.int v0), .val (.int v1), .val (.ref so_481), .val (.ref so_484), .unset, .unset, .unset, .unset, .unset, .unset] [(.ref so_491)])) st491 ?_
      obtain ⟨_, X491h, N491h⟩ := own_hide X491 N491
      refine own_astore X491h hx 51 #[.val (.int v0), .val (.int v1), .val (.int v2), .val (.int v3), .val (.int v4), .val (.int v0), .val (.int v1), .val (.ref so_481), .val (.ref so_484), .val (.ref so_491), .unset, .unset, .unset, .unset, .unset] (hb hby at_49) rfl rfl ?_
      refine own_iload X491h hx 53 (hb hby at_51) rfl ?_
      obtain ⟨_, _, ⟨T504, Lx504, kc504, nc504⟩, -, X504, ⟨Lc504, hQ504, lq504, yq504, zq504⟩, st504⟩ := Jvm.LawKit.callS X491h hx (y := (⟨"com/example/fates/fates/KeyEqualsPinLaw", "str", "(I)Ljava/lang/String;"⟩ : MethodName)) hown (mvT hZ (hw _ (List.mem_of_getElem? (i := 0) rfl))) (mvT hZ (hw _ (List.mem_of_getElem? (i := 1) rfl))) (mvT hZ (hw _ (List.mem_of_getElem? (i := 2) rfl))) (mvT hZ (hw _ (List.mem_of_getElem? (i := 3) rfl))) (by decide) (backOf (W := 0) (own_rm1 l Z a0 hw [] cs S_cs hcs sf S_sf hsf v1 T491.heap n0 Z503 O502) hZ (hw _ (List.mem_of_getElem? (i := 3) rfl)) (hw _ (List.mem_of_getElem? (i := 2) rfl)) (by decide) (by decide)) (g := (mkF m 53 #[.val (.int v0), .val (.int v1), .val (.int v2), .val (.int v3), .val (.int v4), .val (.int v0), .val (.int v1), .val (.ref so_481), .val (.ref so_484), .val (.ref so_491), .unset, .unset, .unset, .unset, .unset] [(.int v1)])) rfl (by rw [hml]; rfl) (argsL := [(.int v1)]) (rest := []) (lenOf own_pd16 rfl) rfl (by show 2 * 0 + _ ≤ _; exact Nat.le_of_eq rfl) (hb hby at_53) (fun _ _ => ⟨rfl, rfl, (by decide : 9 + 3 ≤ _), (by decide : 24 + 8 ≤ _)⟩)
      dsimp only [Pt.U, Pt.locs, Pt.cells, Pt.slots] at X504 lq504 yq504 zq504 st504 hQ504
      subst lq504 yq504 zq504
      obtain ⟨so_504, b_504, kb_504, n_504, x_504, y_504, rfl, Nq504, Kp504, G504_0, G504_1, G504_2, G504_3, G504_4, G504_5, P504_0, P504_1⟩ := hQ504
      have N504 := Fr.app N491h Nq504
      have f505 := (f492.keep Kp491)
      have ne506 : so_481 ≠ so_504 := Nat.ne_of_lt (Nat.lt_of_lt_of_le f505.lt G504_0)
      have f507 := (f494.keep Kp491 nin0)
      have ne508 : b_481 ≠ so_504 := Nat.ne_of_lt (Nat.lt_of_lt_of_le f507.lt G504_0)
      have f509 := (G484_2.keep Kp491)
      have ne510 : so_484 ≠ so_504 := Nat.ne_of_lt (Nat.lt_of_lt_of_le f509.lt G504_0)
      have f511 := (G484_5.keep Kp491 nin0)
      have ne512 : b_484 ≠ so_504 := Nat.ne_of_lt (Nat.lt_of_lt_of_le f511.lt G504_0)
      have ne513 : so_491 ≠ so_504 := Nat.ne_of_lt (Nat.lt_of_lt_of_le G491_2.lt G504_0)
      have ne514 : b_491 ≠ so_504 := Nat.ne_of_lt (Nat.lt_of_lt_of_le G491_5.lt G504_0)
      have gt_so_504 : n0 ≤ so_504 := Nat.le_trans Z503 G504_0
      have ne515 : so_481 ≠ b_504 := Nat.ne_of_lt (Nat.lt_of_lt_of_le f505.lt G504_1)
      have ne516 : b_481 ≠ b_504 := Nat.ne_of_lt (Nat.lt_of_lt_of_le f507.lt G504_1)
      have ne517 : so_484 ≠ b_504 := Nat.ne_of_lt (Nat.lt_of_lt_of_le f509.lt G504_1)
      have ne518 : b_484 ≠ b_504 := Nat.ne_of_lt (Nat.lt_of_lt_of_le f511.lt G504_1)
      have ne519 : so_491 ≠ b_504 := Nat.ne_of_lt (Nat.lt_of_lt_of_le G491_2.lt G504_1)
      have ne520 : b_491 ≠ b_504 := Nat.ne_of_lt (Nat.lt_of_lt_of_le G491_5.lt G504_1)
      have gt_b_504 : n0 ≤ b_504 := Nat.le_trans Z503 G504_1
      have O521 := O502.keep Kp504 all0
      have Z522 := Nat.le_trans Z503 Kp504.1
      refine own_st (G' := T504.setTop (mkF m 56 #[.val (.int v0), .val (.int v1), .val (.int v2), .val (.int v3), .val (.int v4), .val (.int v0), .val (.int v1), .val (.ref so_481), .val (.ref so_484), .val (.ref so_491), .unset, .unset, .unset, .unset, .unset] [(.ref so_504)])) st504 ?_
      obtain ⟨_, X504h, N504h⟩ := own_hide X504 N504
      refine own_astore X504h hx 58 #[.val (.int v0), .val (.int v1), .val (.int v2), .val (.int v3), .val (.int v4), .val (.int v0), .val (.int v1), .val (.ref so_481), .val (.ref so_484), .val (.ref so_491), .val (.ref so_504), .unset, .unset, .unset, .unset] (hb hby at_56) rfl rfl ?_
      obtain ⟨T523, h523, X523, e523, E523, A523, D523, -, st523⟩ := newO X504h hx hZ hown (hw _ (List.mem_of_getElem? (i := 34) rfl)) (hw _ (List.mem_of_getElem? (i := 35) rfl)) (hw _ (List.mem_of_getElem? (i := 36) rfl)) rfl (g := (mkF m 58 #[.val (.int v0), .val (.int v1), .val (.int v2), .val (.int v3), .val (.int v4), .val (.int v0), .val (.int v1), .val (.ref so_481), .val (.ref so_484), .val (.ref so_491), .val (.ref so_504), .unset, .unset, .unset, .unset] [])) rfl (hb hby at_58) (by decide) (by decide)
      obtain ⟨b523, g523⟩ : ∃ z, z = T504.heap.size := ⟨_, rfl⟩
      rw [← g523] at A523 D523 st523
      have f524 := (f505.keep Kp504)
      have ne525 : so_481 ≠ b523 := Nat.ne_of_lt (Nat.lt_of_lt_of_le f524.lt (Nat.le_of_eq g523.symm))
      have f526 := (f507.keep Kp504 nin0)
      have ne527 : b_481 ≠ b523 := Nat.ne_of_lt (Nat.lt_of_lt_of_le f526.lt (Nat.le_of_eq g523.symm))
      have f528 := (f509.keep Kp504)
      have ne529 : so_484 ≠ b523 := Nat.ne_of_lt (Nat.lt_of_lt_of_le f528.lt (Nat.le_of_eq g523.symm))
      have f530 := (f511.keep Kp504 nin0)
      have ne531 : b_484 ≠ b523 := Nat.ne_of_lt (Nat.lt_of_lt_of_le f530.lt (Nat.le_of_eq g523.symm))
      have f532 := (G491_2.keep Kp504)
      have ne533 : so_491 ≠ b523 := Nat.ne_of_lt (Nat.lt_of_lt_of_le f532.lt (Nat.le_of_eq g523.symm))
      have f534 := (G491_5.keep Kp504 nin0)
      have ne535 : b_491 ≠ b523 := Nat.ne_of_lt (Nat.lt_of_lt_of_le f534.lt (Nat.le_of_eq g523.symm))
      have ne536 : so_504 ≠ b523 := Nat.ne_of_lt (Nat.lt_of_lt_of_le G504_2.lt (Nat.le_of_eq g523.symm))
      have ne537 : b_504 ≠ b523 := Nat.ne_of_lt (Nat.lt_of_lt_of_le G504_5.lt (Nat.le_of_eq g523.symm))
      have gt_b523 : n0 ≤ b523 := Nat.le_trans Z522 (Nat.le_of_eq g523.symm)
      have O538 := O521.ext E523
      have Z539 := Nat.le_trans Z522 E523.1
      have F523_group : Fld Z h523 b523 "com/example/fates/fates/Key" "group" "Ljava/lang/String;" .null := D523 (Or.inr (hw _ (List.mem_of_getElem? (i := 71) rfl))) (ty := (.object "java/lang/String")) (by decide)
      have F523_name : Fld Z h523 b523 "com/example/fates/fates/Key" "name" "Ljava/lang/String;" .null := D523 (Or.inr (hw _ (List.mem_of_getElem? (i := 74) rfl))) (ty := (.object "java/lang/String")) (by decide)
      refine own_st (G' := T523.setTop (mkF m 61 #[.val (.int v0), .val (.int v1), .val (.int v2), .val (.int v3), .val (.int v4), .val (.int v0), .val (.int v1), .val (.ref so_481), .val (.ref so_484), .val (.ref so_491), .val (.ref so_504), .unset, .unset, .unset, .unset] [(.ref b523)])) st523 ?_
      obtain ⟨_, X523h, N523h⟩ := own_hide X523 N504h
      refine own_dup X523h hx 62 (hb hby at_61) rfl ?_
      refine own_aload X523h hx 64 (hb hby at_62) rfl rfl ?_
      refine own_aload X523h hx 66 (hb hby at_64) rfl rfl ?_
      have f540 := (f524.ext E523)
      have f541 := ((((G481_3.keep Kp484 nin0).keep Kp491 nin0).keep Kp504 nin0).ext E523)
      have f542 := ((((G481_4.keep Kp484 nin0).keep Kp491 nin0).keep Kp504 nin0).ext E523)
      have f543 := (f526.ext E523)
      have f544 := (f528.ext E523)
      have f545 := (((G484_3.keep Kp491 nin0).keep Kp504 nin0).ext E523)
      have f546 := (((G484_4.keep Kp491 nin0).keep Kp504 nin0).ext E523)
      have f547 := (f530.ext E523)
      have hS0 : s.Since s.vm 0 := (State.WarmedH.refl s).since 0
      have X548q := (show Stand p l e room_1 (s.setVm s.vm) m #[(.int v0), (.int v1), (.int v2), (.int v3), (.int v4)] below meth c T523 _ _ _ from X523h)
      obtain ⟨_, _, ⟨T548, Lx548, kc548, nc548⟩, -, X548, hSx548, hgr548, ⟨Lc548, hQ548, lq548, yq548, zq548⟩, st548⟩ := X548q.specialBackS hx (y := (⟨"com/example/fates/fates/Key", "<init>", "(Ljava/lang/String;Ljava/lang/String;)V"⟩ : MethodName)) rfl hown (mvT hZ (hw _ (List.mem_of_getElem? (i := 37) rfl))) (mvT hZ (hw _ (List.mem_of_getElem? (i := 38) rfl))) (mvT hZ (hw _ (List.mem_of_getElem? (i := 39) rfl))) (by decide) (backOfS (W := 1) (own_rm8 l Z a0 hw [] cs S_cs hcs sf S_sf hsf b523 so_481 so_484 b_481 kb_481 n_481 x_481 y_481 b_484 kb_484 n_484 x_484 y_484 h523 n0 Z539 A523 F523_group F523_name gt_b523 O538 f540 f541 f542 f543 f544 f545 f546 f547 (P481_0 : own_N n_481) (P484_0 : own_N n_484) (Ne.symm ne529) (Ne.symm ne531)) hZ (hw _ (List.mem_of_getElem? (i := 39) rfl)) (hw _ (List.mem_of_getElem? (i := 36) rfl)) (by decide) (by decide)) (g := (mkF m 66 #[.val (.int v0), .val (.int v1), .val (.int v2), .val (.int v3), .val (.int v4), .val (.int v0), .val (.int v1), .val (.ref so_481), .val (.ref so_484), .val (.ref so_491), .val (.ref so_504), .unset, .unset, .unset, .unset] [(.ref so_484), (.ref so_481), (.ref b523), (.ref b523)])) rfl (by rw [hml]; rfl) (Steps.refl _) (a := b523) (argsL := [(.ref so_481), (.ref so_484)]) (rest := [(.ref b523)]) (lenOf own_pd17 rfl) rfl (by show 2 * 0 + _ ≤ _; exact Nat.le_of_eq rfl) (hb hby at_66) (fun _ _ => ⟨rfl, e523, (by decide : 13 + 4 ≤ _), (by decide : 34 + 44 ≤ _)⟩)
      dsimp only [Pt.U, Pt.locs, Pt.cells, Pt.slots] at X548 lq548 yq548 zq548 st548 hQ548 hSx548 hgr548
      subst lq548 yq548 zq548
      have hS548 := own_wf hS0 ((Nat.zero_le _)) hSx548 (by rw [e523] at hgr548; exact hgr548)
      have hown := own_wo hSx548 hown
      have hZ := own_wz hZ hSx548
      obtain ⟨rfl, Nq548, Kp548, G548_0, G548_1, G548_2⟩ := hQ548
      have N548 := Fr.app N523h Nq548
      have O549 := O538.keep Kp548 (allS gt_b523 all0)
      have Z550 := Nat.le_trans Z539 Kp548.1
      have X548w := (show Stand p l e room_1 (s.setVm T548.vm) m #[(.int v0), (.int v1), (.int v2), (.int v3), (.int v4)] below meth c T548 _ _ _ from X548)
      refine own_st (G' := T548.setTop (mkF m 69 #[.val (.int v0), .val (.int v1), .val (.int v2), .val (.int v3), .val (.int v4), .val (.int v0), .val (.int v1), .val (.ref so_481), .val (.ref so_484), .val (.ref so_491), .val (.ref so_504), .unset, .unset, .unset, .unset] [(.ref b523)])) (fun t k => st548.trans k) ?_
      obtain ⟨_, X548wh, N548wh⟩ := own_hide X548w N548
      refine own_astore X548wh hx 71 #[.val (.int v0), .val (.int v1), .val (.int v2), .val (.int v3), .val (.int v4), .val (.int v0), .val (.int v1), .val (.ref so_481), .val (.ref so_484), .val (.ref so_491), .val (.ref so_504), .val (.ref b523), .unset, .unset, .unset] (hb hby at_69) rfl rfl ?_
      obtain ⟨T551, h551, X551, e551, E551, A551, D551, -, st551⟩ := newO X548wh hx hZ hown (hw _ (List.mem_of_getElem? (i := 34) rfl)) (hw _ (List.mem_of_getElem? (i := 35) rfl)) (hw _ (List.mem_of_getElem? (i := 36) rfl)) rfl (g := (mkF m 71 #[.val (.int v0), .val (.int v1), .val (.int v2), .val (.int v3), .val (.int v4), .val (.int v0), .val (.int v1), .val (.ref so_481), .val (.ref so_484), .val (.ref so_491), .val (.ref so_504), .val (.ref b523), .unset, .unset, .unset] [])) rfl (hb hby at_71) (by decide) (by decide)
      obtain ⟨b551, g551⟩ : ∃ z, z = T548.heap.size := ⟨_, rfl⟩
      rw [← g551] at A551 D551 st551
      have f552 := (f540.keep Kp548)
      have ne553 : so_481 ≠ b551 := Nat.ne_of_lt (Nat.lt_of_lt_of_le f552.lt (Nat.le_of_eq g551.symm))
      have f554 := (f543.keep Kp548 (ninS ne527 nin0))
      have ne555 : b_481 ≠ b551 := Nat.ne_of_lt (Nat.lt_of_lt_of_le f554.lt (Nat.le_of_eq g551.symm))
      have f556 := (f544.keep Kp548)
      have ne557 : so_484 ≠ b551 := Nat.ne_of_lt (Nat.lt_of_lt_of_le f556.lt (Nat.le_of_eq g551.symm))
      have f558 := (f547.keep Kp548 (ninS ne531 nin0))
      have ne559 : b_484 ≠ b551 := Nat.ne_of_lt (Nat.lt_of_lt_of_le f558.lt (Nat.le_of_eq g551.symm))
      have f560 := ((f532.ext E523).keep Kp548)
      have ne561 : so_491 ≠ b551 := Nat.ne_of_lt (Nat.lt_of_lt_of_le f560.lt (Nat.le_of_eq g551.symm))
      have f562 := ((f534.ext E523).keep Kp548 (ninS ne535 nin0))
      have ne563 : b_491 ≠ b551 := Nat.ne_of_lt (Nat.lt_of_lt_of_le f562.lt (Nat.le_of_eq g551.symm))
      have f564 := ((G504_2.ext E523).keep Kp548)
      have ne565 : so_504 ≠ b551 := Nat.ne_of_lt (Nat.lt_of_lt_of_le f564.lt (Nat.le_of_eq g551.symm))
      have f566 := ((G504_5.ext E523).keep Kp548 (ninS ne537 nin0))
      have ne567 : b_504 ≠ b551 := Nat.ne_of_lt (Nat.lt_of_lt_of_le f566.lt (Nat.le_of_eq g551.symm))
      have ne568 : b523 ≠ b551 := Nat.ne_of_lt (Nat.lt_of_lt_of_le G548_0.lt (Nat.le_of_eq g551.symm))
      have gt_b551 : n0 ≤ b551 := Nat.le_trans Z550 (Nat.le_of_eq g551.symm)
      have O569 := O549.ext E551
      have Ks570 := Nat.le_trans (Nat.le_refl _) E551.1
      have Z571 := Nat.le_trans Z550 E551.1
      have F551_group : Fld Z h551 b551 "com/example/fates/fates/Key" "group" "Ljava/lang/String;" .null := D551 (Or.inr (hw _ (List.mem_of_getElem? (i := 71) rfl))) (ty := (.object "java/lang/String")) (by decide)
      have F551_name : Fld Z h551 b551 "com/example/fates/fates/Key" "name" "Ljava/lang/String;" .null := D551 (Or.inr (hw _ (List.mem_of_getElem? (i := 74) rfl))) (ty := (.object "java/lang/String")) (by decide)
      refine own_st (G' := T551.setTop (mkF m 74 #[.val (.int v0), .val (.int v1), .val (.int v2), .val (.int v3), .val (.int v4), .val (.int v0), .val (.int v1), .val (.ref so_481), .val (.ref so_484), .val (.ref so_491), .val (.ref so_504), .val (.ref b523), .unset, .unset, .unset] [(.ref b551)])) st551 ?_
      obtain ⟨_, X551h, N551h⟩ := own_hide X551 N548wh
      refine own_dup X551h hx 75 (hb hby at_74) rfl ?_
      refine own_aload X551h hx 77 (hb hby at_75) rfl rfl ?_
      refine own_aload X551h hx 79 (hb hby at_77) rfl rfl ?_
      have f572 := (f560.ext E551)
      have f573 := ((((G491_3.keep Kp504 nin0).ext E523).keep Kp548 (ninS ne533 nin0)).ext E551)
      have f574 := ((((G491_4.keep Kp504 nin0).ext E523).keep Kp548 (ninS ne533 nin0)).ext E551)
      have f575 := (f562.ext E551)
      have f576 := (f564.ext E551)
      have f577 := (((G504_3.ext E523).keep Kp548 (ninS ne536 nin0)).ext E551)
      have f578 := (((G504_4.ext E523).keep Kp548 (ninS ne536 nin0)).ext E551)
      have f579 := (f566.ext E551)
      obtain ⟨_, _, ⟨T580, Lx580, kc580, nc580⟩, -, X580, hSx580, hgr580, ⟨Lc580, hQ580, lq580, yq580, zq580⟩, st580⟩ := X551h.specialBackS hx (y := (⟨"com/example/fates/fates/Key", "<init>", "(Ljava/lang/String;Ljava/lang/String;)V"⟩ : MethodName)) rfl hown (mvT hZ (hw _ (List.mem_of_getElem? (i := 37) rfl))) (mvT hZ (hw _ (List.mem_of_getElem? (i := 38) rfl))) (mvT hZ (hw _ (List.mem_of_getElem? (i := 39) rfl))) (by decide) (backOfS (W := 1) (own_rm8 l Z a0 hw [] cs S_cs hcs sf S_sf hsf b551 so_491 so_504 b_491 kb_491 n_491 x_491 y_491 b_504 kb_504 n_504 x_504 y_504 h551 n0 Z571 A551 F551_group F551_name gt_b551 O569 f572 f573 f574 f575 f576 f577 f578 f579 (P491_0 : own_N n_491) (P504_0 : own_N n_504) (Ne.symm ne565) (Ne.symm ne567)) hZ (hw _ (List.mem_of_getElem? (i := 39) rfl)) (hw _ (List.mem_of_getElem? (i := 36) rfl)) (by decide) (by decide)) (g := (mkF m 79 #[.val (.int v0), .val (.int v1), .val (.int v2), .val (.int v3), .val (.int v4), .val (.int v0), .val (.int v1), .val (.ref so_481), .val (.ref so_484), .val (.ref so_491), .val (.ref so_504), .val (.ref b523), .unset, .unset, .unset] [(.ref so_504), (.ref so_491), (.ref b551), (.ref b551)])) rfl (by rw [hml]; rfl) (Steps.refl _) (a := b551) (argsL := [(.ref so_491), (.ref so_504)]) (rest := [(.ref b551)]) (lenOf own_pd17 rfl) rfl (by show 2 * 0 + _ ≤ _; exact Nat.le_of_eq rfl) (hb hby at_79) (fun _ _ => ⟨rfl, e551, (by decide : 18 + 4 ≤ _), (by decide : 80 + 44 ≤ _)⟩)
      dsimp only [Pt.U, Pt.locs, Pt.cells, Pt.slots] at X580 lq580 yq580 zq580 st580 hQ580 hSx580 hgr580
      subst lq580 yq580 zq580
      have hS580 := own_wf hS548 (Ks570) hSx580 (by rw [e551] at hgr580; exact hgr580)
      have hown := own_wo hSx580 hown
      have hZ := own_wz hZ hSx580
      obtain ⟨rfl, Nq580, Kp580, G580_0, G580_1, G580_2⟩ := hQ580
      have N580 := Fr.app N551h Nq580
      have O581 := O569.keep Kp580 (allS gt_b551 all0)
      have Z582 := Nat.le_trans Z571 Kp580.1
      have X580w := (show Stand p l e room_1 (s.setVm T580.vm) m #[(.int v0), (.int v1), (.int v2), (.int v3), (.int v4)] below meth c T580 _ _ _ from X580)
      refine own_st (G' := T580.setTop (mkF m 82 #[.val (.int v0), .val (.int v1), .val (.int v2), .val (.int v3), .val (.int v4), .val (.int v0), .val (.int v1), .val (.ref so_481), .val (.ref so_484), .val (.ref so_491), .val (.ref so_504), .val (.ref b523), .unset, .unset, .unset] [(.ref b551)])) (fun t k => st580.trans k) ?_
      obtain ⟨_, X580wh, N580wh⟩ := own_hide X580w N580
      refine own_astore X580wh hx 84 #[.val (.int v0), .val (.int v1), .val (.int v2), .val (.int v3), .val (.int v4), .val (.int v0), .val (.int v1), .val (.ref so_481), .val (.ref so_484), .val (.ref so_491), .val (.ref so_504), .val (.ref b523), .val (.ref b551), .unset, .unset] (hb hby at_82) rfl rfl ?_
      refine own_iload X580wh hx 86 (hb hby at_84) rfl ?_
      refine own_iconst X580wh hx 87 (3 : Int32) (hb hby at_86) rfl ?_
      refine own_iand X580wh hx 88 (hb hby at_87) ?_
      refine own_istore X580wh hx 90 #[.val (.int v0), .val (.int v1), .val (.int v2), .val (.int v3), .val (.int v4), .val (.int v0), .val (.int v1), .val (.ref so_481), .val (.ref so_484), .val (.ref so_491), .val (.ref so_504), .val (.ref b523), .val (.ref b551), .val (.int (v4 &&& (3 : Int32))), .unset] (hb hby at_88) rfl ?_
      refine own_iload X580wh hx 92 (hb hby at_90) rfl ?_
      refine own_iconst X580wh hx 93 (1 : Int32) (hb hby at_92) rfl ?_
      by_cases hc93_583 : (v4 &&& (3 : Int32)) = (1 : Int32)
      · refine own_icmpNo X580wh hx 96 (hb hby at_93) (teq hc93_583).2 ?_
        refine own_aload X580wh hx 98 (hb hby at_96) rfl rfl ?_
        refine own_aconstNull X580wh hx 99 (hb hby at_98) ?_
        have f585 := ((G548_0.ext E551).keep Kp580)
        obtain ⟨cq584, kq584, q584a, q584b, q584c⟩ := isOf hZ rfl f585
        obtain ⟨_, _, ⟨T584, Lx584, kc584, nc584⟩, -, X584, ⟨Lc584, hQ584, lq584, yq584, zq584⟩, st584⟩ := X580wh.virtualBack hx (y := (⟨"com/example/fates/fates/Key", "equals", "(Ljava/lang/Object;)Z"⟩ : MethodName)) (z := (⟨"com/example/fates/fates/Key", "equals", "(Ljava/lang/Object;)Z"⟩ : MethodName)) hown (mvT hZ (hw _ (List.mem_of_getElem? (i := 101) rfl))) (mvT hZ (hw _ (List.mem_of_getElem? (i := 102) rfl))) (notFace_of_selects (args := #[]) (mvT hZ (hw _ (List.mem_of_getElem? (i := 104) rfl)))) (mvT hZ (hw _ (List.mem_of_getElem? (i := 104) rfl))) (mvT hZ (hw _ (List.mem_of_getElem? (i := 103) rfl))) (by decide) (backOf (W := 0) (own_rm21n l Z a0 hw [] b523 T580.heap n0 Z582 ) hZ (hw _ (List.mem_of_getElem? (i := 105) rfl)) (hw _ (List.mem_of_getElem? (i := 36) rfl)) (by decide) (by decide)) q584a q584c (g := (mkF m 99 #[.val (.int v0), .val (.int v1), .val (.int v2), .val (.int v3), .val (.int v4), .val (.int v0), .val (.int v1), .val (.ref so_481), .val (.ref so_484), .val (.ref so_491), .val (.ref so_504), .val (.ref b523), .val (.ref b551), .val (.int (v4 &&& (3 : Int32))), .unset] [.null, (.ref b523)])) rfl (by rw [hml]; rfl) (Steps.refl _) (argsL := [.null]) (rest := []) (lenOf own_pd15 rfl) rfl (by show 2 * 0 + _ ≤ _; exact Nat.le_of_eq rfl) (hb hby at_99) (fun _ _ => ⟨rfl, rfl, (by decide : 22 + 0 ≤ _), (by decide : 124 + 0 ≤ _)⟩)
        dsimp only [Pt.U, Pt.locs, Pt.cells, Pt.slots] at X584 lq584 yq584 zq584 st584 hQ584
        subst lq584 yq584 zq584
        obtain ⟨rfl, Nq584, eh584⟩ := hQ584
        have N584 := Fr.app N580wh Nq584
        refine own_st (G' := T584.setTop (mkF m 102 #[.val (.int v0), .val (.int v1), .val (.int v2), .val (.int v3), .val (.int v4), .val (.int v0), .val (.int v1), .val (.ref so_481), .val (.ref so_484), .val (.ref so_491), .val (.ref so_504), .val (.ref b523), .val (.ref b551), .val (.int (v4 &&& (3 : Int32))), .unset] [(.int (0 : Int32))])) (fun t k => st584.trans k) ?_
        obtain ⟨_, X584h, N584h⟩ := own_hide X584 N584
        refine own_ifNo X584h hx 105 (hb hby at_102) (teq (rfl : (0 : Int32) = (0 : Int32))).2 ?_
        refine own_iconst X584h hx 106 (1 : Int32) (hb hby at_105) rfl ?_
        refine own_goto X584h hx 110 (hb hby at_106) ?_
        exact own_retNW (t := .boolean) (Q := own_Q0 Z cs S_cs hcs sf S_sf hsf v0 v1 v2 v3 v4 h0 n0) X584h hS580 (Nat.le_refl _) hx hrt (by simp) (hb hby at_110) hlk eh584 ⟨rfl, N584h⟩ (by decide) (by decide)
      · refine own_icmpYes X580wh hx 111 (hb hby at_93) (feq hc93_583).2 ?_
        refine own_iload X580wh hx 113 (hb hby at_111) rfl ?_
        refine own_iconst X580wh hx 114 (2 : Int32) (hb hby at_113) rfl ?_
        by_cases hc114_586 : (v4 &&& (3 : Int32)) = (2 : Int32)
        · refine own_icmpNo X580wh hx 117 (hb hby at_114) (teq hc114_586).2 ?_
          refine own_aload X580wh hx 119 (hb hby at_117) rfl rfl ?_
          refine own_aload X580wh hx 121 (hb hby at_119) rfl rfl ?_
          have f587 := ((f552.ext E551).keep Kp580)
          have f589 := ((G548_0.ext E551).keep Kp580)
          obtain ⟨cq588, kq588, q588a, q588b, q588c⟩ := isOf hZ rfl f589
          obtain ⟨_, _, ⟨T588, Lx588, kc588, nc588⟩, -, X588, ⟨Lc588, hQ588, lq588, yq588, zq588⟩, st588⟩ := X580wh.virtualBack hx (y := (⟨"com/example/fates/fates/Key", "equals", "(Ljava/lang/Object;)Z"⟩ : MethodName)) (z := (⟨"com/example/fates/fates/Key", "equals", "(Ljava/lang/Object;)Z"⟩ : MethodName)) hown (mvT hZ (hw _ (List.mem_of_getElem? (i := 101) rfl))) (mvT hZ (hw _ (List.mem_of_getElem? (i := 102) rfl))) (notFace_of_selects (args := #[]) (mvT hZ (hw _ (List.mem_of_getElem? (i := 104) rfl)))) (mvT hZ (hw _ (List.mem_of_getElem? (i := 104) rfl))) (mvT hZ (hw _ (List.mem_of_getElem? (i := 103) rfl))) (by decide) (backOf (W := 0) (own_rm21t l Z a0 hw [] b523 so_481 T580.heap n0 Z582 f587) hZ (hw _ (List.mem_of_getElem? (i := 105) rfl)) (hw _ (List.mem_of_getElem? (i := 36) rfl)) (by decide) (by decide)) q588a q588c (g := (mkF m 121 #[.val (.int v0), .val (.int v1), .val (.int v2), .val (.int v3), .val (.int v4), .val (.int v0), .val (.int v1), .val (.ref so_481), .val (.ref so_484), .val (.ref so_491), .val (.ref so_504), .val (.ref b523), .val (.ref b551), .val (.int (v4 &&& (3 : Int32))), .unset] [(.ref so_481), (.ref b523)])) rfl (by rw [hml]; rfl) (Steps.refl _) (argsL := [(.ref so_481)]) (rest := []) (lenOf own_pd15 rfl) rfl (by show 2 * 0 + _ ≤ _; exact Nat.le_of_eq rfl) (hb hby at_121) (fun _ _ => ⟨rfl, rfl, (by decide : 22 + 0 ≤ _), (by decide : 124 + 0 ≤ _)⟩)
          dsimp only [Pt.U, Pt.locs, Pt.cells, Pt.slots] at X588 lq588 yq588 zq588 st588 hQ588
          subst lq588 yq588 zq588
          obtain ⟨rfl, Nq588, eh588⟩ := hQ588
          have N588 := Fr.app N580wh Nq588
          refine own_st (G' := T588.setTop (mkF m 124 #[.val (.int v0), .val (.int v1), .val (.int v2), .val (.int v3), .val (.int v4), .val (.int v0), .val (.int v1), .val (.ref so_481), .val (.ref so_484), .val (.ref so_491), .val (.ref so_504), .val (.ref b523), .val (.ref b551), .val (.int (v4 &&& (3 : Int32))), .unset] [(.int (0 : Int32))])) (fun t k => st588.trans k) ?_
          obtain ⟨_, X588h, N588h⟩ := own_hide X588 N588
          refine own_ifNo X588h hx 127 (hb hby at_124) (teq (rfl : (0 : Int32) = (0 : Int32))).2 ?_
          refine own_iconst X588h hx 128 (1 : Int32) (hb hby at_127) rfl ?_
          refine own_goto X588h hx 132 (hb hby at_128) ?_
          exact own_retNW (t := .boolean) (Q := own_Q0 Z cs S_cs hcs sf S_sf hsf v0 v1 v2 v3 v4 h0 n0) X588h hS580 (Nat.le_refl _) hx hrt (by simp) (hb hby at_132) hlk eh588 ⟨rfl, N588h⟩ (by decide) (by decide)
        · refine own_icmpYes X580wh hx 133 (hb hby at_114) (feq hc114_586).2 ?_
          refine own_iload X580wh hx 135 (hb hby at_133) rfl ?_
          refine own_iconst X580wh hx 136 (3 : Int32) (hb hby at_135) rfl ?_
          by_cases hc136_590 : (v4 &&& (3 : Int32)) = (3 : Int32)
          · refine own_icmpNo X580wh hx 139 (hb hby at_136) (teq hc136_590).2 ?_
            refine own_aload X580wh hx 141 (hb hby at_139) rfl rfl ?_
            refine own_aload X580wh hx 143 (hb hby at_141) rfl rfl ?_
            have f591 := ((G548_0.ext E551).keep Kp580)
            have f592 := ((G548_1.ext E551).keep Kp580 (ninS ne568 nin0))
            have f593 := ((G548_2.ext E551).keep Kp580 (ninS ne568 nin0))
            have f594 := ((f552.ext E551).keep Kp580)
            have f595 := ((f556.ext E551).keep Kp580)
            obtain ⟨cq596, kq596, q596a, q596b, q596c⟩ := isOf hZ rfl f591
            obtain ⟨_, _, ⟨T596, Lx596, kc596, nc596⟩, -, X596, ⟨Lc596, hQ596, lq596, yq596, zq596⟩, st596⟩ := X580wh.virtualBack hx (y := (⟨"com/example/fates/fates/Key", "equals", "(Ljava/lang/Object;)Z"⟩ : MethodName)) (z := (⟨"com/example/fates/fates/Key", "equals", "(Ljava/lang/Object;)Z"⟩ : MethodName)) hown (mvT hZ (hw _ (List.mem_of_getElem? (i := 101) rfl))) (mvT hZ (hw _ (List.mem_of_getElem? (i := 102) rfl))) (notFace_of_selects (args := #[]) (mvT hZ (hw _ (List.mem_of_getElem? (i := 104) rfl)))) (mvT hZ (hw _ (List.mem_of_getElem? (i := 104) rfl))) (mvT hZ (hw _ (List.mem_of_getElem? (i := 103) rfl))) (by decide) (backOf (W := 0) (own_rm21s l Z a0 hw [] b523 so_481 so_484 T580.heap n0 Z582 f591 f592 f593 f594 f595) hZ (hw _ (List.mem_of_getElem? (i := 105) rfl)) (hw _ (List.mem_of_getElem? (i := 36) rfl)) (by decide) (by decide)) q596a q596c (g := (mkF m 143 #[.val (.int v0), .val (.int v1), .val (.int v2), .val (.int v3), .val (.int v4), .val (.int v0), .val (.int v1), .val (.ref so_481), .val (.ref so_484), .val (.ref so_491), .val (.ref so_504), .val (.ref b523), .val (.ref b551), .val (.int (v4 &&& (3 : Int32))), .unset] [(.ref b523), (.ref b523)])) rfl (by rw [hml]; rfl) (Steps.refl _) (argsL := [(.ref b523)]) (rest := []) (lenOf own_pd15 rfl) rfl (by show 2 * 0 + _ ≤ _; exact Nat.le_of_eq rfl) (hb hby at_143) (fun _ _ => ⟨rfl, rfl, (by decide : 22 + 0 ≤ _), (by decide : 124 + 0 ≤ _)⟩)
            dsimp only [Pt.U, Pt.locs, Pt.cells, Pt.slots] at X596 lq596 yq596 zq596 st596 hQ596
            subst lq596 yq596 zq596
            obtain ⟨rfl, Nq596, eh596⟩ := hQ596
            have N596 := Fr.app N580wh Nq596
            refine own_st (G' := T596.setTop (mkF m 146 #[.val (.int v0), .val (.int v1), .val (.int v2), .val (.int v3), .val (.int v4), .val (.int v0), .val (.int v1), .val (.ref so_481), .val (.ref so_484), .val (.ref so_491), .val (.ref so_504), .val (.ref b523), .val (.ref b551), .val (.int (v4 &&& (3 : Int32))), .unset] [(.int (1 : Int32))])) (fun t k => st596.trans k) ?_
            obtain ⟨_, X596h, N596h⟩ := own_hide X596 N596
            exact own_retNW (t := .boolean) (Q := own_Q0 Z cs S_cs hcs sf S_sf hsf v0 v1 v2 v3 v4 h0 n0) X596h hS580 (Nat.le_refl _) hx hrt (by simp) (hb hby at_146) hlk eh596 ⟨rfl, N596h⟩ (by decide) (by decide)
          · refine own_icmpYes X580wh hx 147 (hb hby at_136) (feq hc136_590).2 ?_
            refine own_aload X580wh hx 149 (hb hby at_147) rfl rfl ?_
            refine own_aload X580wh hx 151 (hb hby at_149) rfl rfl ?_
            have f597 := ((f552.ext E551).keep Kp580)
            have f598 := (((f541.keep Kp548 (ninS ne525 nin0)).ext E551).keep Kp580 (ninS ne553 nin0))
            have f599 := (((f542.keep Kp548 (ninS ne525 nin0)).ext E551).keep Kp580 (ninS ne553 nin0))
            have f600 := ((f554.ext E551).keep Kp580 (ninS ne555 nin0))
            have f601 := (f572.keep Kp580)
            have f602 := (f573.keep Kp580 (ninS ne561 nin0))
            have f603 := (f574.keep Kp580 (ninS ne561 nin0))
            have f604 := (f575.keep Kp580 (ninS ne563 nin0))
            obtain ⟨_, _, ⟨T605, Lx605, kc605, nc605⟩, -, X605, ⟨Lc605, hQ605, lq605, yq605, zq605⟩, st605⟩ := Jvm.LawKit.callS X580wh hx (y := (⟨"com/example/fates/fates/KeyEqualsPinLaw", "same", "(Ljava/lang/String;Ljava/lang/String;)Z"⟩ : MethodName)) hown (mvT hZ (hw _ (List.mem_of_getElem? (i := 75) rfl))) (mvT hZ (hw _ (List.mem_of_getElem? (i := 76) rfl))) (mvT hZ (hw _ (List.mem_of_getElem? (i := 2) rfl))) (mvT hZ (hw _ (List.mem_of_getElem? (i := 77) rfl))) (by decide) (backOf (W := 0) (own_rm15 l Z a0 hw [] cs S_cs hcs sf S_sf hsf so_481 so_491 b_481 kb_481 n_481 x_481 y_481 b_491 kb_491 n_491 x_491 y_491 T580.heap n0 Z582 f597 f598 f599 f600 f601 f602 f603 f604 O581 (P481_0 : own_N n_481) (P491_0 : own_N n_491) (P481_1 : own_B x_481 ∧ own_B y_481) (P491_1 : own_B x_491 ∧ own_B y_491)) hZ (hw _ (List.mem_of_getElem? (i := 77) rfl)) (hw _ (List.mem_of_getElem? (i := 2) rfl)) (by decide) (by decide)) (g := (mkF m 151 #[.val (.int v0), .val (.int v1), .val (.int v2), .val (.int v3), .val (.int v4), .val (.int v0), .val (.int v1), .val (.ref so_481), .val (.ref so_484), .val (.ref so_491), .val (.ref so_504), .val (.ref b523), .val (.ref b551), .val (.int (v4 &&& (3 : Int32))), .unset] [(.ref so_491), (.ref so_481)])) rfl (by rw [hml]; rfl) (argsL := [(.ref so_481), (.ref so_491)]) (rest := []) (lenOf own_pd18 rfl) rfl (by show 2 * 0 + _ ≤ _; exact Nat.le_of_eq rfl) (hb hby at_151) (fun _ _ => ⟨rfl, rfl, (by decide : 22 + 0 ≤ _), (by decide : 124 + 0 ≤ _)⟩)
            dsimp only [Pt.U, Pt.locs, Pt.cells, Pt.slots] at X605 lq605 yq605 zq605 st605 hQ605
            subst lq605 yq605 zq605
            obtain ⟨rfl, Nq605, eh605⟩ := hQ605
            have N605 := Fr.app N580wh Nq605
            refine own_st (G' := T605.setTop (mkF m 154 #[.val (.int v0), .val (.int v1), .val (.int v2), .val (.int v3), .val (.int v4), .val (.int v0), .val (.int v1), .val (.ref so_481), .val (.ref so_484), .val (.ref so_491), .val (.ref so_504), .val (.ref b523), .val (.ref b551), .val (.int (v4 &&& (3 : Int32))), .unset] [(.int (own_eqB n_481 x_481 y_481 n_491 x_491 y_491))])) st605 ?_
            obtain ⟨_, X605h, N605h⟩ := own_hide X605 N605
            by_cases hc154_606 : (own_eqB n_481 x_481 y_481 n_491 x_491 y_491) = (0 : Int32)
            · refine own_ifYes X605h hx 171 (hb hby at_154) (teq hc154_606).1 ?_
              refine own_iconst X605h hx 172 (0 : Int32) (hb hby at_171) rfl ?_
              refine own_istore X605h hx 174 #[.val (.int v0), .val (.int v1), .val (.int v2), .val (.int v3), .val (.int v4), .val (.int v0), .val (.int v1), .val (.ref so_481), .val (.ref so_484), .val (.ref so_491), .val (.ref so_504), .val (.ref b523), .val (.ref b551), .val (.int (v4 &&& (3 : Int32))), .val (.int (0 : Int32))] (hb hby at_172) rfl ?_
              refine own_aload X605h hx 176 (hb hby at_174) rfl rfl ?_
              refine own_aload X605h hx 178 (hb hby at_176) rfl rfl ?_
              have f607 := ((G548_0.ext E551).keep Kp580)
              have f608 := ((G548_1.ext E551).keep Kp580 (ninS ne568 nin0))
              have f609 := ((G548_2.ext E551).keep Kp580 (ninS ne568 nin0))
              have f610 := ((f556.ext E551).keep Kp580)
              have f611 := (((f545.keep Kp548 (ninS ne529 nin0)).ext E551).keep Kp580 (ninS ne557 nin0))
              have f612 := (((f546.keep Kp548 (ninS ne529 nin0)).ext E551).keep Kp580 (ninS ne557 nin0))
              have f613 := ((f558.ext E551).keep Kp580 (ninS ne559 nin0))
              have f614 := (f576.keep Kp580)
              have f615 := (f577.keep Kp580 (ninS ne565 nin0))
              have f616 := (f578.keep Kp580 (ninS ne565 nin0))
              have f617 := (f579.keep Kp580 (ninS ne567 nin0))
              obtain ⟨cq618, kq618, q618a, q618b, q618c⟩ := isOf hZ eh605 f607
              obtain ⟨_, _, ⟨T618, Lx618, kc618, nc618⟩, -, X618, ⟨Lc618, hQ618, lq618, yq618, zq618⟩, st618⟩ := X605h.virtualBack hx (y := (⟨"com/example/fates/fates/Key", "equals", "(Ljava/lang/Object;)Z"⟩ : MethodName)) (z := (⟨"com/example/fates/fates/Key", "equals", "(Ljava/lang/Object;)Z"⟩ : MethodName)) hown (mvT hZ (hw _ (List.mem_of_getElem? (i := 101) rfl))) (mvT hZ (hw _ (List.mem_of_getElem? (i := 102) rfl))) (notFace_of_selects (args := #[]) (mvT hZ (hw _ (List.mem_of_getElem? (i := 104) rfl)))) (mvT hZ (hw _ (List.mem_of_getElem? (i := 104) rfl))) (mvT hZ (hw _ (List.mem_of_getElem? (i := 103) rfl))) (by decide) (backOf (W := 0) (own_rm21d l Z a0 hw [] cs S_cs hcs sf S_sf hsf b523 b551 so_481 so_484 so_491 so_504 b_481 kb_481 n_481 x_481 y_481 b_491 kb_491 n_491 x_491 y_491 b_484 kb_484 n_484 x_484 y_484 b_504 kb_504 n_504 x_504 y_504 T580.heap n0 Z582 f607 f608 f609 G580_0 G580_1 G580_2 f597 f598 f599 f600 f601 f602 f603 f604 f610 f611 f612 f613 f614 f615 f616 f617 O581 ne493 ne510 (P481_0 : own_N n_481) (P491_0 : own_N n_491) (P484_0 : own_N n_484) (P504_0 : own_N n_504)) hZ (hw _ (List.mem_of_getElem? (i := 105) rfl)) (hw _ (List.mem_of_getElem? (i := 36) rfl)) (by decide) (by decide)) q618a q618c (g := (mkF m 178 #[.val (.int v0), .val (.int v1), .val (.int v2), .val (.int v3), .val (.int v4), .val (.int v0), .val (.int v1), .val (.ref so_481), .val (.ref so_484), .val (.ref so_491), .val (.ref so_504), .val (.ref b523), .val (.ref b551), .val (.int (v4 &&& (3 : Int32))), .val (.int (0 : Int32))] [(.ref b551), (.ref b523)])) rfl (by rw [hml]; rfl) (Steps.refl _) (argsL := [(.ref b551)]) (rest := []) (lenOf own_pd15 rfl) rfl (by show 2 * 0 + _ ≤ _; exact Nat.le_of_eq rfl) (hb hby at_178) (fun _ _ => ⟨rfl, eh605, (by decide : 22 + 0 ≤ _), (by decide : 124 + 0 ≤ _)⟩)
              dsimp only [Pt.U, Pt.locs, Pt.cells, Pt.slots] at X618 lq618 yq618 zq618 st618 hQ618
              subst lq618 yq618 zq618
              obtain ⟨rfl, Nq618, eh618⟩ := hQ618
              have N618 := Fr.app N605h Nq618
              refine own_st (G' := T618.setTop (mkF m 181 #[.val (.int v0), .val (.int v1), .val (.int v2), .val (.int v3), .val (.int v4), .val (.int v0), .val (.int v1), .val (.ref so_481), .val (.ref so_484), .val (.ref so_491), .val (.ref so_504), .val (.ref b523), .val (.ref b551), .val (.int (v4 &&& (3 : Int32))), .val (.int (0 : Int32))] [(.int (own_keq (own_eqB n_481 x_481 y_481 n_491 x_491 y_491) (own_eqB n_484 x_484 y_484 n_504 x_504 y_504)))])) (fun t k => st618.trans k) ?_
              obtain ⟨_, X618h, N618h⟩ := own_hide X618 N618
              refine own_iload X618h hx 183 (hb hby at_181) rfl ?_
              refine own_icmpNo X618h hx 186 (hb hby at_183) (teq (by simp [own_keq, hc154_606] : (own_keq (own_eqB n_481 x_481 y_481 n_491 x_491 y_491) (own_eqB n_484 x_484 y_484 n_504 x_504 y_504)) = (0 : Int32))).2 ?_
              refine own_aload X618h hx 188 (hb hby at_186) rfl rfl ?_
              refine own_aload X618h hx 190 (hb hby at_188) rfl rfl ?_
              obtain ⟨cq619, kq619, q619a, q619b, q619c⟩ := isOf hZ eh618 G580_0
              obtain ⟨_, _, ⟨T619, Lx619, kc619, nc619⟩, -, X619, ⟨Lc619, hQ619, lq619, yq619, zq619⟩, st619⟩ := X618h.virtualBack hx (y := (⟨"com/example/fates/fates/Key", "equals", "(Ljava/lang/Object;)Z"⟩ : MethodName)) (z := (⟨"com/example/fates/fates/Key", "equals", "(Ljava/lang/Object;)Z"⟩ : MethodName)) hown (mvT hZ (hw _ (List.mem_of_getElem? (i := 101) rfl))) (mvT hZ (hw _ (List.mem_of_getElem? (i := 102) rfl))) (notFace_of_selects (args := #[]) (mvT hZ (hw _ (List.mem_of_getElem? (i := 104) rfl)))) (mvT hZ (hw _ (List.mem_of_getElem? (i := 104) rfl))) (mvT hZ (hw _ (List.mem_of_getElem? (i := 103) rfl))) (by decide) (backOf (W := 0) (own_rm21d l Z a0 hw [] cs S_cs hcs sf S_sf hsf b551 b523 so_491 so_504 so_481 so_484 b_491 kb_491 n_491 x_491 y_491 b_481 kb_481 n_481 x_481 y_481 b_504 kb_504 n_504 x_504 y_504 b_484 kb_484 n_484 x_484 y_484 T580.heap n0 Z582 G580_0 G580_1 G580_2 f607 f608 f609 f601 f602 f603 f604 f597 f598 f599 f600 f614 f615 f616 f617 f610 f611 f612 f613 O581 (Ne.symm ne493) (Ne.symm ne510) (P491_0 : own_N n_491) (P481_0 : own_N n_481) (P504_0 : own_N n_504) (P484_0 : own_N n_484)) hZ (hw _ (List.mem_of_getElem? (i := 105) rfl)) (hw _ (List.mem_of_getElem? (i := 36) rfl)) (by decide) (by decide)) q619a q619c (g := (mkF m 190 #[.val (.int v0), .val (.int v1), .val (.int v2), .val (.int v3), .val (.int v4), .val (.int v0), .val (.int v1), .val (.ref so_481), .val (.ref so_484), .val (.ref so_491), .val (.ref so_504), .val (.ref b523), .val (.ref b551), .val (.int (v4 &&& (3 : Int32))), .val (.int (0 : Int32))] [(.ref b523), (.ref b551)])) rfl (by rw [hml]; rfl) (Steps.refl _) (argsL := [(.ref b523)]) (rest := []) (lenOf own_pd15 rfl) rfl (by show 2 * 0 + _ ≤ _; exact Nat.le_of_eq rfl) (hb hby at_190) (fun _ _ => ⟨rfl, eh618, (by decide : 22 + 0 ≤ _), (by decide : 124 + 0 ≤ _)⟩)
              dsimp only [Pt.U, Pt.locs, Pt.cells, Pt.slots] at X619 lq619 yq619 zq619 st619 hQ619
              subst lq619 yq619 zq619
              obtain ⟨rfl, Nq619, eh619⟩ := hQ619
              have N619 := Fr.app N618h Nq619
              refine own_st (G' := T619.setTop (mkF m 193 #[.val (.int v0), .val (.int v1), .val (.int v2), .val (.int v3), .val (.int v4), .val (.int v0), .val (.int v1), .val (.ref so_481), .val (.ref so_484), .val (.ref so_491), .val (.ref so_504), .val (.ref b523), .val (.ref b551), .val (.int (v4 &&& (3 : Int32))), .val (.int (0 : Int32))] [(.int (own_keq (own_eqB n_491 x_491 y_491 n_481 x_481 y_481) (own_eqB n_504 x_504 y_504 n_484 x_484 y_484)))])) (fun t k => st619.trans k) ?_
              obtain ⟨_, X619h, N619h⟩ := own_hide X619 N619
              refine own_iload X619h hx 195 (hb hby at_193) rfl ?_
              refine own_icmpNo X619h hx 198 (hb hby at_195) (teq (by rw [own_eqs n_491 x_491 y_491 n_481 x_481 y_481, own_eqs n_504 x_504 y_504 n_484 x_484 y_484]; simp [own_keq, hc154_606] : (own_keq (own_eqB n_491 x_491 y_491 n_481 x_481 y_481) (own_eqB n_504 x_504 y_504 n_484 x_484 y_484)) = (0 : Int32))).2 ?_
              refine own_iconst X619h hx 199 (1 : Int32) (hb hby at_198) rfl ?_
              refine own_goto X619h hx 203 (hb hby at_199) ?_
              exact own_retNW (t := .boolean) (Q := own_Q0 Z cs S_cs hcs sf S_sf hsf v0 v1 v2 v3 v4 h0 n0) X619h hS580 (Nat.le_refl _) hx hrt (by simp) (hb hby at_203) hlk eh619 ⟨rfl, N619h⟩ (by decide) (by decide)
            · refine own_ifNo X605h hx 157 (hb hby at_154) (feq hc154_606).1 ?_
              refine own_aload X605h hx 159 (hb hby at_157) rfl rfl ?_
              refine own_aload X605h hx 161 (hb hby at_159) rfl rfl ?_
              have f620 := ((f556.ext E551).keep Kp580)
              have f621 := (((f545.keep Kp548 (ninS ne529 nin0)).ext E551).keep Kp580 (ninS ne557 nin0))
              have f622 := (((f546.keep Kp548 (ninS ne529 nin0)).ext E551).keep Kp580 (ninS ne557 nin0))
              have f623 := ((f558.ext E551).keep Kp580 (ninS ne559 nin0))
              have f624 := (f576.keep Kp580)
              have f625 := (f577.keep Kp580 (ninS ne565 nin0))
              have f626 := (f578.keep Kp580 (ninS ne565 nin0))
              have f627 := (f579.keep Kp580 (ninS ne567 nin0))
              obtain ⟨_, _, ⟨T628, Lx628, kc628, nc628⟩, -, X628, ⟨Lc628, hQ628, lq628, yq628, zq628⟩, st628⟩ := Jvm.LawKit.callS X605h hx (y := (⟨"com/example/fates/fates/KeyEqualsPinLaw", "same", "(Ljava/lang/String;Ljava/lang/String;)Z"⟩ : MethodName)) hown (mvT hZ (hw _ (List.mem_of_getElem? (i := 75) rfl))) (mvT hZ (hw _ (List.mem_of_getElem? (i := 76) rfl))) (mvT hZ (hw _ (List.mem_of_getElem? (i := 2) rfl))) (mvT hZ (hw _ (List.mem_of_getElem? (i := 77) rfl))) (by decide) (backOf (W := 0) (own_rm15 l Z a0 hw [] cs S_cs hcs sf S_sf hsf so_484 so_504 b_484 kb_484 n_484 x_484 y_484 b_504 kb_504 n_504 x_504 y_504 T580.heap n0 Z582 f620 f621 f622 f623 f624 f625 f626 f627 O581 (P484_0 : own_N n_484) (P504_0 : own_N n_504) (P484_1 : own_B x_484 ∧ own_B y_484) (P504_1 : own_B x_504 ∧ own_B y_504)) hZ (hw _ (List.mem_of_getElem? (i := 77) rfl)) (hw _ (List.mem_of_getElem? (i := 2) rfl)) (by decide) (by decide)) (g := (mkF m 161 #[.val (.int v0), .val (.int v1), .val (.int v2), .val (.int v3), .val (.int v4), .val (.int v0), .val (.int v1), .val (.ref so_481), .val (.ref so_484), .val (.ref so_491), .val (.ref so_504), .val (.ref b523), .val (.ref b551), .val (.int (v4 &&& (3 : Int32))), .unset] [(.ref so_504), (.ref so_484)])) rfl (by rw [hml]; rfl) (argsL := [(.ref so_484), (.ref so_504)]) (rest := []) (lenOf own_pd18 rfl) rfl (by show 2 * 0 + _ ≤ _; exact Nat.le_of_eq rfl) (hb hby at_161) (fun _ _ => ⟨rfl, eh605, (by decide : 22 + 0 ≤ _), (by decide : 124 + 0 ≤ _)⟩)
              dsimp only [Pt.U, Pt.locs, Pt.cells, Pt.slots] at X628 lq628 yq628 zq628 st628 hQ628
              subst lq628 yq628 zq628
              obtain ⟨rfl, Nq628, eh628⟩ := hQ628
              have N628 := Fr.app N605h Nq628
              refine own_st (G' := T628.setTop (mkF m 164 #[.val (.int v0), .val (.int v1), .val (.int v2), .val (.int v3), .val (.int v4), .val (.int v0), .val (.int v1), .val (.ref so_481), .val (.ref so_484), .val (.ref so_491), .val (.ref so_504), .val (.ref b523), .val (.ref b551), .val (.int (v4 &&& (3 : Int32))), .unset] [(.int (own_eqB n_484 x_484 y_484 n_504 x_504 y_504))])) st628 ?_
              obtain ⟨_, X628h, N628h⟩ := own_hide X628 N628
              by_cases hc164_629 : (own_eqB n_484 x_484 y_484 n_504 x_504 y_504) = (0 : Int32)
              · refine own_ifYes X628h hx 171 (hb hby at_164) (teq hc164_629).1 ?_
                refine own_iconst X628h hx 172 (0 : Int32) (hb hby at_171) rfl ?_
                refine own_istore X628h hx 174 #[.val (.int v0), .val (.int v1), .val (.int v2), .val (.int v3), .val (.int v4), .val (.int v0), .val (.int v1), .val (.ref so_481), .val (.ref so_484), .val (.ref so_491), .val (.ref so_504), .val (.ref b523), .val (.ref b551), .val (.int (v4 &&& (3 : Int32))), .val (.int (0 : Int32))] (hb hby at_172) rfl ?_
                refine own_aload X628h hx 176 (hb hby at_174) rfl rfl ?_
                refine own_aload X628h hx 178 (hb hby at_176) rfl rfl ?_
                have f630 := ((G548_0.ext E551).keep Kp580)
                have f631 := ((G548_1.ext E551).keep Kp580 (ninS ne568 nin0))
                have f632 := ((G548_2.ext E551).keep Kp580 (ninS ne568 nin0))
                obtain ⟨cq633, kq633, q633a, q633b, q633c⟩ := isOf hZ eh628 f630
                obtain ⟨_, _, ⟨T633, Lx633, kc633, nc633⟩, -, X633, ⟨Lc633, hQ633, lq633, yq633, zq633⟩, st633⟩ := X628h.virtualBack hx (y := (⟨"com/example/fates/fates/Key", "equals", "(Ljava/lang/Object;)Z"⟩ : MethodName)) (z := (⟨"com/example/fates/fates/Key", "equals", "(Ljava/lang/Object;)Z"⟩ : MethodName)) hown (mvT hZ (hw _ (List.mem_of_getElem? (i := 101) rfl))) (mvT hZ (hw _ (List.mem_of_getElem? (i := 102) rfl))) (notFace_of_selects (args := #[]) (mvT hZ (hw _ (List.mem_of_getElem? (i := 104) rfl)))) (mvT hZ (hw _ (List.mem_of_getElem? (i := 104) rfl))) (mvT hZ (hw _ (List.mem_of_getElem? (i := 103) rfl))) (by decide) (backOf (W := 0) (own_rm21d l Z a0 hw [] cs S_cs hcs sf S_sf hsf b523 b551 so_481 so_484 so_491 so_504 b_481 kb_481 n_481 x_481 y_481 b_491 kb_491 n_491 x_491 y_491 b_484 kb_484 n_484 x_484 y_484 b_504 kb_504 n_504 x_504 y_504 T580.heap n0 Z582 f630 f631 f632 G580_0 G580_1 G580_2 f597 f598 f599 f600 f601 f602 f603 f604 f620 f621 f622 f623 f624 f625 f626 f627 O581 ne493 ne510 (P481_0 : own_N n_481) (P491_0 : own_N n_491) (P484_0 : own_N n_484) (P504_0 : own_N n_504)) hZ (hw _ (List.mem_of_getElem? (i := 105) rfl)) (hw _ (List.mem_of_getElem? (i := 36) rfl)) (by decide) (by decide)) q633a q633c (g := (mkF m 178 #[.val (.int v0), .val (.int v1), .val (.int v2), .val (.int v3), .val (.int v4), .val (.int v0), .val (.int v1), .val (.ref so_481), .val (.ref so_484), .val (.ref so_491), .val (.ref so_504), .val (.ref b523), .val (.ref b551), .val (.int (v4 &&& (3 : Int32))), .val (.int (0 : Int32))] [(.ref b551), (.ref b523)])) rfl (by rw [hml]; rfl) (Steps.refl _) (argsL := [(.ref b551)]) (rest := []) (lenOf own_pd15 rfl) rfl (by show 2 * 0 + _ ≤ _; exact Nat.le_of_eq rfl) (hb hby at_178) (fun _ _ => ⟨rfl, eh628, (by decide : 22 + 0 ≤ _), (by decide : 124 + 0 ≤ _)⟩)
                dsimp only [Pt.U, Pt.locs, Pt.cells, Pt.slots] at X633 lq633 yq633 zq633 st633 hQ633
                subst lq633 yq633 zq633
                obtain ⟨rfl, Nq633, eh633⟩ := hQ633
                have N633 := Fr.app N628h Nq633
                refine own_st (G' := T633.setTop (mkF m 181 #[.val (.int v0), .val (.int v1), .val (.int v2), .val (.int v3), .val (.int v4), .val (.int v0), .val (.int v1), .val (.ref so_481), .val (.ref so_484), .val (.ref so_491), .val (.ref so_504), .val (.ref b523), .val (.ref b551), .val (.int (v4 &&& (3 : Int32))), .val (.int (0 : Int32))] [(.int (own_keq (own_eqB n_481 x_481 y_481 n_491 x_491 y_491) (own_eqB n_484 x_484 y_484 n_504 x_504 y_504)))])) (fun t k => st633.trans k) ?_
                obtain ⟨_, X633h, N633h⟩ := own_hide X633 N633
                refine own_iload X633h hx 183 (hb hby at_181) rfl ?_
                refine own_icmpNo X633h hx 186 (hb hby at_183) (teq (by simp [own_keq, hc154_606, hc164_629] : (own_keq (own_eqB n_481 x_481 y_481 n_491 x_491 y_491) (own_eqB n_484 x_484 y_484 n_504 x_504 y_504)) = (0 : Int32))).2 ?_
                refine own_aload X633h hx 188 (hb hby at_186) rfl rfl ?_
                refine own_aload X633h hx 190 (hb hby at_188) rfl rfl ?_
                obtain ⟨cq634, kq634, q634a, q634b, q634c⟩ := isOf hZ eh633 G580_0
                obtain ⟨_, _, ⟨T634, Lx634, kc634, nc634⟩, -, X634, ⟨Lc634, hQ634, lq634, yq634, zq634⟩, st634⟩ := X633h.virtualBack hx (y := (⟨"com/example/fates/fates/Key", "equals", "(Ljava/lang/Object;)Z"⟩ : MethodName)) (z := (⟨"com/example/fates/fates/Key", "equals", "(Ljava/lang/Object;)Z"⟩ : MethodName)) hown (mvT hZ (hw _ (List.mem_of_getElem? (i := 101) rfl))) (mvT hZ (hw _ (List.mem_of_getElem? (i := 102) rfl))) (notFace_of_selects (args := #[]) (mvT hZ (hw _ (List.mem_of_getElem? (i := 104) rfl)))) (mvT hZ (hw _ (List.mem_of_getElem? (i := 104) rfl))) (mvT hZ (hw _ (List.mem_of_getElem? (i := 103) rfl))) (by decide) (backOf (W := 0) (own_rm21d l Z a0 hw [] cs S_cs hcs sf S_sf hsf b551 b523 so_491 so_504 so_481 so_484 b_491 kb_491 n_491 x_491 y_491 b_481 kb_481 n_481 x_481 y_481 b_504 kb_504 n_504 x_504 y_504 b_484 kb_484 n_484 x_484 y_484 T580.heap n0 Z582 G580_0 G580_1 G580_2 f630 f631 f632 f601 f602 f603 f604 f597 f598 f599 f600 f624 f625 f626 f627 f620 f621 f622 f623 O581 (Ne.symm ne493) (Ne.symm ne510) (P491_0 : own_N n_491) (P481_0 : own_N n_481) (P504_0 : own_N n_504) (P484_0 : own_N n_484)) hZ (hw _ (List.mem_of_getElem? (i := 105) rfl)) (hw _ (List.mem_of_getElem? (i := 36) rfl)) (by decide) (by decide)) q634a q634c (g := (mkF m 190 #[.val (.int v0), .val (.int v1), .val (.int v2), .val (.int v3), .val (.int v4), .val (.int v0), .val (.int v1), .val (.ref so_481), .val (.ref so_484), .val (.ref so_491), .val (.ref so_504), .val (.ref b523), .val (.ref b551), .val (.int (v4 &&& (3 : Int32))), .val (.int (0 : Int32))] [(.ref b523), (.ref b551)])) rfl (by rw [hml]; rfl) (Steps.refl _) (argsL := [(.ref b523)]) (rest := []) (lenOf own_pd15 rfl) rfl (by show 2 * 0 + _ ≤ _; exact Nat.le_of_eq rfl) (hb hby at_190) (fun _ _ => ⟨rfl, eh633, (by decide : 22 + 0 ≤ _), (by decide : 124 + 0 ≤ _)⟩)
                dsimp only [Pt.U, Pt.locs, Pt.cells, Pt.slots] at X634 lq634 yq634 zq634 st634 hQ634
                subst lq634 yq634 zq634
                obtain ⟨rfl, Nq634, eh634⟩ := hQ634
                have N634 := Fr.app N633h Nq634
                refine own_st (G' := T634.setTop (mkF m 193 #[.val (.int v0), .val (.int v1), .val (.int v2), .val (.int v3), .val (.int v4), .val (.int v0), .val (.int v1), .val (.ref so_481), .val (.ref so_484), .val (.ref so_491), .val (.ref so_504), .val (.ref b523), .val (.ref b551), .val (.int (v4 &&& (3 : Int32))), .val (.int (0 : Int32))] [(.int (own_keq (own_eqB n_491 x_491 y_491 n_481 x_481 y_481) (own_eqB n_504 x_504 y_504 n_484 x_484 y_484)))])) (fun t k => st634.trans k) ?_
                obtain ⟨_, X634h, N634h⟩ := own_hide X634 N634
                refine own_iload X634h hx 195 (hb hby at_193) rfl ?_
                refine own_icmpNo X634h hx 198 (hb hby at_195) (teq (by rw [own_eqs n_491 x_491 y_491 n_481 x_481 y_481, own_eqs n_504 x_504 y_504 n_484 x_484 y_484]; simp [own_keq, hc154_606, hc164_629] : (own_keq (own_eqB n_491 x_491 y_491 n_481 x_481 y_481) (own_eqB n_504 x_504 y_504 n_484 x_484 y_484)) = (0 : Int32))).2 ?_
                refine own_iconst X634h hx 199 (1 : Int32) (hb hby at_198) rfl ?_
                refine own_goto X634h hx 203 (hb hby at_199) ?_
                exact own_retNW (t := .boolean) (Q := own_Q0 Z cs S_cs hcs sf S_sf hsf v0 v1 v2 v3 v4 h0 n0) X634h hS580 (Nat.le_refl _) hx hrt (by simp) (hb hby at_203) hlk eh634 ⟨rfl, N634h⟩ (by decide) (by decide)
              · refine own_ifNo X628h hx 167 (hb hby at_164) (feq hc164_629).1 ?_
                refine own_iconst X628h hx 168 (1 : Int32) (hb hby at_167) rfl ?_
                refine own_goto X628h hx 172 (hb hby at_168) ?_
                refine own_istore X628h hx 174 #[.val (.int v0), .val (.int v1), .val (.int v2), .val (.int v3), .val (.int v4), .val (.int v0), .val (.int v1), .val (.ref so_481), .val (.ref so_484), .val (.ref so_491), .val (.ref so_504), .val (.ref b523), .val (.ref b551), .val (.int (v4 &&& (3 : Int32))), .val (.int (1 : Int32))] (hb hby at_172) rfl ?_
                refine own_aload X628h hx 176 (hb hby at_174) rfl rfl ?_
                refine own_aload X628h hx 178 (hb hby at_176) rfl rfl ?_
                have f635 := ((G548_0.ext E551).keep Kp580)
                have f636 := ((G548_1.ext E551).keep Kp580 (ninS ne568 nin0))
                have f637 := ((G548_2.ext E551).keep Kp580 (ninS ne568 nin0))
                obtain ⟨cq638, kq638, q638a, q638b, q638c⟩ := isOf hZ eh628 f635
                obtain ⟨_, _, ⟨T638, Lx638, kc638, nc638⟩, -, X638, ⟨Lc638, hQ638, lq638, yq638, zq638⟩, st638⟩ := X628h.virtualBack hx (y := (⟨"com/example/fates/fates/Key", "equals", "(Ljava/lang/Object;)Z"⟩ : MethodName)) (z := (⟨"com/example/fates/fates/Key", "equals", "(Ljava/lang/Object;)Z"⟩ : MethodName)) hown (mvT hZ (hw _ (List.mem_of_getElem? (i := 101) rfl))) (mvT hZ (hw _ (List.mem_of_getElem? (i := 102) rfl))) (notFace_of_selects (args := #[]) (mvT hZ (hw _ (List.mem_of_getElem? (i := 104) rfl)))) (mvT hZ (hw _ (List.mem_of_getElem? (i := 104) rfl))) (mvT hZ (hw _ (List.mem_of_getElem? (i := 103) rfl))) (by decide) (backOf (W := 0) (own_rm21d l Z a0 hw [] cs S_cs hcs sf S_sf hsf b523 b551 so_481 so_484 so_491 so_504 b_481 kb_481 n_481 x_481 y_481 b_491 kb_491 n_491 x_491 y_491 b_484 kb_484 n_484 x_484 y_484 b_504 kb_504 n_504 x_504 y_504 T580.heap n0 Z582 f635 f636 f637 G580_0 G580_1 G580_2 f597 f598 f599 f600 f601 f602 f603 f604 f620 f621 f622 f623 f624 f625 f626 f627 O581 ne493 ne510 (P481_0 : own_N n_481) (P491_0 : own_N n_491) (P484_0 : own_N n_484) (P504_0 : own_N n_504)) hZ (hw _ (List.mem_of_getElem? (i := 105) rfl)) (hw _ (List.mem_of_getElem? (i := 36) rfl)) (by decide) (by decide)) q638a q638c (g := (mkF m 178 #[.val (.int v0), .val (.int v1), .val (.int v2), .val (.int v3), .val (.int v4), .val (.int v0), .val (.int v1), .val (.ref so_481), .val (.ref so_484), .val (.ref so_491), .val (.ref so_504), .val (.ref b523), .val (.ref b551), .val (.int (v4 &&& (3 : Int32))), .val (.int (1 : Int32))] [(.ref b551), (.ref b523)])) rfl (by rw [hml]; rfl) (Steps.refl _) (argsL := [(.ref b551)]) (rest := []) (lenOf own_pd15 rfl) rfl (by show 2 * 0 + _ ≤ _; exact Nat.le_of_eq rfl) (hb hby at_178) (fun _ _ => ⟨rfl, eh628, (by decide : 22 + 0 ≤ _), (by decide : 124 + 0 ≤ _)⟩)
                dsimp only [Pt.U, Pt.locs, Pt.cells, Pt.slots] at X638 lq638 yq638 zq638 st638 hQ638
                subst lq638 yq638 zq638
                obtain ⟨rfl, Nq638, eh638⟩ := hQ638
                have N638 := Fr.app N628h Nq638
                refine own_st (G' := T638.setTop (mkF m 181 #[.val (.int v0), .val (.int v1), .val (.int v2), .val (.int v3), .val (.int v4), .val (.int v0), .val (.int v1), .val (.ref so_481), .val (.ref so_484), .val (.ref so_491), .val (.ref so_504), .val (.ref b523), .val (.ref b551), .val (.int (v4 &&& (3 : Int32))), .val (.int (1 : Int32))] [(.int (own_keq (own_eqB n_481 x_481 y_481 n_491 x_491 y_491) (own_eqB n_484 x_484 y_484 n_504 x_504 y_504)))])) (fun t k => st638.trans k) ?_
                obtain ⟨_, X638h, N638h⟩ := own_hide X638 N638
                refine own_iload X638h hx 183 (hb hby at_181) rfl ?_
                refine own_icmpNo X638h hx 186 (hb hby at_183) (teq (by simp [own_keq, hc154_606, hc164_629] : (own_keq (own_eqB n_481 x_481 y_481 n_491 x_491 y_491) (own_eqB n_484 x_484 y_484 n_504 x_504 y_504)) = (1 : Int32))).2 ?_
                refine own_aload X638h hx 188 (hb hby at_186) rfl rfl ?_
                refine own_aload X638h hx 190 (hb hby at_188) rfl rfl ?_
                obtain ⟨cq639, kq639, q639a, q639b, q639c⟩ := isOf hZ eh638 G580_0
                obtain ⟨_, _, ⟨T639, Lx639, kc639, nc639⟩, -, X639, ⟨Lc639, hQ639, lq639, yq639, zq639⟩, st639⟩ := X638h.virtualBack hx (y := (⟨"com/example/fates/fates/Key", "equals", "(Ljava/lang/Object;)Z"⟩ : MethodName)) (z := (⟨"com/example/fates/fates/Key", "equals", "(Ljava/lang/Object;)Z"⟩ : MethodName)) hown (mvT hZ (hw _ (List.mem_of_getElem? (i := 101) rfl))) (mvT hZ (hw _ (List.mem_of_getElem? (i := 102) rfl))) (notFace_of_selects (args := #[]) (mvT hZ (hw _ (List.mem_of_getElem? (i := 104) rfl)))) (mvT hZ (hw _ (List.mem_of_getElem? (i := 104) rfl))) (mvT hZ (hw _ (List.mem_of_getElem? (i := 103) rfl))) (by decide) (backOf (W := 0) (own_rm21d l Z a0 hw [] cs S_cs hcs sf S_sf hsf b551 b523 so_491 so_504 so_481 so_484 b_491 kb_491 n_491 x_491 y_491 b_481 kb_481 n_481 x_481 y_481 b_504 kb_504 n_504 x_504 y_504 b_484 kb_484 n_484 x_484 y_484 T580.heap n0 Z582 G580_0 G580_1 G580_2 f635 f636 f637 f601 f602 f603 f604 f597 f598 f599 f600 f624 f625 f626 f627 f620 f621 f622 f623 O581 (Ne.symm ne493) (Ne.symm ne510) (P491_0 : own_N n_491) (P481_0 : own_N n_481) (P504_0 : own_N n_504) (P484_0 : own_N n_484)) hZ (hw _ (List.mem_of_getElem? (i := 105) rfl)) (hw _ (List.mem_of_getElem? (i := 36) rfl)) (by decide) (by decide)) q639a q639c (g := (mkF m 190 #[.val (.int v0), .val (.int v1), .val (.int v2), .val (.int v3), .val (.int v4), .val (.int v0), .val (.int v1), .val (.ref so_481), .val (.ref so_484), .val (.ref so_491), .val (.ref so_504), .val (.ref b523), .val (.ref b551), .val (.int (v4 &&& (3 : Int32))), .val (.int (1 : Int32))] [(.ref b523), (.ref b551)])) rfl (by rw [hml]; rfl) (Steps.refl _) (argsL := [(.ref b523)]) (rest := []) (lenOf own_pd15 rfl) rfl (by show 2 * 0 + _ ≤ _; exact Nat.le_of_eq rfl) (hb hby at_190) (fun _ _ => ⟨rfl, eh638, (by decide : 22 + 0 ≤ _), (by decide : 124 + 0 ≤ _)⟩)
                dsimp only [Pt.U, Pt.locs, Pt.cells, Pt.slots] at X639 lq639 yq639 zq639 st639 hQ639
                subst lq639 yq639 zq639
                obtain ⟨rfl, Nq639, eh639⟩ := hQ639
                have N639 := Fr.app N638h Nq639
                refine own_st (G' := T639.setTop (mkF m 193 #[.val (.int v0), .val (.int v1), .val (.int v2), .val (.int v3), .val (.int v4), .val (.int v0), .val (.int v1), .val (.ref so_481), .val (.ref so_484), .val (.ref so_491), .val (.ref so_504), .val (.ref b523), .val (.ref b551), .val (.int (v4 &&& (3 : Int32))), .val (.int (1 : Int32))] [(.int (own_keq (own_eqB n_491 x_491 y_491 n_481 x_481 y_481) (own_eqB n_504 x_504 y_504 n_484 x_484 y_484)))])) (fun t k => st639.trans k) ?_
                obtain ⟨_, X639h, N639h⟩ := own_hide X639 N639
                refine own_iload X639h hx 195 (hb hby at_193) rfl ?_
                refine own_icmpNo X639h hx 198 (hb hby at_195) (teq (by rw [own_eqs n_491 x_491 y_491 n_481 x_481 y_481, own_eqs n_504 x_504 y_504 n_484 x_484 y_484]; simp [own_keq, hc154_606, hc164_629] : (own_keq (own_eqB n_491 x_491 y_491 n_481 x_481 y_481) (own_eqB n_504 x_504 y_504 n_484 x_484 y_484)) = (1 : Int32))).2 ?_
                refine own_iconst X639h hx 199 (1 : Int32) (hb hby at_198) rfl ?_
                refine own_goto X639h hx 203 (hb hby at_199) ?_
                exact own_retNW (t := .boolean) (Q := own_Q0 Z cs S_cs hcs sf S_sf hsf v0 v1 v2 v3 v4 h0 n0) X639h hS580 (Nat.le_refl _) hx hrt (by simp) (hb hby at_203) hlk eh639 ⟨rfl, N639h⟩ (by decide) (by decide)
set_option maxRecDepth 65536 in
set_option maxHeartbeats 40000000 in
theorem own_comes {Post : Tables → Env → Array Value → State → Outcome → State → Prop} (hpost : ∀ tb e args s v u, (limb_1_1.after args s (.returned v) u = true ∧ limb_1_2.after args s (.returned v) u = true ∧ True) → ReturnedEndW s (.returned v) u (Jvm.fieldLocs frame_1_writes args s ++ Jvm.arrayLocs frame_1_arrays args s ++ Jvm.staticLocs frame_1_statics s) 40 2240 → Post tb e args s (.returned v) u) :
    ArmFor flags0 classFile x code maxLocals ret World_1 tables_1 room_1 Calls_1 rest_1 Pre_1 Post := by
  intro l hfl _ _ p e ha hc hk s m args below hf hA hF happ hP
  obtain ⟨hcalls, hrest, hpre⟩ := hP
  obtain ⟨-, -, -, hnamed, -, -, -, hat⟩ := (Spec.applies_iff hf).mp happ
  obtain ⟨hg, hn⟩ := and_e (Cond.before_iff.mp (show (Jvm.Cond.and given_1 narrow_1).before args s = true from hpre))
  obtain ⟨g1, g2⟩ := and_e hg
  obtain ⟨g3, g4⟩ := and_e g2
  obtain ⟨g5, g6⟩ := and_e g4
  obtain ⟨g7, g8⟩ := and_e g6
  obtain ⟨g9, g10⟩ := and_e g8
  obtain ⟨w0, w1, w2, w3, w4, rfl⟩ : ∃ w0 w1 w2 w3 w4 : Value, args = #[w0, w1, w2, w3, w4] := by
    have hs : args.size = 5 := by simpa [Cond.value, given_1] using g1
    obtain ⟨L⟩ := args
    match L, hs with
    | [w0, w1, w2, w3, w4], _ => exact ⟨w0, w1, w2, w3, w4, rfl⟩
  have hw := fun d (hd : d ∈ tables_1) => atoms_spec (ws := Jvm.Cond.code x code maxLocals ret :: tables_1) hat d (List.mem_cons_of_mem _ hd)
  have hfit : Fit s := fun {y c} hc i hi => by
    obtain ⟨ha, rfl⟩ := Array.getElem?_eq_some_iff.mp hc
    have q := List.all_eq_true.mp ((Array.all_eq_true_iff_forall_mem.mp hF) _ (Array.getElem_mem ha)) i (List.mem_range.mpr hi)
    simpa [Array.getElem?_eq_getElem hi] using q
  obtain ⟨hsets, hown0⟩ := atoms_of _ (rest_1_c_eq ▸ (show rest_1_c.before _ s = true from hrest))
  have hr0 := Cond.before_iff.mp hown0
  obtain ⟨i0, ei0⟩ := is_v g3
  obtain rfl : w0 = (.int i0) := Option.some.inj ei0
  obtain ⟨i1, ei1⟩ := is_v g5
  obtain rfl : w1 = (.int i1) := Option.some.inj ei1
  obtain ⟨i2, ei2⟩ := is_v g7
  obtain rfl : w2 = (.int i2) := Option.some.inj ei2
  obtain ⟨i3, ei3⟩ := is_v g9
  obtain rfl : w3 = (.int i3) := Option.some.inj ei3
  obtain ⟨i4, ei4⟩ := is_v g10
  obtain rfl : w4 = (.int i4) := Option.some.inj ei4
  have n5 := not_v (Cond.before_iff.mp (hsets _ (List.mem_of_getElem? (i := 2) rfl)))
  obtain ⟨i11, e10⟩ := is_v (Cond.before_iff.mp (hsets _ (List.mem_of_getElem? (i := 1) rfl)))
  have S12 : Sta s s.heap "java/lang/String" "COMPACT_STRINGS" "Z" (.int i11) := Sta.start e10 (Or.inl (hsets _ (List.mem_of_getElem? (i := 0) rfl)))
  obtain ⟨v13, e14, r15⟩ := isR_v (Cond.before_iff.mp (hsets _ (List.mem_of_getElem? (i := 8) rfl)))
  have S16 : Sta s s.heap "jdk/internal/util/Preconditions" "SIOOBE_FORMATTER" "Ljava/util/function/BiFunction;" v13 := Sta.start e14 (Or.inl (hsets _ (List.mem_of_getElem? (i := 7) rfl)))
  have c17 : ¬ (i11 = (0 : Int32)) := gotF (Cond.eq_ints e10 (Term.int_eval (0))) n5
  obtain ⟨n, o, h1, h2, h3, _, L, rfl, ⟨rfl, N⟩, hq⟩ := own_rm0 l s _ hw tables_1 i11 S12 c17 v13 S16 r15 i0 i1 i2 i3 i4 s.heap s.heap.size (Nat.le_refl _) (Old.start s) p e ha hc hk s m _ below hf ((Spec.applies_iff_loose hf).mp happ).1 ⟨rfl, State.Warmed39.refl s, rfl⟩ trivial
  refine ⟨n, _, h1, h2, h3, hpost _ _ _ _ _ _ ⟨Cond.after_iff.mpr rfl, Cond.after_iff.mpr (eq_i res_at (Term.int_eval (1)) rfl), trivial⟩ ⟨hq.1, hq.2.1, hq.2.2.1, (hq.2.2.2.sift fun y hy => Or.inr (N y hy)).mono (by decide) (by decide)⟩⟩
theorem main_1_1 : Claimed_1_1 := own_comes fun _ _ _ _ _ _ h hF => ⟨h.1, hF⟩
theorem main_1_2 : Claimed_1_2 := own_comes fun _ _ _ _ _ _ h hF => ⟨h.2.1, hF⟩
end Jvm.Pilot.@@N@@
namespace Jvm.Pilot.@@N@@
open Jvm Jvm.ClassFile Sem Op Lib Jvm.Free Jvm.Stand Jvm.Pilot.@@N@@.Jvm.D
/-! MADE BY PROGRAM (witnessworld.py) out of the Statement's table words and the real class files: 22 classes; the members and pool entries that the words name. The judged class is class 1, her method 3. -/
namespace start1
open Jvm.ClassFile
def u (s : String) : CpInfo := .utf8 (stringToUtf16 s)
/-- a pool by its gaps: so many unusable entries, then the entry; so many at the end -/
def gap : Nat → List CpInfo → List CpInfo
  | 0, r => r
  | n + 1, r => .unusable :: gap n r
def poolList (es : List (Nat × CpInfo)) (last : Nat) : List CpInfo := es.foldr (fun e r => gap e.1 (e.2 :: r)) (gap last [])
def pool (es : List (Nat × CpInfo)) (last : Nat) : Array CpInfo := ⟨poolList es last⟩
def fileOf (pool : Array CpInfo) (this : Nat) (attrs : Array Attribute := #[]) (ms : Array MethodInfo := #[]) (fl : Nat := 33) (sup : Nat := 0) (ifs : Array Nat := #[]) (fds : Array FieldInfo := #[]) : ClassFile where
  minorVersion := 0
  majorVersion := 65
  constantPool := pool
  accessFlags := fl
  thisClass := this
  superClass := sup
  interfaces := ifs
  fields := fds
  methods := ms
  attributes := attrs
def plain (name : String) (sup : Option ClassId) : Class where
  name := name
  kind := .ordinary
  loader := none
  accessFlags := 33
  super := sup
  interfaces := #[]
  cf := none
  fields := #[]
  methods := #[]
  instanceTypes := #[]
  staticTypes := #[]
  resolved := #[]
  callSites := []
  init := .initialized
  statics := none
  mirror := none

def pool0 : Array CpInfo := pool [(5, u "<init>"), (0, u "()V"), (1, .class_ 10), (1, u "java/lang/Object")] 113

def k0c0 : Code := { maxStack := 0, maxLocals := 1, code := object_method_1_code, exceptionTable := #[], attributes := #[] }
def k0m0 : Method := { name := "<init>", desc := "()V", sig := { parameters := [], returnType := none }, accessFlags := 1, code := some k0c0 }
/-- java/lang/Object -/
def k0 : Class := { plain "java/lang/Object" none with
  accessFlags := 33
  interfaces := #[]
  cf := some (fileOf pool0 8 #[] #[{ accessFlags := 1, nameIndex := 5, descriptorIndex := 6, attributes := #[] }] 33 0 #[] #[])
  fields := #[]
  methods := #[k0m0]
  instanceTypes := #[]
  staticTypes := #[]
  resolved := Array.replicate 124 none
  statics := none }

def pool1 : Array CpInfo := pool [(2, .class_ 4), (1, u "java/lang/Object"), (0, u "<init>"), (0, u "()V"), (0, .class_ 8), (0, u "java/lang/String"), (0, .methodref 7 10), (0, .nameAndType 5 11), (0, u "([C)V"), (0, .methodref 7 13), (0, .nameAndType 14 15), (0, u "length"), (0, u "()I"), (0, .methodref 7 17), (0, .nameAndType 18 19), (0, u "charAt"), (0, u "(I)C"), (0, .methodref 21 22), (0, .class_ 23), (0, .nameAndType 24 25), (0, u "com/example/fates/fates/KeyEqualsPinLaw"), (0, u "str"), (0, u "(I)Ljava/lang/String;"), (0, .class_ 27), (0, u "com/example/fates/fates/Key"), (0, .methodref 26 29), (0, .nameAndType 5 30), (0, u "(Ljava/lang/String;Ljava/lang/String;)V"), (0, .methodref 26 32), (0, .nameAndType 33 34), (0, u "equals"), (0, u "(Ljava/lang/Object;)Z"), (0, .methodref 21 36), (0, .nameAndType 37 38), (0, u "same"), (0, u "(Ljava/lang/String;Ljava/lang/String;)Z"), (3, u "law"), (0, u "(IIIII)Z")] 2

def k1m0 : Method := { name := "<init>", desc := "()V", sig := { parameters := [], returnType := none }, accessFlags := 1, code := none }
def k1c1 : Code := { maxStack := 3, maxLocals := 4, code := method_2_code, exceptionTable := #[], attributes := #[] }
def k1m1 : Method := { name := "str", desc := "(I)Ljava/lang/String;", sig := { parameters := [.int], returnType := some (.object "java/lang/String") }, accessFlags := 10, code := some k1c1 }
def k1c2 : Code := { maxStack := 3, maxLocals := 2, code := method_3_code, exceptionTable := #[], attributes := #[] }
def k1m2 : Method := { name := "same", desc := "(Ljava/lang/String;Ljava/lang/String;)Z", sig := { parameters := [(.object "java/lang/String"), (.object "java/lang/String")], returnType := some .boolean }, accessFlags := 10, code := some k1c2 }
def k1c3 : Code := { maxStack := 4, maxLocals := 15, code := code, exceptionTable := #[], attributes := #[] }
def k1m3 : Method := { name := "law", desc := "(IIIII)Z", sig := { parameters := [.int, .int, .int, .int, .int], returnType := some .boolean }, accessFlags := 9, code := some k1c3 }
/-- com/example/fates/fates/KeyEqualsPinLaw -/
def k1 : Class := { plain "com/example/fates/fates/KeyEqualsPinLaw" (some 0) with
  accessFlags := 49
  interfaces := #[]
  cf := some (fileOf pool1 21 #[] #[{ accessFlags := 1, nameIndex := 5, descriptorIndex := 6, attributes := #[] }, { accessFlags := 10, nameIndex := 24, descriptorIndex := 25, attributes := #[] }, { accessFlags := 10, nameIndex := 37, descriptorIndex := 38, attributes := #[] }, { accessFlags := 9, nameIndex := 42, descriptorIndex := 43, attributes := #[] }] 49 2 #[] #[])
  fields := #[]
  methods := #[k1m0, k1m1, k1m2, k1m3]
  instanceTypes := #[]
  staticTypes := #[]
  resolved := Array.replicate 46 none
  statics := none }

def pool2 : Array CpInfo := pool [(1, .class_ 2), (0, u "java/io/Serializable"), (0, .class_ 4), (0, u "java/lang/Object")] 2

/-- java/io/Serializable -/
def k2 : Class := { plain "java/io/Serializable" (some 0) with
  accessFlags := 1537
  interfaces := #[]
  cf := some (fileOf pool2 1 #[] #[] 1537 3 #[] #[])
  fields := #[]
  methods := #[]
  instanceTypes := #[]
  staticTypes := #[]
  resolved := Array.replicate 7 none
  statics := none }

def pool3 : Array CpInfo := pool [(1, .class_ 2), (0, u "java/lang/Comparable"), (0, .class_ 4), (0, u "java/lang/Object")] 7

/-- java/lang/Comparable -/
def k3 : Class := { plain "java/lang/Comparable" (some 0) with
  accessFlags := 1537
  interfaces := #[]
  cf := some (fileOf pool3 1 #[] #[] 1537 3 #[] #[])
  fields := #[]
  methods := #[]
  instanceTypes := #[]
  staticTypes := #[]
  resolved := Array.replicate 12 none
  statics := none }

def pool4 : Array CpInfo := pool [(2, .class_ 4), (1, u "java/lang/CharSequence"), (42, .class_ 48), (0, u "java/lang/CharSequence$1CodePointIterator"), (10, .class_ 60), (0, u "java/lang/CharSequence$1CharIterator"), (5, .class_ 67), (0, u "java/lang/Object")] 63

/-- java/lang/CharSequence -/
def k4 : Class := { plain "java/lang/CharSequence" (some 0) with
  accessFlags := 1537
  interfaces := #[]
  cf := some (fileOf pool4 2 #[.nestMembers #[47, 59]] #[] 1537 66 #[] #[])
  fields := #[]
  methods := #[]
  instanceTypes := #[]
  staticTypes := #[]
  resolved := Array.replicate 131 none
  statics := none }

def pool5 : Array CpInfo := pool [(1, .class_ 2), (0, u "java/lang/constant/Constable"), (0, .class_ 4), (0, u "java/lang/Object")] 6

/-- java/lang/constant/Constable -/
def k5 : Class := { plain "java/lang/constant/Constable" (some 0) with
  accessFlags := 1537
  interfaces := #[]
  cf := some (fileOf pool5 1 #[] #[] 1537 3 #[] #[])
  fields := #[]
  methods := #[]
  instanceTypes := #[]
  staticTypes := #[]
  resolved := Array.replicate 11 none
  statics := none }

def pool6 : Array CpInfo := pool [(1, .class_ 2), (0, u "java/lang/constant/ConstantDesc"), (0, .class_ 4), (0, u "java/lang/Object")] 32

/-- java/lang/constant/ConstantDesc -/
def k6 : Class := { plain "java/lang/constant/ConstantDesc" (some 0) with
  accessFlags := 1537
  interfaces := #[]
  cf := some (fileOf pool6 1 #[] #[] 1537 3 #[] #[])
  fields := #[]
  methods := #[]
  instanceTypes := #[]
  staticTypes := #[]
  resolved := Array.replicate 37 none
  statics := none }

def pool7 : Array CpInfo := pool [(1, .methodref 2 3), (0, .class_ 4), (0, .nameAndType 5 6), (0, u "java/lang/Object"), (0, u "<init>"), (0, u "()V"), (2, .fieldref 10 11), (0, .class_ 12), (0, .nameAndType 13 14), (0, u "java/lang/String"), (0, u "value"), (0, u "[B"), (0, .fieldref 10 16), (0, .nameAndType 17 18), (0, u "coder"), (0, u "B"), (2, u "hash"), (0, u "I"), (2, u "hashIsZero"), (0, u "Z"), (0, .methodref 10 28), (0, .nameAndType 5 29), (0, u "([CIILjava/lang/Void;)V"), (8, .fieldref 10 39), (0, .nameAndType 40 26), (0, u "COMPACT_STRINGS"), (1, .class_ 44), (1, u "java/lang/StringUTF16"), (0, u "compress"), (1, .methodref 42 48), (0, .nameAndType 49 50), (0, u "coderFromArrayLen"), (0, u "([BI)B"), (56, .class_ 109), (1, u "java/lang/StringLatin1"), (32, u "()Z"), (34, .methodref 42 178), (0, .nameAndType 45 179), (0, u "([CII)[B"), (154, u "()I"), (0, .methodref 10 336), (0, .nameAndType 17 337), (0, u "()B"), (25, u "([BI)C"), (27, u "(II)V"), (35, u "(I)C"), (64, .methodref 10 493), (0, .nameAndType 494 142), (0, u "isLatin1"), (0, .methodref 107 496), (0, .nameAndType 497 363), (0, u "charAt"), (3, u "checkIndex"), (5, u "length"), (33, .methodref 107 542), (0, .nameAndType 543 544), (0, u "equals"), (0, u "([B[B)Z"), (28, u "(Ljava/lang/Object;)Z"), (1, .class_ 576), (0, u "java/lang/CharSequence"), (22, u "CASE_INSENSITIVE_ORDER"), (0, u "Ljava/util/Comparator;"), (91, u "isEmpty"), (317, u "([C)V"), (42, .fieldref 1054 1055), (0, .class_ 1056), (0, .nameAndType 1057 1058), (0, u "jdk/internal/util/Preconditions"), (0, u "SIOOBE_FORMATTER"), (0, u "Ljava/util/function/BiFunction;"), (0, .methodref 1054 1060), (0, .nameAndType 501 1061), (0, u "(IILjava/util/function/BiFunction;)I"), (39, u "serialPersistentFields"), (0, u "[Ljava/io/ObjectStreamField;"), (0, .class_ 1104), (0, u "java/lang/String$CaseInsensitiveComparator"), (1, .class_ 1107), (0, u "java/io/Serializable"), (0, .class_ 1109), (0, u "java/lang/Comparable"), (0, .class_ 1111), (0, u "java/lang/constant/Constable"), (0, .class_ 1113), (0, u "java/lang/constant/ConstantDesc"), (2, u "serialVersionUID"), (0, u "J"), (3, u "REPL"), (0, u "C"), (2, u "LATIN1"), (1, u "UTF16")] 323

def k7m0 : Method := { name := "<init>", desc := "()V", sig := { parameters := [], returnType := none }, accessFlags := 1, code := none }
def k7c1 : Code := { maxStack := 5, maxLocals := 2, code := jdk_42_method_3_code, exceptionTable := #[], attributes := #[] }
def k7m1 : Method := { name := "<init>", desc := "([C)V", sig := { parameters := [(.array .char)], returnType := none }, accessFlags := 1, code := some k7c1 }
def k7c2 : Code := { maxStack := 2, maxLocals := 1, code := jdk_42_method_54_code, exceptionTable := #[], attributes := #[] }
def k7m2 : Method := { name := "length", desc := "()I", sig := { parameters := [], returnType := some .int }, accessFlags := 1, code := some k7c2 }
def k7c3 : Code := { maxStack := 1, maxLocals := 1, code := jdk_42_method_55_code, exceptionTable := #[], attributes := #[] }
def k7m3 : Method := { name := "isEmpty", desc := "()Z", sig := { parameters := [], returnType := some .boolean }, accessFlags := 1, code := some k7c3 }
def k7c4 : Code := { maxStack := 2, maxLocals := 2, code := jdk_42_method_56_code, exceptionTable := #[], attributes := #[] }
def k7m4 : Method := { name := "charAt", desc := "(I)C", sig := { parameters := [.int], returnType := some .char }, accessFlags := 1, code := some k7c4 }
def k7c5 : Code := { maxStack := 2, maxLocals := 3, code := jdk_42_method_66_code, exceptionTable := #[], attributes := #[] }
def k7m5 : Method := { name := "equals", desc := "(Ljava/lang/Object;)Z", sig := { parameters := [(.object "java/lang/Object")], returnType := some .boolean }, accessFlags := 1, code := some k7c5 }
def k7c6 : Code := { maxStack := 4, maxLocals := 6, code := jdk_42_method_149_code, exceptionTable := #[], attributes := #[] }
def k7m6 : Method := { name := "<init>", desc := "([CIILjava/lang/Void;)V", sig := { parameters := [(.array .char), .int, .int, (.object "java/lang/Void")], returnType := none }, accessFlags := 2, code := some k7c6 }
def k7c7 : Code := { maxStack := 1, maxLocals := 1, code := jdk_42_method_152_code, exceptionTable := #[], attributes := #[] }
def k7m7 : Method := { name := "coder", desc := "()B", sig := { parameters := [], returnType := some .byte }, accessFlags := 0, code := some k7c7 }
def k7c8 : Code := { maxStack := 1, maxLocals := 1, code := jdk_42_method_154_code, exceptionTable := #[], attributes := #[] }
def k7m8 : Method := { name := "isLatin1", desc := "()Z", sig := { parameters := [], returnType := some .boolean }, accessFlags := 0, code := some k7c8 }
def k7c9 : Code := { maxStack := 3, maxLocals := 2, code := jdk_42_method_155_code, exceptionTable := #[], attributes := #[] }
def k7m9 : Method := { name := "checkIndex", desc := "(II)V", sig := { parameters := [.int, .int], returnType := none }, accessFlags := 8, code := some k7c9 }
/-- java/lang/String -/
def k7 : Class := { plain "java/lang/String" (some 0) with
  accessFlags := 49
  interfaces := #[2, 3, 4, 5, 6]
  cf := some (fileOf pool7 10 #[.nestMembers #[1103]] #[{ accessFlags := 1, nameIndex := 5, descriptorIndex := 6, attributes := #[] }, { accessFlags := 1, nameIndex := 5, descriptorIndex := 1010, attributes := #[] }, { accessFlags := 1, nameIndex := 507, descriptorIndex := 334, attributes := #[] }, { accessFlags := 1, nameIndex := 692, descriptorIndex := 142, attributes := #[] }, { accessFlags := 1, nameIndex := 497, descriptorIndex := 427, attributes := #[] }, { accessFlags := 1, nameIndex := 543, descriptorIndex := 573, attributes := #[] }, { accessFlags := 2, nameIndex := 5, descriptorIndex := 29, attributes := #[] }, { accessFlags := 0, nameIndex := 17, descriptorIndex := 337, attributes := #[] }, { accessFlags := 0, nameIndex := 494, descriptorIndex := 142, attributes := #[] }, { accessFlags := 8, nameIndex := 501, descriptorIndex := 391, attributes := #[] }] 49 2 #[1106, 1108, 575, 1110, 1112] #[{ accessFlags := 18, nameIndex := 13, descriptorIndex := 14, attributes := #[] }, { accessFlags := 18, nameIndex := 17, descriptorIndex := 18, attributes := #[] }, { accessFlags := 2, nameIndex := 21, descriptorIndex := 22, attributes := #[] }, { accessFlags := 2, nameIndex := 25, descriptorIndex := 26, attributes := #[] }, { accessFlags := 26, nameIndex := 1116, descriptorIndex := 1117, attributes := #[] }, { accessFlags := 24, nameIndex := 40, descriptorIndex := 26, attributes := #[] }, { accessFlags := 26, nameIndex := 1101, descriptorIndex := 1102, attributes := #[] }, { accessFlags := 26, nameIndex := 1121, descriptorIndex := 1122, attributes := #[] }, { accessFlags := 25, nameIndex := 599, descriptorIndex := 600, attributes := #[] }, { accessFlags := 24, nameIndex := 1125, descriptorIndex := 18, attributes := #[] }, { accessFlags := 24, nameIndex := 1127, descriptorIndex := 18, attributes := #[] }])
  fields := #[{ name := "value", type := (.array .byte), accessFlags := 18, slot := 0, constantValue := 0 }, { name := "coder", type := .byte, accessFlags := 18, slot := 1, constantValue := 0 }, { name := "hash", type := .int, accessFlags := 2, slot := 2, constantValue := 0 }, { name := "hashIsZero", type := .boolean, accessFlags := 2, slot := 3, constantValue := 0 }, { name := "serialVersionUID", type := .long, accessFlags := 26, slot := 0, constantValue := 0 }, { name := "COMPACT_STRINGS", type := .boolean, accessFlags := 24, slot := 1, constantValue := 0 }, { name := "serialPersistentFields", type := (.array (.object "java/io/ObjectStreamField")), accessFlags := 26, slot := 2, constantValue := 0 }, { name := "REPL", type := .char, accessFlags := 26, slot := 3, constantValue := 0 }, { name := "CASE_INSENSITIVE_ORDER", type := (.object "java/util/Comparator"), accessFlags := 25, slot := 4, constantValue := 0 }, { name := "LATIN1", type := .byte, accessFlags := 24, slot := 5, constantValue := 0 }, { name := "UTF16", type := .byte, accessFlags := 24, slot := 6, constantValue := 0 }]
  methods := #[k7m0, k7m1, k7m2, k7m3, k7m4, k7m5, k7m6, k7m7, k7m8, k7m9]
  instanceTypes := #[(.array .byte), .byte, .int, .boolean]
  staticTypes := #[.long, .boolean, (.array (.object "java/io/ObjectStreamField")), .char, (.object "java/util/Comparator"), .byte, .byte]
  resolved := Array.replicate 1451 none
  statics := some 0 }

def pool8 : Array CpInfo := pool [(6, .class_ 8), (1, u "java/lang/Object"), (0, u "<init>"), (0, u "()V"), (1, .class_ 14), (1, u "java/lang/StringUTF16"), (31, u "$assertionsDisabled"), (0, u "Z"), (13, u "HI_BYTE_SHIFT"), (0, u "I"), (2, u "LO_BYTE_SHIFT"), (49, .methodref 12 116), (0, .nameAndType 117 118), (0, u "compress"), (0, u "([CI[BII)I"), (3, u "([CII)[B"), (138, u "coderFromArrayLen"), (0, u "([BI)B"), (106, .class_ 371), (1, u "java/lang/StringUTF16$LinesSpliterator"), (58, u "MAX_LENGTH"), (196, .class_ 628), (0, u "java/lang/StringUTF16$CodePointsSpliterator"), (0, .class_ 630), (0, u "java/lang/StringUTF16$CharsSpliterator")] 4

def k8m0 : Method := { name := "<init>", desc := "()V", sig := { parameters := [], returnType := none }, accessFlags := 0, code := none }
def k8c1 : Code := { maxStack := 2, maxLocals := 2, code := jdk_52_method_15_code, exceptionTable := #[], attributes := #[] }
def k8m1 : Method := { name := "coderFromArrayLen", desc := "([BI)B", sig := { parameters := [(.array .byte), .int], returnType := some .byte }, accessFlags := 8, code := some k8c1 }
def k8c2 : Code := { maxStack := 5, maxLocals := 6, code := jdk_52_method_16_code, exceptionTable := #[], attributes := #[] }
def k8m2 : Method := { name := "compress", desc := "([CII)[B", sig := { parameters := [(.array .char), .int, .int], returnType := some (.array .byte) }, accessFlags := 9, code := some k8c2 }
def k8c3 : Code := { maxStack := 3, maxLocals := 7, code := jdk_52_method_21_code, exceptionTable := #[], attributes := #[] }
def k8m3 : Method := { name := "compress", desc := "([CI[BII)I", sig := { parameters := [(.array .char), .int, (.array .byte), .int, .int], returnType := some .int }, accessFlags := 9, code := some k8c3 }
/-- java/lang/StringUTF16 -/
def k8 : Class := { plain "java/lang/StringUTF16" (some 0) with
  accessFlags := 48
  interfaces := #[]
  cf := some (fileOf pool8 12 #[.nestMembers #[627, 629, 369]] #[{ accessFlags := 0, nameIndex := 9, descriptorIndex := 10, attributes := #[] }, { accessFlags := 8, nameIndex := 261, descriptorIndex := 262, attributes := #[] }, { accessFlags := 9, nameIndex := 117, descriptorIndex := 122, attributes := #[] }, { accessFlags := 9, nameIndex := 117, descriptorIndex := 118, attributes := #[] }] 48 6 #[] #[{ accessFlags := 26, nameIndex := 61, descriptorIndex := 62, attributes := #[] }, { accessFlags := 26, nameIndex := 65, descriptorIndex := 62, attributes := #[] }, { accessFlags := 24, nameIndex := 430, descriptorIndex := 62, attributes := #[] }, { accessFlags := 4120, nameIndex := 46, descriptorIndex := 47, attributes := #[] }])
  fields := #[{ name := "HI_BYTE_SHIFT", type := .int, accessFlags := 26, slot := 0, constantValue := 0 }, { name := "LO_BYTE_SHIFT", type := .int, accessFlags := 26, slot := 1, constantValue := 0 }, { name := "MAX_LENGTH", type := .int, accessFlags := 24, slot := 2, constantValue := 0 }, { name := "$assertionsDisabled", type := .boolean, accessFlags := 4120, slot := 3, constantValue := 0 }]
  methods := #[k8m0, k8m1, k8m2, k8m3]
  instanceTypes := #[]
  staticTypes := #[.int, .int, .int, .boolean]
  resolved := Array.replicate 635 none
  statics := none }

def pool9 : Array CpInfo := pool [(1, .methodref 2 3), (0, .class_ 4), (0, .nameAndType 5 6), (0, u "java/lang/Object"), (0, u "<init>"), (0, u "()V"), (0, .string 8), (0, u "group"), (0, .class_ 10), (0, u "com/example/fates/fates/Key"), (0, .methodref 12 13), (0, .class_ 14), (0, .nameAndType 15 16), (0, u "com/example/fates/fates/Lengths"), (0, u "nonEmptyAtMost"), (0, u "(Ljava/lang/String;Ljava/lang/String;I)Ljava/lang/String;"), (0, .fieldref 9 18), (0, .nameAndType 8 19), (0, u "Ljava/lang/String;"), (0, .string 21), (0, u "name"), (0, .fieldref 9 23), (0, .nameAndType 21 19), (0, .methodref 25 26), (0, .class_ 27), (0, .nameAndType 28 29), (0, u "java/lang/String"), (0, u "equals"), (0, u "(Ljava/lang/Object;)Z"), (8, u "MAX_LENGTH"), (0, u "I"), (2, u "(Ljava/lang/String;Ljava/lang/String;)V")] 22

def k9c0 : Code := { maxStack := 4, maxLocals := 3, code := prog_10_method_1_code, exceptionTable := #[], attributes := #[] }
def k9m0 : Method := { name := "<init>", desc := "(Ljava/lang/String;Ljava/lang/String;)V", sig := { parameters := [(.object "java/lang/String"), (.object "java/lang/String")], returnType := none }, accessFlags := 1, code := some k9c0 }
def k9c1 : Code := { maxStack := 2, maxLocals := 3, code := prog_10_method_4_code, exceptionTable := #[], attributes := #[] }
def k9m1 : Method := { name := "equals", desc := "(Ljava/lang/Object;)Z", sig := { parameters := [(.object "java/lang/Object")], returnType := some .boolean }, accessFlags := 1, code := some k9c1 }
/-- com/example/fates/fates/Key -/
def k9 : Class := { plain "com/example/fates/fates/Key" (some 0) with
  accessFlags := 33
  interfaces := #[]
  cf := some (fileOf pool9 9 #[] #[{ accessFlags := 1, nameIndex := 5, descriptorIndex := 42, attributes := #[] }, { accessFlags := 1, nameIndex := 28, descriptorIndex := 29, attributes := #[] }] 33 2 #[] #[{ accessFlags := 25, nameIndex := 38, descriptorIndex := 39, attributes := #[] }, { accessFlags := 18, nameIndex := 8, descriptorIndex := 19, attributes := #[] }, { accessFlags := 18, nameIndex := 21, descriptorIndex := 19, attributes := #[] }])
  fields := #[{ name := "MAX_LENGTH", type := .int, accessFlags := 25, slot := 0, constantValue := 0 }, { name := "group", type := (.object "java/lang/String"), accessFlags := 18, slot := 0, constantValue := 0 }, { name := "name", type := (.object "java/lang/String"), accessFlags := 18, slot := 1, constantValue := 0 }]
  methods := #[k9m0, k9m1]
  instanceTypes := #[(.object "java/lang/String"), (.object "java/lang/String")]
  staticTypes := #[.int]
  resolved := Array.replicate 65 none
  statics := none }

def pool10 : Array CpInfo := pool [(2, .class_ 4), (1, u "java/lang/Object"), (0, u "<init>"), (0, u "()V"), (0, .methodref 8 9), (0, .class_ 10), (0, .nameAndType 11 12), (0, u "java/util/Objects"), (0, u "requireNonNull"), (0, u "(Ljava/lang/Object;Ljava/lang/String;)Ljava/lang/Object;"), (0, .methodref 14 15), (0, .class_ 16), (0, .nameAndType 17 18), (0, u "java/lang/String"), (0, u "isEmpty"), (0, u "()Z"), (9, .methodref 29 30), (0, .class_ 31), (0, .nameAndType 32 33), (0, u "com/example/fates/fates/Lengths"), (0, u "atMost"), (0, u "(Ljava/lang/String;Ljava/lang/String;I)Ljava/lang/String;"), (0, .methodref 14 35), (0, .nameAndType 36 37), (0, u "length"), (0, u "()I"), (5, u "nonEmptyAtMost")] 20

def k10m0 : Method := { name := "<init>", desc := "()V", sig := { parameters := [], returnType := none }, accessFlags := 2, code := none }
def k10c1 : Code := { maxStack := 3, maxLocals := 3, code := prog_12_method_2_code, exceptionTable := #[], attributes := #[] }
def k10m1 : Method := { name := "nonEmptyAtMost", desc := "(Ljava/lang/String;Ljava/lang/String;I)Ljava/lang/String;", sig := { parameters := [(.object "java/lang/String"), (.object "java/lang/String"), .int], returnType := some (.object "java/lang/String") }, accessFlags := 9, code := some k10c1 }
def k10c2 : Code := { maxStack := 5, maxLocals := 3, code := prog_12_method_3_code, exceptionTable := #[], attributes := #[] }
def k10m2 : Method := { name := "atMost", desc := "(Ljava/lang/String;Ljava/lang/String;I)Ljava/lang/String;", sig := { parameters := [(.object "java/lang/String"), (.object "java/lang/String"), .int], returnType := some (.object "java/lang/String") }, accessFlags := 9, code := some k10c2 }
/-- com/example/fates/fates/Lengths -/
def k10 : Class := { plain "com/example/fates/fates/Lengths" (some 0) with
  accessFlags := 33
  interfaces := #[]
  cf := some (fileOf pool10 29 #[] #[{ accessFlags := 2, nameIndex := 5, descriptorIndex := 6, attributes := #[] }, { accessFlags := 9, nameIndex := 43, descriptorIndex := 33, attributes := #[] }, { accessFlags := 9, nameIndex := 32, descriptorIndex := 33, attributes := #[] }] 33 2 #[] #[])
  fields := #[]
  methods := #[k10m0, k10m1, k10m2]
  instanceTypes := #[]
  staticTypes := #[]
  resolved := Array.replicate 64 none
  statics := none }

def pool11 : Array CpInfo := pool [(2, .class_ 4), (1, u "java/lang/Object"), (0, u "<init>"), (0, u "()V"), (35, .class_ 44), (1, u "java/util/Objects"), (0, u "requireNonNull"), (48, u "(Ljava/lang/Object;Ljava/lang/String;)Ljava/lang/Object;")] 89

def k11m0 : Method := { name := "<init>", desc := "()V", sig := { parameters := [], returnType := none }, accessFlags := 2, code := none }
def k11c1 : Code := { maxStack := 3, maxLocals := 2, code := jdk_31_method_11_code, exceptionTable := #[], attributes := #[] }
def k11m1 : Method := { name := "requireNonNull", desc := "(Ljava/lang/Object;Ljava/lang/String;)Ljava/lang/Object;", sig := { parameters := [(.object "java/lang/Object"), (.object "java/lang/String")], returnType := some (.object "java/lang/Object") }, accessFlags := 9, code := some k11c1 }
/-- java/util/Objects -/
def k11 : Class := { plain "java/util/Objects" (some 0) with
  accessFlags := 49
  interfaces := #[]
  cf := some (fileOf pool11 42 #[] #[{ accessFlags := 2, nameIndex := 5, descriptorIndex := 6, attributes := #[] }, { accessFlags := 9, nameIndex := 45, descriptorIndex := 94, attributes := #[] }] 49 2 #[] #[])
  fields := #[]
  methods := #[k11m0, k11m1]
  instanceTypes := #[]
  staticTypes := #[]
  resolved := Array.replicate 184 none
  statics := none }

def pool12 : Array CpInfo := pool [(1, .class_ 2), (0, u "java/lang/String"), (1, .class_ 6), (1, u "java/lang/Object"), (0, u "<init>"), (0, u "()V"), (0, .methodref 1 10), (0, .nameAndType 11 12), (0, u "checkIndex"), (0, u "(II)V"), (1, .class_ 16), (1, u "java/lang/StringLatin1"), (36, u "([BI)C"), (67, u "$assertionsDisabled"), (0, u "Z"), (98, .class_ 223), (1, u "java/lang/StringLatin1$LinesSpliterator"), (28, u "charAt"), (28, u "equals"), (0, u "([B[B)Z"), (107, .class_ 391), (0, u "java/lang/StringLatin1$CharsSpliterator")] 3

def k12m0 : Method := { name := "<init>", desc := "()V", sig := { parameters := [], returnType := none }, accessFlags := 0, code := none }
def k12c1 : Code := { maxStack := 2, maxLocals := 2, code := jdk_43_method_2_code, exceptionTable := #[], attributes := #[] }
def k12m1 : Method := { name := "charAt", desc := "([BI)C", sig := { parameters := [(.array .byte), .int], returnType := some .char }, accessFlags := 9, code := some k12c1 }
def k12c2 : Code := { maxStack := 3, maxLocals := 3, code := jdk_43_method_13_code, exceptionTable := #[], attributes := #[] }
def k12m2 : Method := { name := "equals", desc := "([B[B)Z", sig := { parameters := [(.array .byte), (.array .byte)], returnType := some .boolean }, accessFlags := 9, code := some k12c2 }
/-- java/lang/StringLatin1 -/
def k12 : Class := { plain "java/lang/StringLatin1" (some 0) with
  accessFlags := 48
  interfaces := #[]
  cf := some (fileOf pool12 14 #[.nestMembers #[390, 221]] #[{ accessFlags := 0, nameIndex := 7, descriptorIndex := 8, attributes := #[] }, { accessFlags := 9, nameIndex := 252, descriptorIndex := 53, attributes := #[] }, { accessFlags := 9, nameIndex := 281, descriptorIndex := 282, attributes := #[] }] 48 4 #[] #[{ accessFlags := 4120, nameIndex := 121, descriptorIndex := 122, attributes := #[] }])
  fields := #[{ name := "$assertionsDisabled", type := .boolean, accessFlags := 4120, slot := 0, constantValue := 0 }]
  methods := #[k12m0, k12m1, k12m2]
  instanceTypes := #[]
  staticTypes := #[.boolean]
  resolved := Array.replicate 395 none
  statics := none }

def pool13 : Array CpInfo := pool [(2, .class_ 4), (1, u "java/lang/Object"), (0, u "<init>"), (0, u "()V"), (17, .class_ 26), (1, u "jdk/internal/util/Preconditions"), (6, u "checkIndex"), (21, .class_ 56), (0, u "jdk/internal/util/Preconditions$4"), (57, .class_ 115), (0, u "jdk/internal/util/Preconditions$1"), (7, u "SIOOBE_FORMATTER"), (0, u "Ljava/util/function/BiFunction;"), (0, .class_ 126), (0, u "jdk/internal/util/Preconditions$2"), (3, u "AIOOBE_FORMATTER"), (0, .class_ 132), (0, u "jdk/internal/util/Preconditions$3"), (3, u "IOOBE_FORMATTER"), (41, u "(IILjava/util/function/BiFunction;)I")] 15

def k13m0 : Method := { name := "<init>", desc := "()V", sig := { parameters := [], returnType := none }, accessFlags := 1, code := none }
def k13c1 : Code := { maxStack := 3, maxLocals := 3, code := jdk_41_method_11_code, exceptionTable := #[], attributes := #[] }
def k13m1 : Method := { name := "checkIndex", desc := "(IILjava/util/function/BiFunction;)I", sig := { parameters := [.int, .int, (.object "java/util/function/BiFunction")], returnType := some .int }, accessFlags := 9, code := some k13c1 }
/-- jdk/internal/util/Preconditions -/
def k13 : Class := { plain "jdk/internal/util/Preconditions" (some 0) with
  accessFlags := 33
  interfaces := #[]
  cf := some (fileOf pool13 24 #[.nestMembers #[55, 131, 125, 114]] #[{ accessFlags := 1, nameIndex := 5, descriptorIndex := 6, attributes := #[] }, { accessFlags := 9, nameIndex := 33, descriptorIndex := 178, attributes := #[] }] 33 2 #[] #[{ accessFlags := 25, nameIndex := 123, descriptorIndex := 124, attributes := #[] }, { accessFlags := 25, nameIndex := 130, descriptorIndex := 124, attributes := #[] }, { accessFlags := 25, nameIndex := 136, descriptorIndex := 124, attributes := #[] }])
  fields := #[{ name := "SIOOBE_FORMATTER", type := (.object "java/util/function/BiFunction"), accessFlags := 25, slot := 0, constantValue := 0 }, { name := "AIOOBE_FORMATTER", type := (.object "java/util/function/BiFunction"), accessFlags := 25, slot := 1, constantValue := 0 }, { name := "IOOBE_FORMATTER", type := (.object "java/util/function/BiFunction"), accessFlags := 25, slot := 2, constantValue := 0 }]
  methods := #[k13m0, k13m1]
  instanceTypes := #[]
  staticTypes := #[(.object "java/util/function/BiFunction"), (.object "java/util/function/BiFunction"), (.object "java/util/function/BiFunction")]
  resolved := Array.replicate 194 none
  statics := some 1 }

def pool14 : Array CpInfo := pool [(9, u "<init>"), (6, .class_ 18), (1, u "java/lang/Object"), (0, u "()V"), (1, .class_ 23), (1, u "jdk/internal/util/ArraysSupport"), (0, u "LOG2_ARRAY_LONG_INDEX_SCALE"), (0, u "I"), (2, u "U"), (0, u "Ljdk/internal/misc/Unsafe;"), (8, u "BIG_ENDIAN"), (0, u "Z"), (8, u "LOG2_BYTE_BIT_SIZE"), (4, u "LOG2_ARRAY_INT_INDEX_SCALE"), (54, u "JLA"), (0, u "Ljdk/internal/access/JavaLangAccess;"), (11, u "LOG2_ARRAY_BOOLEAN_INDEX_SCALE"), (9, u "LOG2_ARRAY_BYTE_INDEX_SCALE"), (5, u "LOG2_ARRAY_CHAR_INDEX_SCALE"), (5, u "LOG2_ARRAY_SHORT_INDEX_SCALE"), (18, u "LOG2_ARRAY_FLOAT_INDEX_SCALE"), (24, u "LOG2_ARRAY_DOUBLE_INDEX_SCALE"), (89, u "T_BOOLEAN"), (2, u "T_CHAR"), (1, u "T_FLOAT"), (1, u "T_DOUBLE"), (1, u "T_BYTE"), (1, u "T_SHORT"), (1, u "T_INT"), (1, u "T_LONG"), (1, u "SOFT_MAX_ARRAY_LENGTH")] 83

def k14m0 : Method := { name := "<init>", desc := "()V", sig := { parameters := [], returnType := none }, accessFlags := 2, code := none }
/-- jdk/internal/util/ArraysSupport -/
def k14 : Class := { plain "jdk/internal/util/ArraysSupport" (some 0) with
  accessFlags := 33
  interfaces := #[]
  cf := some (fileOf pool14 21 #[] #[{ accessFlags := 2, nameIndex := 9, descriptorIndex := 19, attributes := #[] }] 33 16 #[] #[{ accessFlags := 24, nameIndex := 28, descriptorIndex := 29, attributes := #[] }, { accessFlags := 26, nameIndex := 38, descriptorIndex := 39, attributes := #[] }, { accessFlags := 25, nameIndex := 121, descriptorIndex := 25, attributes := #[] }, { accessFlags := 25, nameIndex := 131, descriptorIndex := 25, attributes := #[] }, { accessFlags := 25, nameIndex := 137, descriptorIndex := 25, attributes := #[] }, { accessFlags := 25, nameIndex := 143, descriptorIndex := 25, attributes := #[] }, { accessFlags := 25, nameIndex := 53, descriptorIndex := 25, attributes := #[] }, { accessFlags := 25, nameIndex := 24, descriptorIndex := 25, attributes := #[] }, { accessFlags := 25, nameIndex := 162, descriptorIndex := 25, attributes := #[] }, { accessFlags := 25, nameIndex := 187, descriptorIndex := 25, attributes := #[] }, { accessFlags := 26, nameIndex := 48, descriptorIndex := 25, attributes := #[] }, { accessFlags := 25, nameIndex := 277, descriptorIndex := 25, attributes := #[] }, { accessFlags := 25, nameIndex := 280, descriptorIndex := 25, attributes := #[] }, { accessFlags := 25, nameIndex := 282, descriptorIndex := 25, attributes := #[] }, { accessFlags := 25, nameIndex := 284, descriptorIndex := 25, attributes := #[] }, { accessFlags := 25, nameIndex := 286, descriptorIndex := 25, attributes := #[] }, { accessFlags := 25, nameIndex := 288, descriptorIndex := 25, attributes := #[] }, { accessFlags := 25, nameIndex := 290, descriptorIndex := 25, attributes := #[] }, { accessFlags := 25, nameIndex := 292, descriptorIndex := 25, attributes := #[] }, { accessFlags := 26, nameIndex := 108, descriptorIndex := 109, attributes := #[] }, { accessFlags := 25, nameIndex := 294, descriptorIndex := 25, attributes := #[] }])
  fields := #[{ name := "U", type := (.object "jdk/internal/misc/Unsafe"), accessFlags := 24, slot := 0, constantValue := 0 }, { name := "BIG_ENDIAN", type := .boolean, accessFlags := 26, slot := 1, constantValue := 0 }, { name := "LOG2_ARRAY_BOOLEAN_INDEX_SCALE", type := .int, accessFlags := 25, slot := 2, constantValue := 0 }, { name := "LOG2_ARRAY_BYTE_INDEX_SCALE", type := .int, accessFlags := 25, slot := 3, constantValue := 0 }, { name := "LOG2_ARRAY_CHAR_INDEX_SCALE", type := .int, accessFlags := 25, slot := 4, constantValue := 0 }, { name := "LOG2_ARRAY_SHORT_INDEX_SCALE", type := .int, accessFlags := 25, slot := 5, constantValue := 0 }, { name := "LOG2_ARRAY_INT_INDEX_SCALE", type := .int, accessFlags := 25, slot := 6, constantValue := 0 }, { name := "LOG2_ARRAY_LONG_INDEX_SCALE", type := .int, accessFlags := 25, slot := 7, constantValue := 0 }, { name := "LOG2_ARRAY_FLOAT_INDEX_SCALE", type := .int, accessFlags := 25, slot := 8, constantValue := 0 }, { name := "LOG2_ARRAY_DOUBLE_INDEX_SCALE", type := .int, accessFlags := 25, slot := 9, constantValue := 0 }, { name := "LOG2_BYTE_BIT_SIZE", type := .int, accessFlags := 26, slot := 10, constantValue := 0 }, { name := "T_BOOLEAN", type := .int, accessFlags := 25, slot := 11, constantValue := 0 }, { name := "T_CHAR", type := .int, accessFlags := 25, slot := 12, constantValue := 0 }, { name := "T_FLOAT", type := .int, accessFlags := 25, slot := 13, constantValue := 0 }, { name := "T_DOUBLE", type := .int, accessFlags := 25, slot := 14, constantValue := 0 }, { name := "T_BYTE", type := .int, accessFlags := 25, slot := 15, constantValue := 0 }, { name := "T_SHORT", type := .int, accessFlags := 25, slot := 16, constantValue := 0 }, { name := "T_INT", type := .int, accessFlags := 25, slot := 17, constantValue := 0 }, { name := "T_LONG", type := .int, accessFlags := 25, slot := 18, constantValue := 0 }, { name := "JLA", type := (.object "jdk/internal/access/JavaLangAccess"), accessFlags := 26, slot := 19, constantValue := 0 }, { name := "SOFT_MAX_ARRAY_LENGTH", type := .int, accessFlags := 25, slot := 20, constantValue := 0 }]
  methods := #[k14m0]
  instanceTypes := #[]
  staticTypes := #[(.object "jdk/internal/misc/Unsafe"), .boolean, .int, .int, .int, .int, .int, .int, .int, .int, .int, .int, .int, .int, .int, .int, .int, .int, .int, (.object "jdk/internal/access/JavaLangAccess"), .int]
  resolved := Array.replicate 378 none
  statics := none }

def pool15 : Array CpInfo := pool [(1, u "java/lang/Cloneable"), (0, .class_ 1), (0, u "java/lang/Object"), (0, .class_ 3)] 3

/-- java/lang/Cloneable -/
def k15 : Class := { plain "java/lang/Cloneable" (some 0) with
  accessFlags := 1537
  interfaces := #[]
  cf := some (fileOf pool15 2 #[] #[] 1537 4 #[] #[])
  fields := #[]
  methods := #[]
  instanceTypes := #[]
  staticTypes := #[]
  resolved := Array.replicate 8 none
  statics := none }

/-- the primitive byte -/
def k16 : Class := { plain "byte" none with kind := .primitive 'B', accessFlags := 0x411 }
/-- [B -/
def k17 : Class := { plain "[B" (some 0) with kind := .array 16 .byte, interfaces := #[15, 2], accessFlags := 1041 }

/-- the primitive char -/
def k18 : Class := { plain "char" none with kind := .primitive 'C', accessFlags := 0x411 }
/-- [C -/
def k19 : Class := { plain "[C" (some 0) with kind := .array 18 .char, interfaces := #[15, 2], accessFlags := 1041 }

/-- the primitive int -/
def k20 : Class := { plain "int" none with kind := .primitive 'I', accessFlags := 0x411 }
/-- [I -/
def k21 : Class := { plain "[I" (some 0) with kind := .array 20 .int, interfaces := #[15, 2], accessFlags := 1041 }

def heap : Heap := #[{ cls := 7, slots := #[.long 0, .int 1, .null, .int 0, .null, .int 0, .int 0], vm := .statics 7 },
  { cls := 13, slots := #[.null, .null, .null], vm := .statics 13 }]
def classes : Array Class := #[k0, k1, k2, k3, k4, k5, k6, k7, k8, k9, k10, k11, k12, k13, k14, k15, k16, k17, k18, k19, k20, k21]
def interned : List (Array UInt16 × Addr) := []
def slotsUsed : Nat := 10
def theMethod : MethodId := ⟨1, 3⟩
def args0 : Array Value := #[.int 3, .int 5, .int 1, .int 2, .int 0]
def aboutOver (below : List Frame) : State where
  vm := { classes := classes, interned := interned.toArray }
  heap := heap
  slotsUsed := slotsUsed
  threads := #[{ frames := .invoking theMethod args0 :: below }]
def below0 : List Frame := [.native { method := ⟨0, 0⟩, args := #[] }]
def about1 : State := aboutOver below0
def p0 : Program := .bare "" "" ""
def e0 : Env := launch0.env 0 0 0
theorem w_frames : about1.frames = Frame.invoking theMethod args0 :: below0 := rfl
set_option maxRecDepth 65536 in
theorem w_args : argsFit about1.vm theMethod args0 = true := by decide +kernel
set_option maxRecDepth 65536 in
theorem w_heap : heapFits about1 = true := by decide +kernel
set_option maxRecDepth 65536 in
theorem w_runnable : about1.curStatus? = some .runnable := by decide +kernel
set_option maxRecDepth 65536 in
theorem w_alone : about1.alone = true := by decide +kernel
set_option maxRecDepth 65536 in
theorem w_named : about1.methodNamed? x = some theMethod := by decide +kernel
set_option maxRecDepth 65536 in
theorem w_hears : about1.hears theMethod below0 = true := by decide +kernel
set_option maxRecDepth 65536 in
theorem w_ripe : about1.ripe theMethod args0 below0 = true := by decide +kernel
theorem w_running : about1.status = .running := rfl
set_option maxRecDepth 65536 in
theorem w_room : about1.hasRoom e0.platform room_1 = true :=
  launch0.hasRoom_least _ room_1 (by decide +kernel) (by decide +kernel) (by decide +kernel) (by decide +kernel) (by decide +kernel) (by decide +kernel)
theorem allAtoms_all (ts : List Jvm.Cond) (a : Array Jvm.Value) (st : Jvm.State) : (allAtoms ts).before a st = ts.all (fun c => c.before a st) := by
  induction ts with
  | nil => rfl
  | cons c t ih =>
    show (Jvm.Cond.and c (allAtoms t)).before a st = _
    rw [Jvm.Cond.before_and, ih, List.all_cons]
def words1 : List Jvm.Cond := Jvm.Cond.code x code maxLocals ret :: tables_1
/-- a 'code' word, met by the world's own term for the bytes: nothing is compared byte by byte -/
theorem code_word {y : MethodName} {bytes : ByteArray} {mx : Nat} {rt : Option FieldType} {a : Array Value} {s : State} {m : MethodId} {meth : Method} {c : Code} (h1 : s.methodNamed? y = some m) (h2 : s.vm.method? m = some meth) (h3 : meth.code = some c) (h4 : c.code = bytes)
    (h5 : (c.maxLocals == mx && c.exceptionTable.isEmpty && decide (c.maxStack ≤ mostOperands) && decide (meth.sig.returnType = rt) && !meth.locks && decide (parseMethodDescriptor y.desc = some meth.sig)) = true) : (Jvm.Cond.code y bytes mx rt).before a s = true := by
  simp only [Bool.and_eq_true, beq_iff_eq, Bool.not_eq_true', decide_eq_true_eq] at h5
  obtain ⟨⟨⟨⟨⟨g1, g2⟩, g3⟩, g4⟩, g5⟩, g6⟩ := h5
  simp [Cond.before, Cond.holds, Cond.value, h1, h2, h3, h4, g1, g2, g3, g4, g5, g6]
def isCode : Jvm.Cond → Bool
  | .code _ _ _ _ => true
  | _ => false
theorem all_split {L : List Jvm.Cond} {P : Jvm.Cond → Bool} (h1 : L.all (fun c => isCode c || P c) = true) (h2 : ∀ c ∈ L.filter isCode, P c = true) : L.all P = true := by
  refine List.all_eq_true.mpr fun c hc => ?_
  have h := List.all_eq_true.mp h1 c hc
  rcases Bool.eq_false_or_eq_true (isCode c) with hi | hi
  · exact h2 c (List.mem_filter.mpr ⟨hc, hi⟩)
  · simpa [hi] using h
set_option maxRecDepth 65536 in
theorem w_c0 : (Jvm.Cond.code x code maxLocals ret).before args0 about1 = true := code_word (m := ⟨1, 3⟩) (meth := k1m3) (c := k1c3) (by decide +kernel) rfl rfl rfl (by decide +kernel)
set_option maxRecDepth 65536 in
theorem w_c1 : (Jvm.Cond.code ({ cls := "com/example/fates/fates/KeyEqualsPinLaw", name := "str", desc := "(I)Ljava/lang/String;" } : Jvm.MethodName) method_2_code (4 : Nat) (Option.some (Jvm.ClassFile.FieldType.object "java/lang/String"))).before args0 about1 = true := code_word (m := ⟨1, 1⟩) (meth := k1m1) (c := k1c1) (by decide +kernel) rfl rfl rfl (by decide +kernel)
set_option maxRecDepth 65536 in
theorem w_c2 : (Jvm.Cond.code ({ cls := "java/lang/String", name := "<init>", desc := "([C)V" } : Jvm.MethodName) jdk_42_method_3_code (2 : Nat) (Option.none : Option Jvm.ClassFile.FieldType)).before args0 about1 = true := code_word (m := ⟨7, 1⟩) (meth := k7m1) (c := k7c1) (by decide +kernel) rfl rfl rfl (by decide +kernel)
set_option maxRecDepth 65536 in
theorem w_c3 : (Jvm.Cond.code ({ cls := "java/lang/String", name := "<init>", desc := "([CIILjava/lang/Void;)V" } : Jvm.MethodName) jdk_42_method_149_code (6 : Nat) (Option.none : Option Jvm.ClassFile.FieldType)).before args0 about1 = true := code_word (m := ⟨7, 6⟩) (meth := k7m6) (c := k7c6) (by decide +kernel) rfl rfl rfl (by decide +kernel)
set_option maxRecDepth 65536 in
theorem w_c4 : (Jvm.Cond.code ({ cls := "java/lang/Object", name := "<init>", desc := "()V" } : Jvm.MethodName) object_method_1_code (1 : Nat) (Option.none : Option Jvm.ClassFile.FieldType)).before args0 about1 = true := code_word (m := ⟨0, 0⟩) (meth := k0m0) (c := k0c0) (by decide +kernel) rfl rfl rfl (by decide +kernel)
set_option maxRecDepth 65536 in
theorem w_c5 : (Jvm.Cond.code ({ cls := "java/lang/StringUTF16", name := "compress", desc := "([CII)[B" } : Jvm.MethodName) jdk_52_method_16_code (6 : Nat) (Option.some (Jvm.ClassFile.FieldType.array Jvm.ClassFile.FieldType.byte))).before args0 about1 = true := code_word (m := ⟨8, 2⟩) (meth := k8m2) (c := k8c2) (by decide +kernel) rfl rfl rfl (by decide +kernel)
set_option maxRecDepth 65536 in
theorem w_c6 : (Jvm.Cond.code ({ cls := "java/lang/StringUTF16", name := "compress", desc := "([CI[BII)I" } : Jvm.MethodName) jdk_52_method_21_code (7 : Nat) (Option.some Jvm.ClassFile.FieldType.int)).before args0 about1 = true := code_word (m := ⟨8, 3⟩) (meth := k8m3) (c := k8c3) (by decide +kernel) rfl rfl rfl (by decide +kernel)
set_option maxRecDepth 65536 in
theorem w_c7 : (Jvm.Cond.code ({ cls := "java/lang/StringUTF16", name := "coderFromArrayLen", desc := "([BI)B" } : Jvm.MethodName) jdk_52_method_15_code (2 : Nat) (Option.some Jvm.ClassFile.FieldType.byte)).before args0 about1 = true := code_word (m := ⟨8, 1⟩) (meth := k8m1) (c := k8c1) (by decide +kernel) rfl rfl rfl (by decide +kernel)
set_option maxRecDepth 65536 in
theorem w_c8 : (Jvm.Cond.code ({ cls := "com/example/fates/fates/Key", name := "<init>", desc := "(Ljava/lang/String;Ljava/lang/String;)V" } : Jvm.MethodName) prog_10_method_1_code (3 : Nat) (Option.none : Option Jvm.ClassFile.FieldType)).before args0 about1 = true := code_word (m := ⟨9, 0⟩) (meth := k9m0) (c := k9c0) (by decide +kernel) rfl rfl rfl (by decide +kernel)
set_option maxRecDepth 65536 in
theorem w_c9 : (Jvm.Cond.code ({ cls := "com/example/fates/fates/Lengths", name := "nonEmptyAtMost", desc := "(Ljava/lang/String;Ljava/lang/String;I)Ljava/lang/String;" } : Jvm.MethodName) prog_12_method_2_code (3 : Nat) (Option.some (Jvm.ClassFile.FieldType.object "java/lang/String"))).before args0 about1 = true := code_word (m := ⟨10, 1⟩) (meth := k10m1) (c := k10c1) (by decide +kernel) rfl rfl rfl (by decide +kernel)
set_option maxRecDepth 65536 in
theorem w_c10 : (Jvm.Cond.code ({ cls := "java/util/Objects", name := "requireNonNull", desc := "(Ljava/lang/Object;Ljava/lang/String;)Ljava/lang/Object;" } : Jvm.MethodName) jdk_31_method_11_code (2 : Nat) (Option.some (Jvm.ClassFile.FieldType.object "java/lang/Object"))).before args0 about1 = true := code_word (m := ⟨11, 1⟩) (meth := k11m1) (c := k11c1) (by decide +kernel) rfl rfl rfl (by decide +kernel)
set_option maxRecDepth 65536 in
theorem w_c11 : (Jvm.Cond.code ({ cls := "java/lang/String", name := "isEmpty", desc := "()Z" } : Jvm.MethodName) jdk_42_method_55_code (1 : Nat) (Option.some Jvm.ClassFile.FieldType.boolean)).before args0 about1 = true := code_word (m := ⟨7, 3⟩) (meth := k7m3) (c := k7c3) (by decide +kernel) rfl rfl rfl (by decide +kernel)
set_option maxRecDepth 65536 in
theorem w_c12 : (Jvm.Cond.code ({ cls := "com/example/fates/fates/Lengths", name := "atMost", desc := "(Ljava/lang/String;Ljava/lang/String;I)Ljava/lang/String;" } : Jvm.MethodName) prog_12_method_3_code (3 : Nat) (Option.some (Jvm.ClassFile.FieldType.object "java/lang/String"))).before args0 about1 = true := code_word (m := ⟨10, 2⟩) (meth := k10m2) (c := k10c2) (by decide +kernel) rfl rfl rfl (by decide +kernel)
set_option maxRecDepth 65536 in
theorem w_c13 : (Jvm.Cond.code ({ cls := "java/lang/String", name := "length", desc := "()I" } : Jvm.MethodName) jdk_42_method_54_code (1 : Nat) (Option.some Jvm.ClassFile.FieldType.int)).before args0 about1 = true := code_word (m := ⟨7, 2⟩) (meth := k7m2) (c := k7c2) (by decide +kernel) rfl rfl rfl (by decide +kernel)
set_option maxRecDepth 65536 in
theorem w_c14 : (Jvm.Cond.code ({ cls := "java/lang/String", name := "coder", desc := "()B" } : Jvm.MethodName) jdk_42_method_152_code (1 : Nat) (Option.some Jvm.ClassFile.FieldType.byte)).before args0 about1 = true := code_word (m := ⟨7, 7⟩) (meth := k7m7) (c := k7c7) (by decide +kernel) rfl rfl rfl (by decide +kernel)
set_option maxRecDepth 65536 in
theorem w_c15 : (Jvm.Cond.code ({ cls := "com/example/fates/fates/KeyEqualsPinLaw", name := "same", desc := "(Ljava/lang/String;Ljava/lang/String;)Z" } : Jvm.MethodName) method_3_code (2 : Nat) (Option.some Jvm.ClassFile.FieldType.boolean)).before args0 about1 = true := code_word (m := ⟨1, 2⟩) (meth := k1m2) (c := k1c2) (by decide +kernel) rfl rfl rfl (by decide +kernel)
set_option maxRecDepth 65536 in
theorem w_c16 : (Jvm.Cond.code ({ cls := "java/lang/String", name := "charAt", desc := "(I)C" } : Jvm.MethodName) jdk_42_method_56_code (2 : Nat) (Option.some Jvm.ClassFile.FieldType.char)).before args0 about1 = true := code_word (m := ⟨7, 4⟩) (meth := k7m4) (c := k7c4) (by decide +kernel) rfl rfl rfl (by decide +kernel)
set_option maxRecDepth 65536 in
theorem w_c17 : (Jvm.Cond.code ({ cls := "java/lang/String", name := "isLatin1", desc := "()Z" } : Jvm.MethodName) jdk_42_method_154_code (1 : Nat) (Option.some Jvm.ClassFile.FieldType.boolean)).before args0 about1 = true := code_word (m := ⟨7, 8⟩) (meth := k7m8) (c := k7c8) (by decide +kernel) rfl rfl rfl (by decide +kernel)
set_option maxRecDepth 65536 in
theorem w_c18 : (Jvm.Cond.code ({ cls := "java/lang/StringLatin1", name := "charAt", desc := "([BI)C" } : Jvm.MethodName) jdk_43_method_2_code (2 : Nat) (Option.some Jvm.ClassFile.FieldType.char)).before args0 about1 = true := code_word (m := ⟨12, 1⟩) (meth := k12m1) (c := k12c1) (by decide +kernel) rfl rfl rfl (by decide +kernel)
set_option maxRecDepth 65536 in
theorem w_c19 : (Jvm.Cond.code ({ cls := "java/lang/String", name := "checkIndex", desc := "(II)V" } : Jvm.MethodName) jdk_42_method_155_code (2 : Nat) (Option.none : Option Jvm.ClassFile.FieldType)).before args0 about1 = true := code_word (m := ⟨7, 9⟩) (meth := k7m9) (c := k7c9) (by decide +kernel) rfl rfl rfl (by decide +kernel)
set_option maxRecDepth 65536 in
theorem w_c20 : (Jvm.Cond.code ({ cls := "jdk/internal/util/Preconditions", name := "checkIndex", desc := "(IILjava/util/function/BiFunction;)I" } : Jvm.MethodName) jdk_41_method_11_code (3 : Nat) (Option.some Jvm.ClassFile.FieldType.int)).before args0 about1 = true := code_word (m := ⟨13, 1⟩) (meth := k13m1) (c := k13c1) (by decide +kernel) rfl rfl rfl (by decide +kernel)
set_option maxRecDepth 65536 in
theorem w_c21 : (Jvm.Cond.code ({ cls := "com/example/fates/fates/Key", name := "equals", desc := "(Ljava/lang/Object;)Z" } : Jvm.MethodName) prog_10_method_4_code (3 : Nat) (Option.some Jvm.ClassFile.FieldType.boolean)).before args0 about1 = true := code_word (m := ⟨9, 1⟩) (meth := k9m1) (c := k9c1) (by decide +kernel) rfl rfl rfl (by decide +kernel)
set_option maxRecDepth 65536 in
theorem w_c22 : (Jvm.Cond.code ({ cls := "java/lang/String", name := "equals", desc := "(Ljava/lang/Object;)Z" } : Jvm.MethodName) jdk_42_method_66_code (3 : Nat) (Option.some Jvm.ClassFile.FieldType.boolean)).before args0 about1 = true := code_word (m := ⟨7, 5⟩) (meth := k7m5) (c := k7c5) (by decide +kernel) rfl rfl rfl (by decide +kernel)
set_option maxRecDepth 65536 in
theorem w_c23 : (Jvm.Cond.code ({ cls := "java/lang/StringLatin1", name := "equals", desc := "([B[B)Z" } : Jvm.MethodName) jdk_43_method_13_code (3 : Nat) (Option.some Jvm.ClassFile.FieldType.boolean)).before args0 about1 = true := code_word (m := ⟨12, 2⟩) (meth := k12m2) (c := k12c2) (by decide +kernel) rfl rfl rfl (by decide +kernel)
def codes1 : List Jvm.Cond := [Jvm.Cond.code x code maxLocals ret, Jvm.Cond.code ({ cls := "com/example/fates/fates/KeyEqualsPinLaw", name := "str", desc := "(I)Ljava/lang/String;" } : Jvm.MethodName) method_2_code (4 : Nat) (Option.some (Jvm.ClassFile.FieldType.object "java/lang/String")), Jvm.Cond.code ({ cls := "java/lang/String", name := "<init>", desc := "([C)V" } : Jvm.MethodName) jdk_42_method_3_code (2 : Nat) (Option.none : Option Jvm.ClassFile.FieldType), Jvm.Cond.code ({ cls := "java/lang/String", name := "<init>", desc := "([CIILjava/lang/Void;)V" } : Jvm.MethodName) jdk_42_method_149_code (6 : Nat) (Option.none : Option Jvm.ClassFile.FieldType), Jvm.Cond.code ({ cls := "java/lang/Object", name := "<init>", desc := "()V" } : Jvm.MethodName) object_method_1_code (1 : Nat) (Option.none : Option Jvm.ClassFile.FieldType), Jvm.Cond.code ({ cls := "java/lang/StringUTF16", name := "compress", desc := "([CII)[B" } : Jvm.MethodName) jdk_52_method_16_code (6 : Nat) (Option.some (Jvm.ClassFile.FieldType.array Jvm.ClassFile.FieldType.byte)), Jvm.Cond.code ({ cls := "java/lang/StringUTF16", name := "compress", desc := "([CI[BII)I" } : Jvm.MethodName) jdk_52_method_21_code (7 : Nat) (Option.some Jvm.ClassFile.FieldType.int), Jvm.Cond.code ({ cls := "java/lang/StringUTF16", name := "coderFromArrayLen", desc := "([BI)B" } : Jvm.MethodName) jdk_52_method_15_code (2 : Nat) (Option.some Jvm.ClassFile.FieldType.byte), Jvm.Cond.code ({ cls := "com/example/fates/fates/Key", name := "<init>", desc := "(Ljava/lang/String;Ljava/lang/String;)V" } : Jvm.MethodName) prog_10_method_1_code (3 : Nat) (Option.none : Option Jvm.ClassFile.FieldType), Jvm.Cond.code ({ cls := "com/example/fates/fates/Lengths", name := "nonEmptyAtMost", desc := "(Ljava/lang/String;Ljava/lang/String;I)Ljava/lang/String;" } : Jvm.MethodName) prog_12_method_2_code (3 : Nat) (Option.some (Jvm.ClassFile.FieldType.object "java/lang/String")), Jvm.Cond.code ({ cls := "java/util/Objects", name := "requireNonNull", desc := "(Ljava/lang/Object;Ljava/lang/String;)Ljava/lang/Object;" } : Jvm.MethodName) jdk_31_method_11_code (2 : Nat) (Option.some (Jvm.ClassFile.FieldType.object "java/lang/Object")), Jvm.Cond.code ({ cls := "java/lang/String", name := "isEmpty", desc := "()Z" } : Jvm.MethodName) jdk_42_method_55_code (1 : Nat) (Option.some Jvm.ClassFile.FieldType.boolean), Jvm.Cond.code ({ cls := "com/example/fates/fates/Lengths", name := "atMost", desc := "(Ljava/lang/String;Ljava/lang/String;I)Ljava/lang/String;" } : Jvm.MethodName) prog_12_method_3_code (3 : Nat) (Option.some (Jvm.ClassFile.FieldType.object "java/lang/String")), Jvm.Cond.code ({ cls := "java/lang/String", name := "length", desc := "()I" } : Jvm.MethodName) jdk_42_method_54_code (1 : Nat) (Option.some Jvm.ClassFile.FieldType.int), Jvm.Cond.code ({ cls := "java/lang/String", name := "coder", desc := "()B" } : Jvm.MethodName) jdk_42_method_152_code (1 : Nat) (Option.some Jvm.ClassFile.FieldType.byte), Jvm.Cond.code ({ cls := "com/example/fates/fates/KeyEqualsPinLaw", name := "same", desc := "(Ljava/lang/String;Ljava/lang/String;)Z" } : Jvm.MethodName) method_3_code (2 : Nat) (Option.some Jvm.ClassFile.FieldType.boolean), Jvm.Cond.code ({ cls := "java/lang/String", name := "charAt", desc := "(I)C" } : Jvm.MethodName) jdk_42_method_56_code (2 : Nat) (Option.some Jvm.ClassFile.FieldType.char), Jvm.Cond.code ({ cls := "java/lang/String", name := "isLatin1", desc := "()Z" } : Jvm.MethodName) jdk_42_method_154_code (1 : Nat) (Option.some Jvm.ClassFile.FieldType.boolean), Jvm.Cond.code ({ cls := "java/lang/StringLatin1", name := "charAt", desc := "([BI)C" } : Jvm.MethodName) jdk_43_method_2_code (2 : Nat) (Option.some Jvm.ClassFile.FieldType.char), Jvm.Cond.code ({ cls := "java/lang/String", name := "checkIndex", desc := "(II)V" } : Jvm.MethodName) jdk_42_method_155_code (2 : Nat) (Option.none : Option Jvm.ClassFile.FieldType), Jvm.Cond.code ({ cls := "jdk/internal/util/Preconditions", name := "checkIndex", desc := "(IILjava/util/function/BiFunction;)I" } : Jvm.MethodName) jdk_41_method_11_code (3 : Nat) (Option.some Jvm.ClassFile.FieldType.int), Jvm.Cond.code ({ cls := "com/example/fates/fates/Key", name := "equals", desc := "(Ljava/lang/Object;)Z" } : Jvm.MethodName) prog_10_method_4_code (3 : Nat) (Option.some Jvm.ClassFile.FieldType.boolean), Jvm.Cond.code ({ cls := "java/lang/String", name := "equals", desc := "(Ljava/lang/Object;)Z" } : Jvm.MethodName) jdk_42_method_66_code (3 : Nat) (Option.some Jvm.ClassFile.FieldType.boolean), Jvm.Cond.code ({ cls := "java/lang/StringLatin1", name := "equals", desc := "([B[B)Z" } : Jvm.MethodName) jdk_43_method_13_code (3 : Nat) (Option.some Jvm.ClassFile.FieldType.boolean)]
set_option maxRecDepth 65536 in
theorem codes_eq : words1.filter isCode = codes1 := rfl
theorem w_codes : ∀ c ∈ words1.filter isCode, c.before args0 about1 = true := by
  rw [codes_eq]
  intro c hc
  simp only [codes1, List.mem_cons, List.not_mem_nil, or_false] at hc
  rcases hc with rfl | rfl | rfl | rfl | rfl | rfl | rfl | rfl | rfl | rfl | rfl | rfl | rfl | rfl | rfl | rfl | rfl | rfl | rfl | rfl | rfl | rfl | rfl | rfl
  · exact w_c0
  · exact w_c1
  · exact w_c2
  · exact w_c3
  · exact w_c4
  · exact w_c5
  · exact w_c6
  · exact w_c7
  · exact w_c8
  · exact w_c9
  · exact w_c10
  · exact w_c11
  · exact w_c12
  · exact w_c13
  · exact w_c14
  · exact w_c15
  · exact w_c16
  · exact w_c17
  · exact w_c18
  · exact w_c19
  · exact w_c20
  · exact w_c21
  · exact w_c22
  · exact w_c23
set_option maxRecDepth 65536 in
theorem w_t1 : (words1.take 24).all (fun c => isCode c || c.before args0 about1) = true := by decide +kernel
set_option maxRecDepth 65536 in
theorem w_t2 : ((words1.drop 24).take 24).all (fun c => isCode c || c.before args0 about1) = true := by decide +kernel
set_option maxRecDepth 65536 in
theorem w_t3 : (((words1.drop 24).drop 24).take 24).all (fun c => isCode c || c.before args0 about1) = true := by decide +kernel
set_option maxRecDepth 65536 in
theorem w_t4 : ((((words1.drop 24).drop 24).drop 24).take 24).all (fun c => isCode c || c.before args0 about1) = true := by decide +kernel
set_option maxRecDepth 65536 in
theorem w_t5 : ((((words1.drop 24).drop 24).drop 24).drop 24).all (fun c => isCode c || c.before args0 about1) = true := by decide +kernel
theorem w_tables : (allAtoms (Jvm.Cond.code x code maxLocals ret :: tables_1)).before args0 about1 = true := by
  rw [allAtoms_all]
  show words1.all (fun c => c.before args0 about1) = true
  refine all_split ?_ w_codes
  rw [← List.take_append_drop 24 words1, List.all_append, w_t1, ← List.take_append_drop 24 (words1.drop 24), List.all_append, w_t2, ← List.take_append_drop 24 ((words1.drop 24).drop 24), List.all_append, w_t3, ← List.take_append_drop 24 (((words1.drop 24).drop 24).drop 24), List.all_append, w_t4, w_t5]
  rfl
set_option maxRecDepth 65536 in
theorem w_rest : rest_1_c.before args0 about1 = true := by decide +kernel
set_option maxRecDepth 65536 in
theorem w_case : (Jvm.Cond.and given_1 narrow_1).before args0 about1 = true := by decide +kernel
theorem w_applies : (headSpec (Jvm.Cond.code x code maxLocals ret :: tables_1) room_1).applies x e0.platform about1 = true :=
  (Spec.applies_iff w_frames).mpr ⟨w_running, w_runnable, w_alone, w_named, w_hears, w_ripe, w_room, w_tables⟩
theorem atStart : AtStart classFile x code maxLocals ret World_1 tables_1 room_1 Calls_1 rest_1 Pre_1 launch0 p0 e0 about1 theMethod args0 below0 :=
  ⟨lists_1, trivial, launch0.admits_env _ _ _, launch0.least_env, fairChoices_fair.cas, fairChoices_fair.clock, w_frames, w_args, w_heap, w_applies, trivial, w_rest, w_case⟩
end start1
theorem witness_1 : WitnessClaimed_1 := ⟨start1.p0, start1.e0, start1.about1, start1.theMethod, start1.args0, start1.below0, start1.atStart⟩
end Jvm.Pilot.@@N@@
