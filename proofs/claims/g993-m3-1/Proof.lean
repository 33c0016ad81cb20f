import JvmDerived
import JvmDerived.Pilot.@@N@@Statement
import JvmDerived.Pilot.@@N@@Code
set_option linter.unusedVariables false
set_option linter.unusedSimpArgs false
namespace Jvm.OwnK
open Sem ClassFile Op Lib Jvm.Stand Jvm.Free Jvm.LawKit Jvm.RoadKit
/-! a walk's surroundings: program, launch, environment, room, state at the call, method, arguments, frames below, the method's record and code -/
abbrev Cx : Type := Program × Launch × Env × Room × State × MethodId × Array Value × List Frame × Method × Code
abbrev Cx.p (Γ : Cx) : Program := Γ.1
abbrev Cx.l (Γ : Cx) : Launch := Γ.2.1
abbrev Cx.e (Γ : Cx) : Env := Γ.2.2.1
abbrev Cx.R (Γ : Cx) : Room := Γ.2.2.2.1
abbrev Cx.s (Γ : Cx) : State := Γ.2.2.2.2.1
abbrev Cx.m (Γ : Cx) : MethodId := Γ.2.2.2.2.2.1
abbrev Cx.args (Γ : Cx) : Array Value := Γ.2.2.2.2.2.2.1
abbrev Cx.below (Γ : Cx) : List Frame := Γ.2.2.2.2.2.2.2.1
abbrev Cx.meth (Γ : Cx) : Method := Γ.2.2.2.2.2.2.2.2.1
abbrev Cx.c (Γ : Cx) : Code := Γ.2.2.2.2.2.2.2.2.2
/-- what stays the same all along a walk -/
def Ctx (Γ : Cx) (Z : State) (own : String) (bytes : ByteArray) (maxl : Nat) (ret : Option FieldType) (nm : String) (rm : Room) (hs : Heap) : Prop :=
  Γ.p.tables.exec = Jvm.exec ∧ Z.Warmed39 Γ.s.vm ∧ Γ.s.vm.findClass own = some Γ.m.cls ∧ Γ.c.code = bytes ∧ Γ.c.maxLocals = maxl ∧ Γ.meth.sig.returnType = ret ∧ Γ.meth.name = nm ∧ Γ.meth.locks = false ∧ Γ.R = rm ∧ Γ.s.heap = hs
/-- where the walk stands: the state T with the heap h; at most C cells and S slots made; what was written lies in cells made since the law began -/
def W (Γ : Cx) (n0 : Nat) (T : State) (h : Heap) (C S : Nat) : Prop := ∃ locs vm0 k0, Stand Γ.p Γ.l Γ.e Γ.R (Γ.s.setVm vm0) Γ.m Γ.args Γ.below Γ.meth Γ.c T locs C S ∧ T.heap = h ∧ Fr n0 locs ∧ Γ.s.Since vm0 k0 ∧ k0 ≤ h.size
/-- from here the run comes to the method's end with what Q says -/
def Go (Γ : Cx) (n0 : Nat) (Q : Option Value → Heap → Prop) (T : State) (f : JFrame) : Prop :=
  ∃ s₂ o, Steps Γ.p.tables Γ.e Γ.below (T.setTop f) s₂ ∧ s₂.status = .running ∧ Ended s₂ Γ.below o ∧ ∃ v L, o = .returned v ∧ (Q v s₂.heap ∧ Fr n0 L) ∧ ReturnedEndW Γ.s o s₂ L Γ.R.cells Γ.R.slots
/-- a body's contract: called with these arguments at this heap it returns with what Q says -/
def MetW (Z : State) (y : MethodName) (bytes : ByteArray) (maxl : Nat) (ret : Option FieldType) (ws : List Cond) (rm : Room) (as' : Array Value) (h0 : Heap) (n0 : Nat) (Q : Option Value → Heap → Prop) : Prop :=
  ∀ l : Launch, MetFree l y (head1 (Cond.code y bytes maxl ret :: ws) rm) (fun a U => a = as' ∧ Z.Warmed39 U.vm ∧ U.heap = h0) (fun _ _ _ _ _ => True) (fun _ U o U' => ∃ v L, o = .returned v ∧ (Q v U'.heap ∧ Fr n0 L) ∧ ReturnedEndW U o U' L rm.cells rm.slots)
abbrev Met (Z : State) (y : MethodName) (bytes : ByteArray) (maxl : Nat) (ret : Option FieldType) (rm : Room) (as' : Array Value) (h0 : Heap) (n0 : Nat) (Q : Option Value → Heap → Prop) : Prop := MetW Z y bytes maxl ret [] rm as' h0 n0 Q
section K
variable {Γ : Cx} {Z : State} {own nm : String} {bytes : ByteArray} {maxl : Nat} {ret : Option FieldType} {rm : Room} {n0 : Nat} {T : State} {h hs0 : Heap} {C S : Nat} {Q : Option Value → Heap → Prop} {Ls : Array Slot} {st : List Value} {pc pc' : Nat}
theorem k_body {y : MethodName} {ws : List Cond} {as' : Array Value} {f : MethodId → JFrame} (hx : plainFor y = true) (hf : ∀ m, entryFrame m as' maxl = f m)
    (body : ∀ (Γ : Cx) (T : State), Ctx Γ Z y.cls bytes maxl ret y.name rm h → W Γ n0 T h 0 0 → Go Γ n0 Q T (f Γ.m)) : MetW Z y bytes maxl ret ws rm as' h n0 Q := by
  intro l
  refine MetFree.of_bodySF (ret := ret) hx hisR ?_
  intro p e s m args below meth c s₁ Bd hml0 hP hK
  obtain ⟨rfl, hZ, hh⟩ := hP
  have X0 : Stand p l e rm s m args below meth c s₁ [] 0 0 := Stand.of_body Bd
  have e0 : s₁.heap = h := by rw [← hh, Bd.state]; rfl
  have g := body (p, l, e, rm, s, m, args, below, meth, c) s₁ ⟨Bd.exec, hZ, findClass_of_methodNamed Bd.named, Bd.bytes, hml0, Bd.returns, (name_of_methodNamed Bd.named Bd.method).1, Bd.notSynchronized, rfl, hh⟩ ⟨[], s.vm, 0, X0, e0, Fr.nil n0, (State.WarmedH.refl s).since 0, Nat.zero_le _⟩
  rw [← hf] at g
  exact g
theorem Go.of {T' : State} {f f' : JFrame} (k : ∀ target, Steps Γ.p.tables Γ.e Γ.below (T'.setTop f') target → Steps Γ.p.tables Γ.e Γ.below (T.setTop f) target) (K : Go Γ n0 Q T' f') : Go Γ n0 Q T f := by
  obtain ⟨s₂, o, h1, r⟩ := K
  exact ⟨s₂, o, k _ h1, r⟩
theorem Go.mono {Q' : Option Value → Heap → Prop} {f : JFrame} (K : Go Γ n0 Q T f) (q : ∀ v h, Q v h → Q' v h) : Go Γ n0 Q' T f := by
  obtain ⟨s₂, o, h1, h2, h3, v, L, h4, ⟨h5, h6⟩, h7⟩ := K
  exact ⟨s₂, o, h1, h2, h3, v, L, h4, ⟨q _ _ h5, h6⟩, h7⟩
theorem W.more {C' S' : Nat} (X : W Γ n0 T h C S) (hc : C ≤ C') (hs : S ≤ S') : W Γ n0 T h C' S' := by
  obtain ⟨L, v, k, X, r⟩ := X; exact ⟨L, v, k, X.more hc hs, r⟩
theorem MetW.mono {y : MethodName} {ws : List Cond} {as' : Array Value} {Q' : Option Value → Heap → Prop} (M : MetW Z y bytes maxl ret ws rm as' h n0 Q) (q : ∀ v h, Q v h → Q' v h) : MetW Z y bytes maxl ret ws rm as' h n0 Q' := by
  intro l p e h1 h2 h3 s m args below hf happ hP hK
  obtain ⟨n, o, a1, a2, a3, v, L, b1, ⟨b2, b3⟩, b4⟩ := M l p e h1 h2 h3 s m args below hf happ hP hK
  exact ⟨n, o, a1, a2, a3, v, L, b1, ⟨q _ _ b2, b3⟩, b4⟩
/-! ### returns -/
theorem k_retv (G : Ctx Γ Z own bytes maxl ret nm rm hs0) (X : W Γ n0 T h C S) (hd : decode bytes pc = .ok (.return_, 1)) (hr : ret = none) (q : Q none h) (hC : C ≤ rm.cells) (hS : S ≤ rm.slots) : Go Γ n0 Q T (mkF Γ.m pc Ls []) := by
  obtain ⟨hx, hZ, hown, hby, hml, hret, hnm, hlk, hR, hsH⟩ := G
  obtain ⟨L, vm0, k0, X, e, N, hSi, hk⟩ := X
  obtain ⟨fs, hr', hrun, hended, hE⟩ := X.leaveW hSi (by rw [e]; exact hk) (v := none) (fun _ => rfl) hlk
  subst hr
  refine ⟨_, _, ?_, hrun, hended, none, L, rfl, ⟨?_, N⟩, hE.1, hE.2.1, hE.2.2.1, hE.2.2.2.mono (hR ▸ hC) (hR ▸ hS)⟩
  · exact X.returnOut hx hret (hb hby hd) hr'
  · show Q none T.heap; rw [e]; exact q
theorem k_ret {w : Value} {t : FieldType} {i : Instr} {rest : List Value} (G : Ctx Γ Z own bytes maxl ret nm rm hs0) (X : W Γ n0 T h C S) (hd : decode bytes pc = .ok (i, 1)) (hr : ret = some t) (hn : narrow t w = w)
    (hi : (i = .ireturn ∧ (t = .int ∨ t = .boolean ∨ t = .byte ∨ t = .char ∨ t = .short) ∧ ∃ z, w = .int z) ∨ (i = .lreturn ∧ t = .long ∧ ∃ z, w = .long z) ∨ (i = .dreturn ∧ t = .double ∧ ∃ z, w = .double z) ∨ (i = .freturn ∧ t = .float ∧ ∃ z, w = .float z) ∨ (i = .areturn ∧ t.isReference = true ∧ w.isRef = true))
    (q : Q (some w) h) (hC : C ≤ rm.cells) (hS : S ≤ rm.slots) : Go Γ n0 Q T (mkF Γ.m pc Ls (w :: rest)) := by
  obtain ⟨hx, hZ, hown, hby, hml, hret, hnm, hlk, hR, hsH⟩ := G
  obtain ⟨L, vm0, k0, X, e, N, hSi, hk⟩ := X
  subst hr
  obtain ⟨fs, hr', hrun, hended, hE⟩ := X.leaveW hSi (by rw [e]; exact hk) (v := some w) (fun h => by rw [hret] at h; cases h) hlk
  refine ⟨_, _, ?_, hrun, hended, some w, L, rfl, ⟨?_, N⟩, hE.1, hE.2.1, hE.2.2.1, hE.2.2.2.mono (hR ▸ hC) (hR ▸ hS)⟩
  · exact retOut X hx hret hn hi (hb hby hd) hr'
  · show Q (some w) T.heap; rw [e]; exact q
theorem k_reti {z : Int32} {rest : List Value} (G : Ctx Γ Z own bytes maxl ret nm rm hs0) (X : W Γ n0 T h C S) (hd : decode bytes pc = .ok (.ireturn, 1)) (hr : ret = some .int) (q : Q (some (.int z)) h) (hC : C ≤ rm.cells) (hS : S ≤ rm.slots) : Go Γ n0 Q T (mkF Γ.m pc Ls (.int z :: rest)) :=
  k_ret G X hd hr rfl (Or.inl ⟨rfl, Or.inl rfl, _, rfl⟩) q hC hS
theorem k_retb {z : Int32} {rest : List Value} {t : FieldType} (G : Ctx Γ Z own bytes maxl ret nm rm hs0) (X : W Γ n0 T h C S) (hd : decode bytes pc = .ok (.ireturn, 1)) (hr : ret = some t) (ht : t = .int ∨ t = .boolean ∨ t = .byte ∨ t = .char ∨ t = .short) (hn : narrow t (.int z) = .int z) (q : Q (some (.int z)) h) (hC : C ≤ rm.cells) (hS : S ≤ rm.slots) : Go Γ n0 Q T (mkF Γ.m pc Ls (.int z :: rest)) :=
  k_ret G X hd hr hn (Or.inl ⟨rfl, ht, _, rfl⟩) q hC hS
theorem k_retl {z : Int64} {rest : List Value} (G : Ctx Γ Z own bytes maxl ret nm rm hs0) (X : W Γ n0 T h C S) (hd : decode bytes pc = .ok (.lreturn, 1)) (hr : ret = some .long) (q : Q (some (.long z)) h) (hC : C ≤ rm.cells) (hS : S ≤ rm.slots) : Go Γ n0 Q T (mkF Γ.m pc Ls (.long z :: rest)) :=
  k_ret G X hd hr rfl (Or.inr (Or.inl ⟨rfl, rfl, _, rfl⟩)) q hC hS
theorem narrow_ref {t : FieldType} {w : Value} (ht : t.isReference = true) : narrow t w = w := by cases t <;> first | (cases ht; done) | (cases w <;> rfl)
theorem k_reta {w : Value} {rest : List Value} {t : FieldType} (G : Ctx Γ Z own bytes maxl ret nm rm hs0) (X : W Γ n0 T h C S) (hd : decode bytes pc = .ok (.areturn, 1)) (hr : ret = some t) (ht : t.isReference = true) (hv : w.isRef = true) (q : Q (some w) h) (hC : C ≤ rm.cells) (hS : S ≤ rm.slots) : Go Γ n0 Q T (mkF Γ.m pc Ls (w :: rest)) :=
  k_ret G X hd hr (narrow_ref ht) (Or.inr (Or.inr (Or.inr (Or.inr ⟨rfl, ht, hv⟩)))) q hC hS
theorem k_iloadN {k : Fin 4} {v : Int32} (G : Ctx Γ Z own bytes maxl ret nm rm hs0) (X : W Γ n0 T h C S) (hd : decode bytes pc = .ok (.iload_n k, 1)) (hp : pc + 1 = pc') (hl : Ls[k.val]? = some (.val (.int v))) (K : Go Γ n0 Q T (mkF Γ.m pc' Ls (.int v :: st))) : Go Γ n0 Q T (mkF Γ.m pc Ls (st)) := by
  subst hp
  obtain ⟨hx, hZ0, hown0, hby, hml, hret, hnm, hlk, hR, hsH⟩ := G
  obtain ⟨L, vm0, k0, X, e, N, hS, hk⟩ := X
  have hZ : Z.Warmed39 (Γ.s.setVm vm0).vm := State.Warmed39.trans hZ0 hS.1
  have hown : (Γ.s.setVm vm0).vm.findClass own = some Γ.m.cls := by rw [show (Γ.s.setVm vm0).vm = vm0 from rfl, hS.1.alike.findClass]; exact hown0
  exact Go.of (fun t k => XS.iloadN X.here hx rfl (hb hby hd) hl k) K
theorem k_iload {k : Nat} {v : Int32} (G : Ctx Γ Z own bytes maxl ret nm rm hs0) (X : W Γ n0 T h C S) (hd : decode bytes pc = .ok (.iload k, 2)) (hp : pc + 2 = pc') (hl : Ls[k]? = some (.val (.int v))) (K : Go Γ n0 Q T (mkF Γ.m pc' Ls (.int v :: st))) : Go Γ n0 Q T (mkF Γ.m pc Ls (st)) := by
  subst hp
  obtain ⟨hx, hZ0, hown0, hby, hml, hret, hnm, hlk, hR, hsH⟩ := G
  obtain ⟨L, vm0, k0, X, e, N, hS, hk⟩ := X
  have hZ : Z.Warmed39 (Γ.s.setVm vm0).vm := State.Warmed39.trans hZ0 hS.1
  have hown : (Γ.s.setVm vm0).vm.findClass own = some Γ.m.cls := by rw [show (Γ.s.setVm vm0).vm = vm0 from rfl, hS.1.alike.findClass]; exact hown0
  exact Go.of (fun t k => XS.iload X.here hx rfl (hb hby hd) hl k) K
theorem k_lloadN {k : Fin 4} {v : Int64} (G : Ctx Γ Z own bytes maxl ret nm rm hs0) (X : W Γ n0 T h C S) (hd : decode bytes pc = .ok (.lload_n k, 1)) (hp : pc + 1 = pc') (hl : Ls[k.val]? = some (.val (.long v))) (K : Go Γ n0 Q T (mkF Γ.m pc' Ls (.long v :: st))) : Go Γ n0 Q T (mkF Γ.m pc Ls (st)) := by
  subst hp
  obtain ⟨hx, hZ0, hown0, hby, hml, hret, hnm, hlk, hR, hsH⟩ := G
  obtain ⟨L, vm0, k0, X, e, N, hS, hk⟩ := X
  have hZ : Z.Warmed39 (Γ.s.setVm vm0).vm := State.Warmed39.trans hZ0 hS.1
  have hown : (Γ.s.setVm vm0).vm.findClass own = some Γ.m.cls := by rw [show (Γ.s.setVm vm0).vm = vm0 from rfl, hS.1.alike.findClass]; exact hown0
  exact Go.of (fun t k => XS.lloadN X.here hx rfl (hb hby hd) hl k) K
theorem k_lload {k : Nat} {v : Int64} (G : Ctx Γ Z own bytes maxl ret nm rm hs0) (X : W Γ n0 T h C S) (hd : decode bytes pc = .ok (.lload k, 2)) (hp : pc + 2 = pc') (hl : Ls[k]? = some (.val (.long v))) (K : Go Γ n0 Q T (mkF Γ.m pc' Ls (.long v :: st))) : Go Γ n0 Q T (mkF Γ.m pc Ls (st)) := by
  subst hp
  obtain ⟨hx, hZ0, hown0, hby, hml, hret, hnm, hlk, hR, hsH⟩ := G
  obtain ⟨L, vm0, k0, X, e, N, hS, hk⟩ := X
  have hZ : Z.Warmed39 (Γ.s.setVm vm0).vm := State.Warmed39.trans hZ0 hS.1
  have hown : (Γ.s.setVm vm0).vm.findClass own = some Γ.m.cls := by rw [show (Γ.s.setVm vm0).vm = vm0 from rfl, hS.1.alike.findClass]; exact hown0
  exact Go.of (fun t k => XS.lload X.here hx rfl (hb hby hd) hl k) K
theorem k_aloadN {k : Fin 4} {v : Value} (G : Ctx Γ Z own bytes maxl ret nm rm hs0) (X : W Γ n0 T h C S) (hd : decode bytes pc = .ok (.aload_n k, 1)) (hp : pc + 1 = pc') (hl : Ls[k.val]? = some (.val v)) (hv : v.isRef = true) (K : Go Γ n0 Q T (mkF Γ.m pc' Ls (v :: st))) : Go Γ n0 Q T (mkF Γ.m pc Ls (st)) := by
  subst hp
  obtain ⟨hx, hZ0, hown0, hby, hml, hret, hnm, hlk, hR, hsH⟩ := G
  obtain ⟨L, vm0, k0, X, e, N, hS, hk⟩ := X
  have hZ : Z.Warmed39 (Γ.s.setVm vm0).vm := State.Warmed39.trans hZ0 hS.1
  have hown : (Γ.s.setVm vm0).vm.findClass own = some Γ.m.cls := by rw [show (Γ.s.setVm vm0).vm = vm0 from rfl, hS.1.alike.findClass]; exact hown0
  exact Go.of (fun t k => XS.aloadN X.here hx rfl (hb hby hd) hl hv k) K
theorem k_aload {k : Nat} {v : Value} (G : Ctx Γ Z own bytes maxl ret nm rm hs0) (X : W Γ n0 T h C S) (hd : decode bytes pc = .ok (.aload k, 2)) (hp : pc + 2 = pc') (hl : Ls[k]? = some (.val v)) (hv : v.isRef = true) (K : Go Γ n0 Q T (mkF Γ.m pc' Ls (v :: st))) : Go Γ n0 Q T (mkF Γ.m pc Ls (st)) := by
  subst hp
  obtain ⟨hx, hZ0, hown0, hby, hml, hret, hnm, hlk, hR, hsH⟩ := G
  obtain ⟨L, vm0, k0, X, e, N, hS, hk⟩ := X
  have hZ : Z.Warmed39 (Γ.s.setVm vm0).vm := State.Warmed39.trans hZ0 hS.1
  have hown : (Γ.s.setVm vm0).vm.findClass own = some Γ.m.cls := by rw [show (Γ.s.setVm vm0).vm = vm0 from rfl, hS.1.alike.findClass]; exact hown0
  exact Go.of (fun t k => XS.aload X.here hx rfl (hb hby hd) hl hv k) K
theorem k_istoreN {k : Fin 4} {v : Int32} {l' : Array Slot} (G : Ctx Γ Z own bytes maxl ret nm rm hs0) (X : W Γ n0 T h C S) (hd : decode bytes pc = .ok (.istore_n k, 1)) (hp : pc + 1 = pc') (hl : storeLocals Ls k.val (.int v) = some l') (K : Go Γ n0 Q T (mkF Γ.m pc' l' (st))) : Go Γ n0 Q T (mkF Γ.m pc Ls (.int v :: st)) := by
  subst hp
  obtain ⟨hx, hZ0, hown0, hby, hml, hret, hnm, hlk, hR, hsH⟩ := G
  obtain ⟨L, vm0, k0, X, e, N, hS, hk⟩ := X
  have hZ : Z.Warmed39 (Γ.s.setVm vm0).vm := State.Warmed39.trans hZ0 hS.1
  have hown : (Γ.s.setVm vm0).vm.findClass own = some Γ.m.cls := by rw [show (Γ.s.setVm vm0).vm = vm0 from rfl, hS.1.alike.findClass]; exact hown0
  exact Go.of (fun t k => XS.istoreN X.here hx rfl (hb hby hd) rfl hl k) K
theorem k_istore {k : Nat} {v : Int32} {l' : Array Slot} (G : Ctx Γ Z own bytes maxl ret nm rm hs0) (X : W Γ n0 T h C S) (hd : decode bytes pc = .ok (.istore k, 2)) (hp : pc + 2 = pc') (hl : storeLocals Ls k (.int v) = some l') (K : Go Γ n0 Q T (mkF Γ.m pc' l' (st))) : Go Γ n0 Q T (mkF Γ.m pc Ls (.int v :: st)) := by
  subst hp
  obtain ⟨hx, hZ0, hown0, hby, hml, hret, hnm, hlk, hR, hsH⟩ := G
  obtain ⟨L, vm0, k0, X, e, N, hS, hk⟩ := X
  have hZ : Z.Warmed39 (Γ.s.setVm vm0).vm := State.Warmed39.trans hZ0 hS.1
  have hown : (Γ.s.setVm vm0).vm.findClass own = some Γ.m.cls := by rw [show (Γ.s.setVm vm0).vm = vm0 from rfl, hS.1.alike.findClass]; exact hown0
  exact Go.of (fun t k => XS.istore X.here hx rfl (hb hby hd) rfl hl k) K
theorem k_lstoreN {k : Fin 4} {v : Int64} {l' : Array Slot} (G : Ctx Γ Z own bytes maxl ret nm rm hs0) (X : W Γ n0 T h C S) (hd : decode bytes pc = .ok (.lstore_n k, 1)) (hp : pc + 1 = pc') (hl : storeLocals Ls k.val (.long v) = some l') (K : Go Γ n0 Q T (mkF Γ.m pc' l' (st))) : Go Γ n0 Q T (mkF Γ.m pc Ls (.long v :: st)) := by
  subst hp
  obtain ⟨hx, hZ0, hown0, hby, hml, hret, hnm, hlk, hR, hsH⟩ := G
  obtain ⟨L, vm0, k0, X, e, N, hS, hk⟩ := X
  have hZ : Z.Warmed39 (Γ.s.setVm vm0).vm := State.Warmed39.trans hZ0 hS.1
  have hown : (Γ.s.setVm vm0).vm.findClass own = some Γ.m.cls := by rw [show (Γ.s.setVm vm0).vm = vm0 from rfl, hS.1.alike.findClass]; exact hown0
  exact Go.of (fun t k => XS.lstoreN X.here hx rfl (hb hby hd) rfl hl k) K
theorem k_lstore {k : Nat} {v : Int64} {l' : Array Slot} (G : Ctx Γ Z own bytes maxl ret nm rm hs0) (X : W Γ n0 T h C S) (hd : decode bytes pc = .ok (.lstore k, 2)) (hp : pc + 2 = pc') (hl : storeLocals Ls k (.long v) = some l') (K : Go Γ n0 Q T (mkF Γ.m pc' l' (st))) : Go Γ n0 Q T (mkF Γ.m pc Ls (.long v :: st)) := by
  subst hp
  obtain ⟨hx, hZ0, hown0, hby, hml, hret, hnm, hlk, hR, hsH⟩ := G
  obtain ⟨L, vm0, k0, X, e, N, hS, hk⟩ := X
  have hZ : Z.Warmed39 (Γ.s.setVm vm0).vm := State.Warmed39.trans hZ0 hS.1
  have hown : (Γ.s.setVm vm0).vm.findClass own = some Γ.m.cls := by rw [show (Γ.s.setVm vm0).vm = vm0 from rfl, hS.1.alike.findClass]; exact hown0
  exact Go.of (fun t k => XS.lstore X.here hx rfl (hb hby hd) rfl hl k) K
theorem k_astoreN {k : Fin 4} {v : Value} {l' : Array Slot} (G : Ctx Γ Z own bytes maxl ret nm rm hs0) (X : W Γ n0 T h C S) (hd : decode bytes pc = .ok (.astore_n k, 1)) (hp : pc + 1 = pc') (hv : v.isRef = true) (hl : storeLocals Ls k.val v = some l') (K : Go Γ n0 Q T (mkF Γ.m pc' l' (st))) : Go Γ n0 Q T (mkF Γ.m pc Ls (v :: st)) := by
  subst hp
  obtain ⟨hx, hZ0, hown0, hby, hml, hret, hnm, hlk, hR, hsH⟩ := G
  obtain ⟨L, vm0, k0, X, e, N, hS, hk⟩ := X
  have hZ : Z.Warmed39 (Γ.s.setVm vm0).vm := State.Warmed39.trans hZ0 hS.1
  have hown : (Γ.s.setVm vm0).vm.findClass own = some Γ.m.cls := by rw [show (Γ.s.setVm vm0).vm = vm0 from rfl, hS.1.alike.findClass]; exact hown0
  exact Go.of (fun t k => XS.astoreN X.here hx rfl (hb hby hd) rfl hv hl k) K
theorem k_astore {k : Nat} {v : Value} {l' : Array Slot} (G : Ctx Γ Z own bytes maxl ret nm rm hs0) (X : W Γ n0 T h C S) (hd : decode bytes pc = .ok (.astore k, 2)) (hp : pc + 2 = pc') (hv : v.isRef = true) (hl : storeLocals Ls k v = some l') (K : Go Γ n0 Q T (mkF Γ.m pc' l' (st))) : Go Γ n0 Q T (mkF Γ.m pc Ls (v :: st)) := by
  subst hp
  obtain ⟨hx, hZ0, hown0, hby, hml, hret, hnm, hlk, hR, hsH⟩ := G
  obtain ⟨L, vm0, k0, X, e, N, hS, hk⟩ := X
  have hZ : Z.Warmed39 (Γ.s.setVm vm0).vm := State.Warmed39.trans hZ0 hS.1
  have hown : (Γ.s.setVm vm0).vm.findClass own = some Γ.m.cls := by rw [show (Γ.s.setVm vm0).vm = vm0 from rfl, hS.1.alike.findClass]; exact hown0
  exact Go.of (fun t k => XS.astore X.here hx rfl (hb hby hd) rfl hv hl k) K
theorem k_iconst {i : Int} {z : Int32} (G : Ctx Γ Z own bytes maxl ret nm rm hs0) (X : W Γ n0 T h C S) (hd : decode bytes pc = .ok (.iconst i, 1)) (hp : pc + 1 = pc') (hz : Int32.ofInt i = z) (K : Go Γ n0 Q T (mkF Γ.m pc' Ls (.int z :: st))) : Go Γ n0 Q T (mkF Γ.m pc Ls (st)) := by
  subst hp
  obtain ⟨hx, hZ0, hown0, hby, hml, hret, hnm, hlk, hR, hsH⟩ := G
  obtain ⟨L, vm0, k0, X, e, N, hS, hk⟩ := X
  have hZ : Z.Warmed39 (Γ.s.setVm vm0).vm := State.Warmed39.trans hZ0 hS.1
  have hown : (Γ.s.setVm vm0).vm.findClass own = some Γ.m.cls := by rw [show (Γ.s.setVm vm0).vm = vm0 from rfl, hS.1.alike.findClass]; exact hown0
  subst hz
  exact Go.of (fun t k => XS.iconst X.here hx rfl (hb hby hd) k) K
theorem k_bipush {i : Int} {z : Int32} (G : Ctx Γ Z own bytes maxl ret nm rm hs0) (X : W Γ n0 T h C S) (hd : decode bytes pc = .ok (.bipush i, 2)) (hp : pc + 2 = pc') (hz : (Int8.ofInt i).toInt32 = z) (K : Go Γ n0 Q T (mkF Γ.m pc' Ls (.int z :: st))) : Go Γ n0 Q T (mkF Γ.m pc Ls (st)) := by
  subst hp
  obtain ⟨hx, hZ0, hown0, hby, hml, hret, hnm, hlk, hR, hsH⟩ := G
  obtain ⟨L, vm0, k0, X, e, N, hS, hk⟩ := X
  have hZ : Z.Warmed39 (Γ.s.setVm vm0).vm := State.Warmed39.trans hZ0 hS.1
  have hown : (Γ.s.setVm vm0).vm.findClass own = some Γ.m.cls := by rw [show (Γ.s.setVm vm0).vm = vm0 from rfl, hS.1.alike.findClass]; exact hown0
  subst hz
  exact Go.of (fun t k => XS.bipush X.here hx rfl (hb hby hd) k) K
theorem k_sipush {i : Int} {z : Int32} (G : Ctx Γ Z own bytes maxl ret nm rm hs0) (X : W Γ n0 T h C S) (hd : decode bytes pc = .ok (.sipush i, 3)) (hp : pc + 3 = pc') (hz : (Int16.ofInt i).toInt32 = z) (K : Go Γ n0 Q T (mkF Γ.m pc' Ls (.int z :: st))) : Go Γ n0 Q T (mkF Γ.m pc Ls (st)) := by
  subst hp
  obtain ⟨hx, hZ0, hown0, hby, hml, hret, hnm, hlk, hR, hsH⟩ := G
  obtain ⟨L, vm0, k0, X, e, N, hS, hk⟩ := X
  have hZ : Z.Warmed39 (Γ.s.setVm vm0).vm := State.Warmed39.trans hZ0 hS.1
  have hown : (Γ.s.setVm vm0).vm.findClass own = some Γ.m.cls := by rw [show (Γ.s.setVm vm0).vm = vm0 from rfl, hS.1.alike.findClass]; exact hown0
  subst hz
  exact Go.of (fun t k => XS.sipush X.here hx rfl (hb hby hd) k) K
theorem k_lconst {i : Fin 2} {z : Int64} (G : Ctx Γ Z own bytes maxl ret nm rm hs0) (X : W Γ n0 T h C S) (hd : decode bytes pc = .ok (.lconst i, 1)) (hp : pc + 1 = pc') (hz : Int64.ofNat i = z) (K : Go Γ n0 Q T (mkF Γ.m pc' Ls (.long z :: st))) : Go Γ n0 Q T (mkF Γ.m pc Ls (st)) := by
  subst hp
  obtain ⟨hx, hZ0, hown0, hby, hml, hret, hnm, hlk, hR, hsH⟩ := G
  obtain ⟨L, vm0, k0, X, e, N, hS, hk⟩ := X
  have hZ : Z.Warmed39 (Γ.s.setVm vm0).vm := State.Warmed39.trans hZ0 hS.1
  have hown : (Γ.s.setVm vm0).vm.findClass own = some Γ.m.cls := by rw [show (Γ.s.setVm vm0).vm = vm0 from rfl, hS.1.alike.findClass]; exact hown0
  subst hz
  exact Go.of (fun t k => XS.lconst X.here hx rfl (hb hby hd) k) K
theorem k_anull  (G : Ctx Γ Z own bytes maxl ret nm rm hs0) (X : W Γ n0 T h C S) (hd : decode bytes pc = .ok (.aconst_null, 1)) (hp : pc + 1 = pc')  (K : Go Γ n0 Q T (mkF Γ.m pc' Ls (.null :: st))) : Go Γ n0 Q T (mkF Γ.m pc Ls (st)) := by
  subst hp
  obtain ⟨hx, hZ0, hown0, hby, hml, hret, hnm, hlk, hR, hsH⟩ := G
  obtain ⟨L, vm0, k0, X, e, N, hS, hk⟩ := X
  have hZ : Z.Warmed39 (Γ.s.setVm vm0).vm := State.Warmed39.trans hZ0 hS.1
  have hown : (Γ.s.setVm vm0).vm.findClass own = some Γ.m.cls := by rw [show (Γ.s.setVm vm0).vm = vm0 from rfl, hS.1.alike.findClass]; exact hown0
  exact Go.of (fun t k => XS.aconstNull X.here hx rfl (hb hby hd) k) K
theorem k_iadd {x y z : Int32} (G : Ctx Γ Z own bytes maxl ret nm rm hs0) (X : W Γ n0 T h C S) (hd : decode bytes pc = .ok (.iadd, 1)) (hp : pc + 1 = pc') (hz : x + y = z) (K : Go Γ n0 Q T (mkF Γ.m pc' Ls (.int z :: st))) : Go Γ n0 Q T (mkF Γ.m pc Ls (.int y :: .int x :: st)) := by
  subst hp
  obtain ⟨hx, hZ0, hown0, hby, hml, hret, hnm, hlk, hR, hsH⟩ := G
  obtain ⟨L, vm0, k0, X, e, N, hS, hk⟩ := X
  have hZ : Z.Warmed39 (Γ.s.setVm vm0).vm := State.Warmed39.trans hZ0 hS.1
  have hown : (Γ.s.setVm vm0).vm.findClass own = some Γ.m.cls := by rw [show (Γ.s.setVm vm0).vm = vm0 from rfl, hS.1.alike.findClass]; exact hown0
  subst hz
  exact Go.of (fun t k => XS.iadd X.here hx rfl (hb hby hd) rfl k) K
theorem k_isub {x y z : Int32} (G : Ctx Γ Z own bytes maxl ret nm rm hs0) (X : W Γ n0 T h C S) (hd : decode bytes pc = .ok (.isub, 1)) (hp : pc + 1 = pc') (hz : x - y = z) (K : Go Γ n0 Q T (mkF Γ.m pc' Ls (.int z :: st))) : Go Γ n0 Q T (mkF Γ.m pc Ls (.int y :: .int x :: st)) := by
  subst hp
  obtain ⟨hx, hZ0, hown0, hby, hml, hret, hnm, hlk, hR, hsH⟩ := G
  obtain ⟨L, vm0, k0, X, e, N, hS, hk⟩ := X
  have hZ : Z.Warmed39 (Γ.s.setVm vm0).vm := State.Warmed39.trans hZ0 hS.1
  have hown : (Γ.s.setVm vm0).vm.findClass own = some Γ.m.cls := by rw [show (Γ.s.setVm vm0).vm = vm0 from rfl, hS.1.alike.findClass]; exact hown0
  subst hz
  exact Go.of (fun t k => XS.isub X.here hx rfl (hb hby hd) rfl k) K
theorem k_imul {x y z : Int32} (G : Ctx Γ Z own bytes maxl ret nm rm hs0) (X : W Γ n0 T h C S) (hd : decode bytes pc = .ok (.imul, 1)) (hp : pc + 1 = pc') (hz : x * y = z) (K : Go Γ n0 Q T (mkF Γ.m pc' Ls (.int z :: st))) : Go Γ n0 Q T (mkF Γ.m pc Ls (.int y :: .int x :: st)) := by
  subst hp
  obtain ⟨hx, hZ0, hown0, hby, hml, hret, hnm, hlk, hR, hsH⟩ := G
  obtain ⟨L, vm0, k0, X, e, N, hS, hk⟩ := X
  have hZ : Z.Warmed39 (Γ.s.setVm vm0).vm := State.Warmed39.trans hZ0 hS.1
  have hown : (Γ.s.setVm vm0).vm.findClass own = some Γ.m.cls := by rw [show (Γ.s.setVm vm0).vm = vm0 from rfl, hS.1.alike.findClass]; exact hown0
  subst hz
  exact Go.of (fun t k => XS.imul X.here hx rfl (hb hby hd) rfl k) K
theorem k_iand {x y z : Int32} (G : Ctx Γ Z own bytes maxl ret nm rm hs0) (X : W Γ n0 T h C S) (hd : decode bytes pc = .ok (.iand, 1)) (hp : pc + 1 = pc') (hz : x &&& y = z) (K : Go Γ n0 Q T (mkF Γ.m pc' Ls (.int z :: st))) : Go Γ n0 Q T (mkF Γ.m pc Ls (.int y :: .int x :: st)) := by
  subst hp
  obtain ⟨hx, hZ0, hown0, hby, hml, hret, hnm, hlk, hR, hsH⟩ := G
  obtain ⟨L, vm0, k0, X, e, N, hS, hk⟩ := X
  have hZ : Z.Warmed39 (Γ.s.setVm vm0).vm := State.Warmed39.trans hZ0 hS.1
  have hown : (Γ.s.setVm vm0).vm.findClass own = some Γ.m.cls := by rw [show (Γ.s.setVm vm0).vm = vm0 from rfl, hS.1.alike.findClass]; exact hown0
  subst hz
  exact Go.of (fun t k => XS.iand X.here hx rfl (hb hby hd) rfl k) K
theorem k_ior {x y z : Int32} (G : Ctx Γ Z own bytes maxl ret nm rm hs0) (X : W Γ n0 T h C S) (hd : decode bytes pc = .ok (.ior, 1)) (hp : pc + 1 = pc') (hz : x ||| y = z) (K : Go Γ n0 Q T (mkF Γ.m pc' Ls (.int z :: st))) : Go Γ n0 Q T (mkF Γ.m pc Ls (.int y :: .int x :: st)) := by
  subst hp
  obtain ⟨hx, hZ0, hown0, hby, hml, hret, hnm, hlk, hR, hsH⟩ := G
  obtain ⟨L, vm0, k0, X, e, N, hS, hk⟩ := X
  have hZ : Z.Warmed39 (Γ.s.setVm vm0).vm := State.Warmed39.trans hZ0 hS.1
  have hown : (Γ.s.setVm vm0).vm.findClass own = some Γ.m.cls := by rw [show (Γ.s.setVm vm0).vm = vm0 from rfl, hS.1.alike.findClass]; exact hown0
  subst hz
  exact Go.of (fun t k => XS.ior X.here hx rfl (hb hby hd) rfl k) K
theorem k_ixor {x y z : Int32} (G : Ctx Γ Z own bytes maxl ret nm rm hs0) (X : W Γ n0 T h C S) (hd : decode bytes pc = .ok (.ixor, 1)) (hp : pc + 1 = pc') (hz : x ^^^ y = z) (K : Go Γ n0 Q T (mkF Γ.m pc' Ls (.int z :: st))) : Go Γ n0 Q T (mkF Γ.m pc Ls (.int y :: .int x :: st)) := by
  subst hp
  obtain ⟨hx, hZ0, hown0, hby, hml, hret, hnm, hlk, hR, hsH⟩ := G
  obtain ⟨L, vm0, k0, X, e, N, hS, hk⟩ := X
  have hZ : Z.Warmed39 (Γ.s.setVm vm0).vm := State.Warmed39.trans hZ0 hS.1
  have hown : (Γ.s.setVm vm0).vm.findClass own = some Γ.m.cls := by rw [show (Γ.s.setVm vm0).vm = vm0 from rfl, hS.1.alike.findClass]; exact hown0
  subst hz
  exact Go.of (fun t k => XS.ixor X.here hx rfl (hb hby hd) rfl k) K
theorem k_ishl {x y z : Int32} (G : Ctx Γ Z own bytes maxl ret nm rm hs0) (X : W Γ n0 T h C S) (hd : decode bytes pc = .ok (.ishl, 1)) (hp : pc + 1 = pc') (hz : x <<< (y &&& 31) = z) (K : Go Γ n0 Q T (mkF Γ.m pc' Ls (.int z :: st))) : Go Γ n0 Q T (mkF Γ.m pc Ls (.int y :: .int x :: st)) := by
  subst hp
  obtain ⟨hx, hZ0, hown0, hby, hml, hret, hnm, hlk, hR, hsH⟩ := G
  obtain ⟨L, vm0, k0, X, e, N, hS, hk⟩ := X
  have hZ : Z.Warmed39 (Γ.s.setVm vm0).vm := State.Warmed39.trans hZ0 hS.1
  have hown : (Γ.s.setVm vm0).vm.findClass own = some Γ.m.cls := by rw [show (Γ.s.setVm vm0).vm = vm0 from rfl, hS.1.alike.findClass]; exact hown0
  subst hz
  exact Go.of (fun t k => XS.ishl X.here hx rfl (hb hby hd) rfl k) K
theorem k_ishr {x y z : Int32} (G : Ctx Γ Z own bytes maxl ret nm rm hs0) (X : W Γ n0 T h C S) (hd : decode bytes pc = .ok (.ishr, 1)) (hp : pc + 1 = pc') (hz : x >>> (y &&& 31) = z) (K : Go Γ n0 Q T (mkF Γ.m pc' Ls (.int z :: st))) : Go Γ n0 Q T (mkF Γ.m pc Ls (.int y :: .int x :: st)) := by
  subst hp
  obtain ⟨hx, hZ0, hown0, hby, hml, hret, hnm, hlk, hR, hsH⟩ := G
  obtain ⟨L, vm0, k0, X, e, N, hS, hk⟩ := X
  have hZ : Z.Warmed39 (Γ.s.setVm vm0).vm := State.Warmed39.trans hZ0 hS.1
  have hown : (Γ.s.setVm vm0).vm.findClass own = some Γ.m.cls := by rw [show (Γ.s.setVm vm0).vm = vm0 from rfl, hS.1.alike.findClass]; exact hown0
  subst hz
  exact Go.of (fun t k => XS.ishr X.here hx rfl (hb hby hd) rfl k) K
theorem k_iushr {x y z : Int32} (G : Ctx Γ Z own bytes maxl ret nm rm hs0) (X : W Γ n0 T h C S) (hd : decode bytes pc = .ok (.iushr, 1)) (hp : pc + 1 = pc') (hz : (x.toUInt32 >>> (y &&& 31).toUInt32).toInt32 = z) (K : Go Γ n0 Q T (mkF Γ.m pc' Ls (.int z :: st))) : Go Γ n0 Q T (mkF Γ.m pc Ls (.int y :: .int x :: st)) := by
  subst hp
  obtain ⟨hx, hZ0, hown0, hby, hml, hret, hnm, hlk, hR, hsH⟩ := G
  obtain ⟨L, vm0, k0, X, e, N, hS, hk⟩ := X
  have hZ : Z.Warmed39 (Γ.s.setVm vm0).vm := State.Warmed39.trans hZ0 hS.1
  have hown : (Γ.s.setVm vm0).vm.findClass own = some Γ.m.cls := by rw [show (Γ.s.setVm vm0).vm = vm0 from rfl, hS.1.alike.findClass]; exact hown0
  subst hz
  exact Go.of (fun t k => XS.iushr X.here hx rfl (hb hby hd) rfl k) K
theorem k_ladd {x y z : Int64} (G : Ctx Γ Z own bytes maxl ret nm rm hs0) (X : W Γ n0 T h C S) (hd : decode bytes pc = .ok (.ladd, 1)) (hp : pc + 1 = pc') (hz : x + y = z) (K : Go Γ n0 Q T (mkF Γ.m pc' Ls (.long z :: st))) : Go Γ n0 Q T (mkF Γ.m pc Ls (.long y :: .long x :: st)) := by
  subst hp
  obtain ⟨hx, hZ0, hown0, hby, hml, hret, hnm, hlk, hR, hsH⟩ := G
  obtain ⟨L, vm0, k0, X, e, N, hS, hk⟩ := X
  have hZ : Z.Warmed39 (Γ.s.setVm vm0).vm := State.Warmed39.trans hZ0 hS.1
  have hown : (Γ.s.setVm vm0).vm.findClass own = some Γ.m.cls := by rw [show (Γ.s.setVm vm0).vm = vm0 from rfl, hS.1.alike.findClass]; exact hown0
  subst hz
  exact Go.of (fun t k => XS.ladd X.here hx rfl (hb hby hd) rfl k) K
theorem k_lsub {x y z : Int64} (G : Ctx Γ Z own bytes maxl ret nm rm hs0) (X : W Γ n0 T h C S) (hd : decode bytes pc = .ok (.lsub, 1)) (hp : pc + 1 = pc') (hz : x - y = z) (K : Go Γ n0 Q T (mkF Γ.m pc' Ls (.long z :: st))) : Go Γ n0 Q T (mkF Γ.m pc Ls (.long y :: .long x :: st)) := by
  subst hp
  obtain ⟨hx, hZ0, hown0, hby, hml, hret, hnm, hlk, hR, hsH⟩ := G
  obtain ⟨L, vm0, k0, X, e, N, hS, hk⟩ := X
  have hZ : Z.Warmed39 (Γ.s.setVm vm0).vm := State.Warmed39.trans hZ0 hS.1
  have hown : (Γ.s.setVm vm0).vm.findClass own = some Γ.m.cls := by rw [show (Γ.s.setVm vm0).vm = vm0 from rfl, hS.1.alike.findClass]; exact hown0
  subst hz
  exact Go.of (fun t k => XS.lsub X.here hx rfl (hb hby hd) rfl k) K
theorem k_lmul {x y z : Int64} (G : Ctx Γ Z own bytes maxl ret nm rm hs0) (X : W Γ n0 T h C S) (hd : decode bytes pc = .ok (.lmul, 1)) (hp : pc + 1 = pc') (hz : x * y = z) (K : Go Γ n0 Q T (mkF Γ.m pc' Ls (.long z :: st))) : Go Γ n0 Q T (mkF Γ.m pc Ls (.long y :: .long x :: st)) := by
  subst hp
  obtain ⟨hx, hZ0, hown0, hby, hml, hret, hnm, hlk, hR, hsH⟩ := G
  obtain ⟨L, vm0, k0, X, e, N, hS, hk⟩ := X
  have hZ : Z.Warmed39 (Γ.s.setVm vm0).vm := State.Warmed39.trans hZ0 hS.1
  have hown : (Γ.s.setVm vm0).vm.findClass own = some Γ.m.cls := by rw [show (Γ.s.setVm vm0).vm = vm0 from rfl, hS.1.alike.findClass]; exact hown0
  subst hz
  exact Go.of (fun t k => XS.lmul X.here hx rfl (hb hby hd) rfl k) K
theorem k_land {x y z : Int64} (G : Ctx Γ Z own bytes maxl ret nm rm hs0) (X : W Γ n0 T h C S) (hd : decode bytes pc = .ok (.land, 1)) (hp : pc + 1 = pc') (hz : x &&& y = z) (K : Go Γ n0 Q T (mkF Γ.m pc' Ls (.long z :: st))) : Go Γ n0 Q T (mkF Γ.m pc Ls (.long y :: .long x :: st)) := by
  subst hp
  obtain ⟨hx, hZ0, hown0, hby, hml, hret, hnm, hlk, hR, hsH⟩ := G
  obtain ⟨L, vm0, k0, X, e, N, hS, hk⟩ := X
  have hZ : Z.Warmed39 (Γ.s.setVm vm0).vm := State.Warmed39.trans hZ0 hS.1
  have hown : (Γ.s.setVm vm0).vm.findClass own = some Γ.m.cls := by rw [show (Γ.s.setVm vm0).vm = vm0 from rfl, hS.1.alike.findClass]; exact hown0
  subst hz
  exact Go.of (fun t k => XS.land X.here hx rfl (hb hby hd) rfl k) K
theorem k_lor {x y z : Int64} (G : Ctx Γ Z own bytes maxl ret nm rm hs0) (X : W Γ n0 T h C S) (hd : decode bytes pc = .ok (.lor, 1)) (hp : pc + 1 = pc') (hz : x ||| y = z) (K : Go Γ n0 Q T (mkF Γ.m pc' Ls (.long z :: st))) : Go Γ n0 Q T (mkF Γ.m pc Ls (.long y :: .long x :: st)) := by
  subst hp
  obtain ⟨hx, hZ0, hown0, hby, hml, hret, hnm, hlk, hR, hsH⟩ := G
  obtain ⟨L, vm0, k0, X, e, N, hS, hk⟩ := X
  have hZ : Z.Warmed39 (Γ.s.setVm vm0).vm := State.Warmed39.trans hZ0 hS.1
  have hown : (Γ.s.setVm vm0).vm.findClass own = some Γ.m.cls := by rw [show (Γ.s.setVm vm0).vm = vm0 from rfl, hS.1.alike.findClass]; exact hown0
  subst hz
  exact Go.of (fun t k => XS.lor X.here hx rfl (hb hby hd) rfl k) K
theorem k_lxor {x y z : Int64} (G : Ctx Γ Z own bytes maxl ret nm rm hs0) (X : W Γ n0 T h C S) (hd : decode bytes pc = .ok (.lxor, 1)) (hp : pc + 1 = pc') (hz : x ^^^ y = z) (K : Go Γ n0 Q T (mkF Γ.m pc' Ls (.long z :: st))) : Go Γ n0 Q T (mkF Γ.m pc Ls (.long y :: .long x :: st)) := by
  subst hp
  obtain ⟨hx, hZ0, hown0, hby, hml, hret, hnm, hlk, hR, hsH⟩ := G
  obtain ⟨L, vm0, k0, X, e, N, hS, hk⟩ := X
  have hZ : Z.Warmed39 (Γ.s.setVm vm0).vm := State.Warmed39.trans hZ0 hS.1
  have hown : (Γ.s.setVm vm0).vm.findClass own = some Γ.m.cls := by rw [show (Γ.s.setVm vm0).vm = vm0 from rfl, hS.1.alike.findClass]; exact hown0
  subst hz
  exact Go.of (fun t k => XS.lxor X.here hx rfl (hb hby hd) rfl k) K
theorem k_lshl {x z : Int64} {y : Int32} (G : Ctx Γ Z own bytes maxl ret nm rm hs0) (X : W Γ n0 T h C S) (hd : decode bytes pc = .ok (.lshl, 1)) (hp : pc + 1 = pc') (hz : x <<< (y &&& 0x3f).toInt64 = z) (K : Go Γ n0 Q T (mkF Γ.m pc' Ls (.long z :: st))) : Go Γ n0 Q T (mkF Γ.m pc Ls (.int y :: .long x :: st)) := by
  subst hp
  obtain ⟨hx, hZ0, hown0, hby, hml, hret, hnm, hlk, hR, hsH⟩ := G
  obtain ⟨L, vm0, k0, X, e, N, hS, hk⟩ := X
  have hZ : Z.Warmed39 (Γ.s.setVm vm0).vm := State.Warmed39.trans hZ0 hS.1
  have hown : (Γ.s.setVm vm0).vm.findClass own = some Γ.m.cls := by rw [show (Γ.s.setVm vm0).vm = vm0 from rfl, hS.1.alike.findClass]; exact hown0
  subst hz
  exact Go.of (fun t k => XS.lshl X.here hx rfl (hb hby hd) rfl k) K
theorem k_lshr {x z : Int64} {y : Int32} (G : Ctx Γ Z own bytes maxl ret nm rm hs0) (X : W Γ n0 T h C S) (hd : decode bytes pc = .ok (.lshr, 1)) (hp : pc + 1 = pc') (hz : x >>> (y &&& 0x3f).toInt64 = z) (K : Go Γ n0 Q T (mkF Γ.m pc' Ls (.long z :: st))) : Go Γ n0 Q T (mkF Γ.m pc Ls (.int y :: .long x :: st)) := by
  subst hp
  obtain ⟨hx, hZ0, hown0, hby, hml, hret, hnm, hlk, hR, hsH⟩ := G
  obtain ⟨L, vm0, k0, X, e, N, hS, hk⟩ := X
  have hZ : Z.Warmed39 (Γ.s.setVm vm0).vm := State.Warmed39.trans hZ0 hS.1
  have hown : (Γ.s.setVm vm0).vm.findClass own = some Γ.m.cls := by rw [show (Γ.s.setVm vm0).vm = vm0 from rfl, hS.1.alike.findClass]; exact hown0
  subst hz
  exact Go.of (fun t k => XS.lshr X.here hx rfl (hb hby hd) rfl k) K
theorem k_lushr {x z : Int64} {y : Int32} (G : Ctx Γ Z own bytes maxl ret nm rm hs0) (X : W Γ n0 T h C S) (hd : decode bytes pc = .ok (.lushr, 1)) (hp : pc + 1 = pc') (hz : (x.toUInt64 >>> (y &&& 0x3f).toInt64.toUInt64).toInt64 = z) (K : Go Γ n0 Q T (mkF Γ.m pc' Ls (.long z :: st))) : Go Γ n0 Q T (mkF Γ.m pc Ls (.int y :: .long x :: st)) := by
  subst hp
  obtain ⟨hx, hZ0, hown0, hby, hml, hret, hnm, hlk, hR, hsH⟩ := G
  obtain ⟨L, vm0, k0, X, e, N, hS, hk⟩ := X
  have hZ : Z.Warmed39 (Γ.s.setVm vm0).vm := State.Warmed39.trans hZ0 hS.1
  have hown : (Γ.s.setVm vm0).vm.findClass own = some Γ.m.cls := by rw [show (Γ.s.setVm vm0).vm = vm0 from rfl, hS.1.alike.findClass]; exact hown0
  subst hz
  exact Go.of (fun t k => XS.lushr X.here hx rfl (hb hby hd) rfl k) K
theorem k_idiv {x y z : Int32} (G : Ctx Γ Z own bytes maxl ret nm rm hs0) (X : W Γ n0 T h C S) (hd : decode bytes pc = .ok (.idiv, 1)) (hp : pc + 1 = pc') (hy : y ≠ 0) (hz : x / y = z) (K : Go Γ n0 Q T (mkF Γ.m pc' Ls (.int z :: st))) : Go Γ n0 Q T (mkF Γ.m pc Ls (.int y :: .int x :: st)) := by
  subst hp
  obtain ⟨hx, hZ0, hown0, hby, hml, hret, hnm, hlk, hR, hsH⟩ := G
  obtain ⟨L, vm0, k0, X, e, N, hS, hk⟩ := X
  have hZ : Z.Warmed39 (Γ.s.setVm vm0).vm := State.Warmed39.trans hZ0 hS.1
  have hown : (Γ.s.setVm vm0).vm.findClass own = some Γ.m.cls := by rw [show (Γ.s.setVm vm0).vm = vm0 from rfl, hS.1.alike.findClass]; exact hown0
  subst hz
  exact Go.of (fun t k => XS.idiv X.here hx rfl (hb hby hd) rfl hy k) K
theorem k_irem {x y z : Int32} (G : Ctx Γ Z own bytes maxl ret nm rm hs0) (X : W Γ n0 T h C S) (hd : decode bytes pc = .ok (.irem, 1)) (hp : pc + 1 = pc') (hy : y ≠ 0) (hz : x % y = z) (K : Go Γ n0 Q T (mkF Γ.m pc' Ls (.int z :: st))) : Go Γ n0 Q T (mkF Γ.m pc Ls (.int y :: .int x :: st)) := by
  subst hp
  obtain ⟨hx, hZ0, hown0, hby, hml, hret, hnm, hlk, hR, hsH⟩ := G
  obtain ⟨L, vm0, k0, X, e, N, hS, hk⟩ := X
  have hZ : Z.Warmed39 (Γ.s.setVm vm0).vm := State.Warmed39.trans hZ0 hS.1
  have hown : (Γ.s.setVm vm0).vm.findClass own = some Γ.m.cls := by rw [show (Γ.s.setVm vm0).vm = vm0 from rfl, hS.1.alike.findClass]; exact hown0
  subst hz
  exact Go.of (fun t k => iremM X hx rfl (hb hby hd) rfl hy k) K
theorem k_ldiv {x y z : Int64} (G : Ctx Γ Z own bytes maxl ret nm rm hs0) (X : W Γ n0 T h C S) (hd : decode bytes pc = .ok (.ldiv, 1)) (hp : pc + 1 = pc') (hy : y ≠ 0) (hz : x / y = z) (K : Go Γ n0 Q T (mkF Γ.m pc' Ls (.long z :: st))) : Go Γ n0 Q T (mkF Γ.m pc Ls (.long y :: .long x :: st)) := by
  subst hp
  obtain ⟨hx, hZ0, hown0, hby, hml, hret, hnm, hlk, hR, hsH⟩ := G
  obtain ⟨L, vm0, k0, X, e, N, hS, hk⟩ := X
  have hZ : Z.Warmed39 (Γ.s.setVm vm0).vm := State.Warmed39.trans hZ0 hS.1
  have hown : (Γ.s.setVm vm0).vm.findClass own = some Γ.m.cls := by rw [show (Γ.s.setVm vm0).vm = vm0 from rfl, hS.1.alike.findClass]; exact hown0
  subst hz
  exact Go.of (fun t k => XS.ldiv X.here hx rfl (hb hby hd) rfl hy k) K
theorem k_lrem {x y z : Int64} (G : Ctx Γ Z own bytes maxl ret nm rm hs0) (X : W Γ n0 T h C S) (hd : decode bytes pc = .ok (.lrem, 1)) (hp : pc + 1 = pc') (hy : y ≠ 0) (hz : x % y = z) (K : Go Γ n0 Q T (mkF Γ.m pc' Ls (.long z :: st))) : Go Γ n0 Q T (mkF Γ.m pc Ls (.long y :: .long x :: st)) := by
  subst hp
  obtain ⟨hx, hZ0, hown0, hby, hml, hret, hnm, hlk, hR, hsH⟩ := G
  obtain ⟨L, vm0, k0, X, e, N, hS, hk⟩ := X
  have hZ : Z.Warmed39 (Γ.s.setVm vm0).vm := State.Warmed39.trans hZ0 hS.1
  have hown : (Γ.s.setVm vm0).vm.findClass own = some Γ.m.cls := by rw [show (Γ.s.setVm vm0).vm = vm0 from rfl, hS.1.alike.findClass]; exact hown0
  subst hz
  rw [← lrem_mod] at K
  exact Go.of (fun t k => XS.lrem X.here hx rfl (hb hby hd) rfl hy k) K
theorem k_lcmp {x y : Int64} {z : Int32} (G : Ctx Γ Z own bytes maxl ret nm rm hs0) (X : W Γ n0 T h C S) (hd : decode bytes pc = .ok (.lcmp, 1)) (hp : pc + 1 = pc') (hz : (if x > y then (1 : Int32) else if x = y then 0 else -1) = z) (K : Go Γ n0 Q T (mkF Γ.m pc' Ls (.int z :: st))) : Go Γ n0 Q T (mkF Γ.m pc Ls (.long y :: .long x :: st)) := by
  subst hp
  obtain ⟨hx, hZ0, hown0, hby, hml, hret, hnm, hlk, hR, hsH⟩ := G
  obtain ⟨L, vm0, k0, X, e, N, hS, hk⟩ := X
  have hZ : Z.Warmed39 (Γ.s.setVm vm0).vm := State.Warmed39.trans hZ0 hS.1
  have hown : (Γ.s.setVm vm0).vm.findClass own = some Γ.m.cls := by rw [show (Γ.s.setVm vm0).vm = vm0 from rfl, hS.1.alike.findClass]; exact hown0
  subst hz
  exact Go.of (fun t k => XS.lcmp X.here hx rfl (hb hby hd) rfl k) K
theorem k_ineg {x : Int32} {z : Int32} (G : Ctx Γ Z own bytes maxl ret nm rm hs0) (X : W Γ n0 T h C S) (hd : decode bytes pc = .ok (.ineg, 1)) (hp : pc + 1 = pc') (hz : -x = z) (K : Go Γ n0 Q T (mkF Γ.m pc' Ls (.int z :: st))) : Go Γ n0 Q T (mkF Γ.m pc Ls (.int x :: st)) := by
  subst hp
  obtain ⟨hx, hZ0, hown0, hby, hml, hret, hnm, hlk, hR, hsH⟩ := G
  obtain ⟨L, vm0, k0, X, e, N, hS, hk⟩ := X
  have hZ : Z.Warmed39 (Γ.s.setVm vm0).vm := State.Warmed39.trans hZ0 hS.1
  have hown : (Γ.s.setVm vm0).vm.findClass own = some Γ.m.cls := by rw [show (Γ.s.setVm vm0).vm = vm0 from rfl, hS.1.alike.findClass]; exact hown0
  subst hz
  exact Go.of (fun t k => XS.ineg X.here hx rfl (hb hby hd) rfl k) K
theorem k_lneg {x : Int64} {z : Int64} (G : Ctx Γ Z own bytes maxl ret nm rm hs0) (X : W Γ n0 T h C S) (hd : decode bytes pc = .ok (.lneg, 1)) (hp : pc + 1 = pc') (hz : -x = z) (K : Go Γ n0 Q T (mkF Γ.m pc' Ls (.long z :: st))) : Go Γ n0 Q T (mkF Γ.m pc Ls (.long x :: st)) := by
  subst hp
  obtain ⟨hx, hZ0, hown0, hby, hml, hret, hnm, hlk, hR, hsH⟩ := G
  obtain ⟨L, vm0, k0, X, e, N, hS, hk⟩ := X
  have hZ : Z.Warmed39 (Γ.s.setVm vm0).vm := State.Warmed39.trans hZ0 hS.1
  have hown : (Γ.s.setVm vm0).vm.findClass own = some Γ.m.cls := by rw [show (Γ.s.setVm vm0).vm = vm0 from rfl, hS.1.alike.findClass]; exact hown0
  subst hz
  exact Go.of (fun t k => XS.lneg X.here hx rfl (hb hby hd) rfl k) K
theorem k_i2l {x : Int32} {z : Int64} (G : Ctx Γ Z own bytes maxl ret nm rm hs0) (X : W Γ n0 T h C S) (hd : decode bytes pc = .ok (.i2l, 1)) (hp : pc + 1 = pc') (hz : x.toInt64 = z) (K : Go Γ n0 Q T (mkF Γ.m pc' Ls (.long z :: st))) : Go Γ n0 Q T (mkF Γ.m pc Ls (.int x :: st)) := by
  subst hp
  obtain ⟨hx, hZ0, hown0, hby, hml, hret, hnm, hlk, hR, hsH⟩ := G
  obtain ⟨L, vm0, k0, X, e, N, hS, hk⟩ := X
  have hZ : Z.Warmed39 (Γ.s.setVm vm0).vm := State.Warmed39.trans hZ0 hS.1
  have hown : (Γ.s.setVm vm0).vm.findClass own = some Γ.m.cls := by rw [show (Γ.s.setVm vm0).vm = vm0 from rfl, hS.1.alike.findClass]; exact hown0
  subst hz
  exact Go.of (fun t k => XS.i2l X.here hx rfl (hb hby hd) rfl k) K
theorem k_l2i {x : Int64} {z : Int32} (G : Ctx Γ Z own bytes maxl ret nm rm hs0) (X : W Γ n0 T h C S) (hd : decode bytes pc = .ok (.l2i, 1)) (hp : pc + 1 = pc') (hz : x.toInt32 = z) (K : Go Γ n0 Q T (mkF Γ.m pc' Ls (.int z :: st))) : Go Γ n0 Q T (mkF Γ.m pc Ls (.long x :: st)) := by
  subst hp
  obtain ⟨hx, hZ0, hown0, hby, hml, hret, hnm, hlk, hR, hsH⟩ := G
  obtain ⟨L, vm0, k0, X, e, N, hS, hk⟩ := X
  have hZ : Z.Warmed39 (Γ.s.setVm vm0).vm := State.Warmed39.trans hZ0 hS.1
  have hown : (Γ.s.setVm vm0).vm.findClass own = some Γ.m.cls := by rw [show (Γ.s.setVm vm0).vm = vm0 from rfl, hS.1.alike.findClass]; exact hown0
  subst hz
  exact Go.of (fun t k => XS.l2i X.here hx rfl (hb hby hd) rfl k) K
theorem k_i2b {x : Int32} {z : Int32} (G : Ctx Γ Z own bytes maxl ret nm rm hs0) (X : W Γ n0 T h C S) (hd : decode bytes pc = .ok (.i2b, 1)) (hp : pc + 1 = pc') (hz : x.toInt8.toInt32 = z) (K : Go Γ n0 Q T (mkF Γ.m pc' Ls (.int z :: st))) : Go Γ n0 Q T (mkF Γ.m pc Ls (.int x :: st)) := by
  subst hp
  obtain ⟨hx, hZ0, hown0, hby, hml, hret, hnm, hlk, hR, hsH⟩ := G
  obtain ⟨L, vm0, k0, X, e, N, hS, hk⟩ := X
  have hZ : Z.Warmed39 (Γ.s.setVm vm0).vm := State.Warmed39.trans hZ0 hS.1
  have hown : (Γ.s.setVm vm0).vm.findClass own = some Γ.m.cls := by rw [show (Γ.s.setVm vm0).vm = vm0 from rfl, hS.1.alike.findClass]; exact hown0
  subst hz
  exact Go.of (fun t k => XS.i2b X.here hx rfl (hb hby hd) rfl k) K
theorem k_i2s {x : Int32} {z : Int32} (G : Ctx Γ Z own bytes maxl ret nm rm hs0) (X : W Γ n0 T h C S) (hd : decode bytes pc = .ok (.i2s, 1)) (hp : pc + 1 = pc') (hz : x.toInt16.toInt32 = z) (K : Go Γ n0 Q T (mkF Γ.m pc' Ls (.int z :: st))) : Go Γ n0 Q T (mkF Γ.m pc Ls (.int x :: st)) := by
  subst hp
  obtain ⟨hx, hZ0, hown0, hby, hml, hret, hnm, hlk, hR, hsH⟩ := G
  obtain ⟨L, vm0, k0, X, e, N, hS, hk⟩ := X
  have hZ : Z.Warmed39 (Γ.s.setVm vm0).vm := State.Warmed39.trans hZ0 hS.1
  have hown : (Γ.s.setVm vm0).vm.findClass own = some Γ.m.cls := by rw [show (Γ.s.setVm vm0).vm = vm0 from rfl, hS.1.alike.findClass]; exact hown0
  subst hz
  exact Go.of (fun t k => XS.i2s X.here hx rfl (hb hby hd) rfl k) K
theorem k_i2c {x : Int32} {z : Int32} (G : Ctx Γ Z own bytes maxl ret nm rm hs0) (X : W Γ n0 T h C S) (hd : decode bytes pc = .ok (.i2c, 1)) (hp : pc + 1 = pc') (hz : x.toUInt32.toUInt16.toUInt32.toInt32 = z) (K : Go Γ n0 Q T (mkF Γ.m pc' Ls (.int z :: st))) : Go Γ n0 Q T (mkF Γ.m pc Ls (.int x :: st)) := by
  subst hp
  obtain ⟨hx, hZ0, hown0, hby, hml, hret, hnm, hlk, hR, hsH⟩ := G
  obtain ⟨L, vm0, k0, X, e, N, hS, hk⟩ := X
  have hZ : Z.Warmed39 (Γ.s.setVm vm0).vm := State.Warmed39.trans hZ0 hS.1
  have hown : (Γ.s.setVm vm0).vm.findClass own = some Γ.m.cls := by rw [show (Γ.s.setVm vm0).vm = vm0 from rfl, hS.1.alike.findClass]; exact hown0
  subst hz
  exact Go.of (fun t k => XS.i2c X.here hx rfl (hb hby hd) rfl k) K
theorem k_pop {x : Value} (G : Ctx Γ Z own bytes maxl ret nm rm hs0) (X : W Γ n0 T h C S) (hd : decode bytes pc = .ok (.pop, 1)) (hp : pc + 1 = pc') (hc : x.category = 1) (K : Go Γ n0 Q T (mkF Γ.m pc' Ls (st))) : Go Γ n0 Q T (mkF Γ.m pc Ls (x :: st)) := by
  subst hp
  obtain ⟨hx, hZ0, hown0, hby, hml, hret, hnm, hlk, hR, hsH⟩ := G
  obtain ⟨L, vm0, k0, X, e, N, hS, hk⟩ := X
  have hZ : Z.Warmed39 (Γ.s.setVm vm0).vm := State.Warmed39.trans hZ0 hS.1
  have hown : (Γ.s.setVm vm0).vm.findClass own = some Γ.m.cls := by rw [show (Γ.s.setVm vm0).vm = vm0 from rfl, hS.1.alike.findClass]; exact hown0
  exact Go.of (fun t k => XS.pop X.here hx rfl (hb hby hd) rfl hc k) K
theorem k_dup {x : Value} (G : Ctx Γ Z own bytes maxl ret nm rm hs0) (X : W Γ n0 T h C S) (hd : decode bytes pc = .ok (.dup, 1)) (hp : pc + 1 = pc') (hc : x.category = 1) (K : Go Γ n0 Q T (mkF Γ.m pc' Ls (x :: x :: st))) : Go Γ n0 Q T (mkF Γ.m pc Ls (x :: st)) := by
  subst hp
  obtain ⟨hx, hZ0, hown0, hby, hml, hret, hnm, hlk, hR, hsH⟩ := G
  obtain ⟨L, vm0, k0, X, e, N, hS, hk⟩ := X
  have hZ : Z.Warmed39 (Γ.s.setVm vm0).vm := State.Warmed39.trans hZ0 hS.1
  have hown : (Γ.s.setVm vm0).vm.findClass own = some Γ.m.cls := by rw [show (Γ.s.setVm vm0).vm = vm0 from rfl, hS.1.alike.findClass]; exact hown0
  exact Go.of (fun t k => XS.dup X.here hx rfl (hb hby hd) rfl hc k) K
theorem k_dupx1 {x y : Value} (G : Ctx Γ Z own bytes maxl ret nm rm hs0) (X : W Γ n0 T h C S) (hd : decode bytes pc = .ok (.dup_x1, 1)) (hp : pc + 1 = pc') (hc : x.category = 1) (hc' : y.category = 1) (K : Go Γ n0 Q T (mkF Γ.m pc' Ls (x :: y :: x :: st))) : Go Γ n0 Q T (mkF Γ.m pc Ls (x :: y :: st)) := by
  subst hp
  obtain ⟨hx, hZ0, hown0, hby, hml, hret, hnm, hlk, hR, hsH⟩ := G
  obtain ⟨L, vm0, k0, X, e, N, hS, hk⟩ := X
  have hZ : Z.Warmed39 (Γ.s.setVm vm0).vm := State.Warmed39.trans hZ0 hS.1
  have hown : (Γ.s.setVm vm0).vm.findClass own = some Γ.m.cls := by rw [show (Γ.s.setVm vm0).vm = vm0 from rfl, hS.1.alike.findClass]; exact hown0
  exact Go.of (fun t k => XS.dupX1 X.here hx rfl (hb hby hd) rfl hc hc' k) K
theorem k_dup2 {x y : Value} (G : Ctx Γ Z own bytes maxl ret nm rm hs0) (X : W Γ n0 T h C S) (hd : decode bytes pc = .ok (.dup2, 1)) (hp : pc + 1 = pc') (hc : x.category = 1) (hc' : y.category = 1) (K : Go Γ n0 Q T (mkF Γ.m pc' Ls (x :: y :: x :: y :: st))) : Go Γ n0 Q T (mkF Γ.m pc Ls (x :: y :: st)) := by
  subst hp
  obtain ⟨hx, hZ0, hown0, hby, hml, hret, hnm, hlk, hR, hsH⟩ := G
  obtain ⟨L, vm0, k0, X, e, N, hS, hk⟩ := X
  have hZ : Z.Warmed39 (Γ.s.setVm vm0).vm := State.Warmed39.trans hZ0 hS.1
  have hown : (Γ.s.setVm vm0).vm.findClass own = some Γ.m.cls := by rw [show (Γ.s.setVm vm0).vm = vm0 from rfl, hS.1.alike.findClass]; exact hown0
  exact Go.of (fun t k => XT.dup2 X.here hx rfl (hb hby hd) rfl hc hc' k) K
theorem k_dup2l {x : Int64} (G : Ctx Γ Z own bytes maxl ret nm rm hs0) (X : W Γ n0 T h C S) (hd : decode bytes pc = .ok (.dup2, 1)) (hp : pc + 1 = pc')  (K : Go Γ n0 Q T (mkF Γ.m pc' Ls (.long x :: .long x :: st))) : Go Γ n0 Q T (mkF Γ.m pc Ls (.long x :: st)) := by
  subst hp
  obtain ⟨hx, hZ0, hown0, hby, hml, hret, hnm, hlk, hR, hsH⟩ := G
  obtain ⟨L, vm0, k0, X, e, N, hS, hk⟩ := X
  have hZ : Z.Warmed39 (Γ.s.setVm vm0).vm := State.Warmed39.trans hZ0 hS.1
  have hown : (Γ.s.setVm vm0).vm.findClass own = some Γ.m.cls := by rw [show (Γ.s.setVm vm0).vm = vm0 from rfl, hS.1.alike.findClass]; exact hown0
  exact Go.of (fun t k => XT.dup2L X.here hx rfl (hb hby hd) rfl k) K
theorem k_iinc {k : Nat} {cst : Int} {x z : Int32} {l' : Array Slot} (G : Ctx Γ Z own bytes maxl ret nm rm hs0) (X : W Γ n0 T h C S) (hd : decode bytes pc = .ok (.iinc k cst, 3)) (hp : pc + 3 = pc') (hl : Ls[k]? = some (.val (.int x))) (hz : x + Int32.ofInt cst = z) (hl' : storeLocals Ls k (.int z) = some l') (K : Go Γ n0 Q T (mkF Γ.m pc' l' (st))) : Go Γ n0 Q T (mkF Γ.m pc Ls (st)) := by
  subst hp
  obtain ⟨hx, hZ0, hown0, hby, hml, hret, hnm, hlk, hR, hsH⟩ := G
  obtain ⟨L, vm0, k0, X, e, N, hS, hk⟩ := X
  have hZ : Z.Warmed39 (Γ.s.setVm vm0).vm := State.Warmed39.trans hZ0 hS.1
  have hown : (Γ.s.setVm vm0).vm.findClass own = some Γ.m.cls := by rw [show (Γ.s.setVm vm0).vm = vm0 from rfl, hS.1.alike.findClass]; exact hown0
  subst hz
  exact Go.of (fun t k => XS.iinc X.here hx rfl (hb hby hd) hl hl' k) K
theorem k_istoreS {k : Nat} {v : Int32} {o : Slot} {l' : Array Slot} (G : Ctx Γ Z own bytes maxl ret nm rm hs0) (X : W Γ n0 T h C S) (hd : decode bytes pc = .ok (.istore k, 2)) (hp : pc + 2 = pc') (hold : Ls[k]? = some o) (ho : o = .unset ∨ ∃ w, o = .val w ∧ w.category = 1) (hl : Ls.setIfInBounds k (.val (.int v)) = l') (K : Go Γ n0 Q T (mkF Γ.m pc' l' (st))) : Go Γ n0 Q T (mkF Γ.m pc Ls (.int v :: st)) := by
  subst hp
  obtain ⟨hx, hZ0, hown0, hby, hml, hret, hnm, hlk, hR, hsH⟩ := G
  obtain ⟨L, vm0, k0, X, e, N, hS, hk⟩ := X
  have hZ : Z.Warmed39 (Γ.s.setVm vm0).vm := State.Warmed39.trans hZ0 hS.1
  have hown : (Γ.s.setVm vm0).vm.findClass own = some Γ.m.cls := by rw [show (Γ.s.setVm vm0).vm = vm0 from rfl, hS.1.alike.findClass]; exact hown0
  subst hl
  exact Go.of (fun t k => XS.istoreS X.here hx rfl (hb hby hd) rfl hold ho k) K
theorem k_istoreNS {k : Fin 4} {v : Int32} {o : Slot} {l' : Array Slot} (G : Ctx Γ Z own bytes maxl ret nm rm hs0) (X : W Γ n0 T h C S) (hd : decode bytes pc = .ok (.istore_n k, 1)) (hp : pc + 1 = pc') (hold : Ls[k.val]? = some o) (ho : o = .unset ∨ ∃ w, o = .val w ∧ w.category = 1) (hl : Ls.setIfInBounds k.val (.val (.int v)) = l') (K : Go Γ n0 Q T (mkF Γ.m pc' l' (st))) : Go Γ n0 Q T (mkF Γ.m pc Ls (.int v :: st)) := by
  subst hp
  obtain ⟨hx, hZ0, hown0, hby, hml, hret, hnm, hlk, hR, hsH⟩ := G
  obtain ⟨L, vm0, k0, X, e, N, hS, hk⟩ := X
  have hZ : Z.Warmed39 (Γ.s.setVm vm0).vm := State.Warmed39.trans hZ0 hS.1
  have hown : (Γ.s.setVm vm0).vm.findClass own = some Γ.m.cls := by rw [show (Γ.s.setVm vm0).vm = vm0 from rfl, hS.1.alike.findClass]; exact hown0
  subst hl
  exact Go.of (fun t k => XS.istoreNS X.here hx rfl (hb hby hd) rfl hold ho k) K
theorem k_astoreS {k : Nat} {v : Value} {o : Slot} {l' : Array Slot} (G : Ctx Γ Z own bytes maxl ret nm rm hs0) (X : W Γ n0 T h C S) (hd : decode bytes pc = .ok (.astore k, 2)) (hp : pc + 2 = pc') (hv : v.isRef = true) (hold : Ls[k]? = some o) (ho : o = .unset ∨ ∃ w, o = .val w ∧ w.category = 1) (hl : Ls.setIfInBounds k (.val v) = l') (K : Go Γ n0 Q T (mkF Γ.m pc' l' (st))) : Go Γ n0 Q T (mkF Γ.m pc Ls (v :: st)) := by
  subst hp
  obtain ⟨hx, hZ0, hown0, hby, hml, hret, hnm, hlk, hR, hsH⟩ := G
  obtain ⟨L, vm0, k0, X, e, N, hS, hk⟩ := X
  have hZ : Z.Warmed39 (Γ.s.setVm vm0).vm := State.Warmed39.trans hZ0 hS.1
  have hown : (Γ.s.setVm vm0).vm.findClass own = some Γ.m.cls := by rw [show (Γ.s.setVm vm0).vm = vm0 from rfl, hS.1.alike.findClass]; exact hown0
  subst hl
  exact Go.of (fun t k => XS.astoreS X.here hx rfl (hb hby hd) rfl hv (by cases v <;> first | rfl | (simp [Value.isRef] at hv)) hold ho k) K
theorem k_astoreNS {k : Fin 4} {v : Value} {o : Slot} {l' : Array Slot} (G : Ctx Γ Z own bytes maxl ret nm rm hs0) (X : W Γ n0 T h C S) (hd : decode bytes pc = .ok (.astore_n k, 1)) (hp : pc + 1 = pc') (hv : v.isRef = true) (hold : Ls[k.val]? = some o) (ho : o = .unset ∨ ∃ w, o = .val w ∧ w.category = 1) (hl : Ls.setIfInBounds k.val (.val v) = l') (K : Go Γ n0 Q T (mkF Γ.m pc' l' (st))) : Go Γ n0 Q T (mkF Γ.m pc Ls (v :: st)) := by
  subst hp
  obtain ⟨hx, hZ0, hown0, hby, hml, hret, hnm, hlk, hR, hsH⟩ := G
  obtain ⟨L, vm0, k0, X, e, N, hS, hk⟩ := X
  have hZ : Z.Warmed39 (Γ.s.setVm vm0).vm := State.Warmed39.trans hZ0 hS.1
  have hown : (Γ.s.setVm vm0).vm.findClass own = some Γ.m.cls := by rw [show (Γ.s.setVm vm0).vm = vm0 from rfl, hS.1.alike.findClass]; exact hown0
  subst hl
  exact Go.of (fun t k => XS.astoreN X.here hx rfl (hb hby hd) rfl hv (XS.store1 hold ho (by cases v <;> first | rfl | (simp [Value.isRef] at hv))) k) K
theorem k_goto {o : Int} (G : Ctx Γ Z own bytes maxl ret nm rm hs0) (X : W Γ n0 T h C S) (hd : decode bytes pc = .ok (.goto o, 3)) (ho : 0 ≤ (pc : Int) + o) (hp : ((pc : Int) + o).toNat = pc') (K : Go Γ n0 Q T (mkF Γ.m pc' Ls st)) : Go Γ n0 Q T (mkF Γ.m pc Ls st) := by
  obtain ⟨hx, hZ0, hown0, hby, hml, hret, hnm, hlk, hR, hsH⟩ := G
  obtain ⟨L, vm0, k0, X, e, N, hS, hk⟩ := X
  have hZ : Z.Warmed39 (Γ.s.setVm vm0).vm := State.Warmed39.trans hZ0 hS.1
  have hown : (Γ.s.setVm vm0).vm.findClass own = some Γ.m.cls := by rw [show (Γ.s.setVm vm0).vm = vm0 from rfl, hS.1.alike.findClass]; exact hown0
  exact Go.of (fun t k => XS.goto X.here hx rfl (pc0 := pc) rfl (hb hby hd) ho hp k) K
theorem z32 : (0 : Int32).toInt = 0 := rfl
theorem hold_eq (x y : Int32) : (if_icmp.holds .eq x y = true → x = y) ∧ (if_icmp.holds .eq x y = false → x ≠ y) := by
  constructor <;> intro q <;> simp only [if_icmp.holds] at q <;> simp [Int32.lt_iff_toInt_lt, Int32.le_iff_toInt_le] at q ⊢ <;> first | exact q | omega
theorem hold0_eq (x : Int32) : (ifCond.holds .eq x = true → x = 0) ∧ (ifCond.holds .eq x = false → x ≠ 0) := by
  have z := z32
  constructor <;> intro q <;> simp only [ifCond.holds] at q <;> simp [Int32.lt_iff_toInt_lt, Int32.le_iff_toInt_le] at q ⊢ <;> first | exact q | omega
theorem k_icmp_eq {o : Int} {x y : Int32} {pc'' : Nat} (G : Ctx Γ Z own bytes maxl ret nm rm hs0) (X : W Γ n0 T h C S) (hd : decode bytes pc = .ok (.if_icmp .eq o, 3)) (hp : ((pc : Int) + o).toNat = pc') (ho : 0 ≤ (pc : Int) + o) (hp' : pc + 3 = pc'') (K : x = y → Go Γ n0 Q T (mkF Γ.m pc' Ls st)) (K' : x ≠ y → Go Γ n0 Q T (mkF Γ.m pc'' Ls st)) : Go Γ n0 Q T (mkF Γ.m pc Ls (.int y :: .int x :: st)) := by
  subst hp'
  obtain ⟨hx, hZ0, hown0, hby, hml, hret, hnm, hlk, hR, hsH⟩ := G
  obtain ⟨L, vm0, k0, X, e, N, hS, hk⟩ := X
  have hZ : Z.Warmed39 (Γ.s.setVm vm0).vm := State.Warmed39.trans hZ0 hS.1
  have hown : (Γ.s.setVm vm0).vm.findClass own = some Γ.m.cls := by rw [show (Γ.s.setVm vm0).vm = vm0 from rfl, hS.1.alike.findClass]; exact hown0
  cases q : if_icmp.holds .eq x y
  · exact Go.of (fun t k => XS.icmpNo X.here hx rfl (hb hby hd) rfl q k) (K' ((hold_eq x y).2 q))
  · exact Go.of (fun t k => XS.icmpYes X.here hx rfl (pc0 := pc) rfl (hb hby hd) rfl q ho hp k) (K ((hold_eq x y).1 q))
theorem k_if_eq {o : Int} {x : Int32} {pc'' : Nat} (G : Ctx Γ Z own bytes maxl ret nm rm hs0) (X : W Γ n0 T h C S) (hd : decode bytes pc = .ok (.ifCond .eq o, 3)) (hp : ((pc : Int) + o).toNat = pc') (ho : 0 ≤ (pc : Int) + o) (hp' : pc + 3 = pc'') (K : x = 0 → Go Γ n0 Q T (mkF Γ.m pc' Ls st)) (K' : x ≠ 0 → Go Γ n0 Q T (mkF Γ.m pc'' Ls st)) : Go Γ n0 Q T (mkF Γ.m pc Ls (.int x :: st)) := by
  subst hp'
  obtain ⟨hx, hZ0, hown0, hby, hml, hret, hnm, hlk, hR, hsH⟩ := G
  obtain ⟨L, vm0, k0, X, e, N, hS, hk⟩ := X
  have hZ : Z.Warmed39 (Γ.s.setVm vm0).vm := State.Warmed39.trans hZ0 hS.1
  have hown : (Γ.s.setVm vm0).vm.findClass own = some Γ.m.cls := by rw [show (Γ.s.setVm vm0).vm = vm0 from rfl, hS.1.alike.findClass]; exact hown0
  cases q : ifCond.holds .eq x
  · exact Go.of (fun t k => XS.ifNo X.here hx rfl (hb hby hd) rfl q k) (K' ((hold0_eq x).2 q))
  · exact Go.of (fun t k => XS.ifYes X.here hx rfl (pc0 := pc) rfl (hb hby hd) rfl q ho hp k) (K ((hold0_eq x).1 q))
theorem hold_ne (x y : Int32) : (if_icmp.holds .ne x y = true → x ≠ y) ∧ (if_icmp.holds .ne x y = false → x = y) := by
  constructor <;> intro q <;> simp only [if_icmp.holds] at q <;> simp [Int32.lt_iff_toInt_lt, Int32.le_iff_toInt_le] at q ⊢ <;> first | exact q | omega
theorem hold0_ne (x : Int32) : (ifCond.holds .ne x = true → x ≠ 0) ∧ (ifCond.holds .ne x = false → x = 0) := by
  have z := z32
  constructor <;> intro q <;> simp only [ifCond.holds] at q <;> simp [Int32.lt_iff_toInt_lt, Int32.le_iff_toInt_le] at q ⊢ <;> first | exact q | omega
theorem k_icmp_ne {o : Int} {x y : Int32} {pc'' : Nat} (G : Ctx Γ Z own bytes maxl ret nm rm hs0) (X : W Γ n0 T h C S) (hd : decode bytes pc = .ok (.if_icmp .ne o, 3)) (hp : ((pc : Int) + o).toNat = pc') (ho : 0 ≤ (pc : Int) + o) (hp' : pc + 3 = pc'') (K : x ≠ y → Go Γ n0 Q T (mkF Γ.m pc' Ls st)) (K' : x = y → Go Γ n0 Q T (mkF Γ.m pc'' Ls st)) : Go Γ n0 Q T (mkF Γ.m pc Ls (.int y :: .int x :: st)) := by
  subst hp'
  obtain ⟨hx, hZ0, hown0, hby, hml, hret, hnm, hlk, hR, hsH⟩ := G
  obtain ⟨L, vm0, k0, X, e, N, hS, hk⟩ := X
  have hZ : Z.Warmed39 (Γ.s.setVm vm0).vm := State.Warmed39.trans hZ0 hS.1
  have hown : (Γ.s.setVm vm0).vm.findClass own = some Γ.m.cls := by rw [show (Γ.s.setVm vm0).vm = vm0 from rfl, hS.1.alike.findClass]; exact hown0
  cases q : if_icmp.holds .ne x y
  · exact Go.of (fun t k => XS.icmpNo X.here hx rfl (hb hby hd) rfl q k) (K' ((hold_ne x y).2 q))
  · exact Go.of (fun t k => XS.icmpYes X.here hx rfl (pc0 := pc) rfl (hb hby hd) rfl q ho hp k) (K ((hold_ne x y).1 q))
theorem k_if_ne {o : Int} {x : Int32} {pc'' : Nat} (G : Ctx Γ Z own bytes maxl ret nm rm hs0) (X : W Γ n0 T h C S) (hd : decode bytes pc = .ok (.ifCond .ne o, 3)) (hp : ((pc : Int) + o).toNat = pc') (ho : 0 ≤ (pc : Int) + o) (hp' : pc + 3 = pc'') (K : x ≠ 0 → Go Γ n0 Q T (mkF Γ.m pc' Ls st)) (K' : x = 0 → Go Γ n0 Q T (mkF Γ.m pc'' Ls st)) : Go Γ n0 Q T (mkF Γ.m pc Ls (.int x :: st)) := by
  subst hp'
  obtain ⟨hx, hZ0, hown0, hby, hml, hret, hnm, hlk, hR, hsH⟩ := G
  obtain ⟨L, vm0, k0, X, e, N, hS, hk⟩ := X
  have hZ : Z.Warmed39 (Γ.s.setVm vm0).vm := State.Warmed39.trans hZ0 hS.1
  have hown : (Γ.s.setVm vm0).vm.findClass own = some Γ.m.cls := by rw [show (Γ.s.setVm vm0).vm = vm0 from rfl, hS.1.alike.findClass]; exact hown0
  cases q : ifCond.holds .ne x
  · exact Go.of (fun t k => XS.ifNo X.here hx rfl (hb hby hd) rfl q k) (K' ((hold0_ne x).2 q))
  · exact Go.of (fun t k => XS.ifYes X.here hx rfl (pc0 := pc) rfl (hb hby hd) rfl q ho hp k) (K ((hold0_ne x).1 q))
theorem hold_lt (x y : Int32) : (if_icmp.holds .lt x y = true → x.toInt < y.toInt) ∧ (if_icmp.holds .lt x y = false → y.toInt ≤ x.toInt) := by
  constructor <;> intro q <;> simp only [if_icmp.holds] at q <;> simp [Int32.lt_iff_toInt_lt, Int32.le_iff_toInt_le] at q ⊢ <;> first | exact q | omega
theorem hold0_lt (x : Int32) : (ifCond.holds .lt x = true → x.toInt < 0) ∧ (ifCond.holds .lt x = false → 0 ≤ x.toInt) := by
  have z := z32
  constructor <;> intro q <;> simp only [ifCond.holds] at q <;> simp [Int32.lt_iff_toInt_lt, Int32.le_iff_toInt_le] at q ⊢ <;> first | exact q | omega
theorem k_icmp_lt {o : Int} {x y : Int32} {pc'' : Nat} (G : Ctx Γ Z own bytes maxl ret nm rm hs0) (X : W Γ n0 T h C S) (hd : decode bytes pc = .ok (.if_icmp .lt o, 3)) (hp : ((pc : Int) + o).toNat = pc') (ho : 0 ≤ (pc : Int) + o) (hp' : pc + 3 = pc'') (K : x.toInt < y.toInt → Go Γ n0 Q T (mkF Γ.m pc' Ls st)) (K' : y.toInt ≤ x.toInt → Go Γ n0 Q T (mkF Γ.m pc'' Ls st)) : Go Γ n0 Q T (mkF Γ.m pc Ls (.int y :: .int x :: st)) := by
  subst hp'
  obtain ⟨hx, hZ0, hown0, hby, hml, hret, hnm, hlk, hR, hsH⟩ := G
  obtain ⟨L, vm0, k0, X, e, N, hS, hk⟩ := X
  have hZ : Z.Warmed39 (Γ.s.setVm vm0).vm := State.Warmed39.trans hZ0 hS.1
  have hown : (Γ.s.setVm vm0).vm.findClass own = some Γ.m.cls := by rw [show (Γ.s.setVm vm0).vm = vm0 from rfl, hS.1.alike.findClass]; exact hown0
  cases q : if_icmp.holds .lt x y
  · exact Go.of (fun t k => XS.icmpNo X.here hx rfl (hb hby hd) rfl q k) (K' ((hold_lt x y).2 q))
  · exact Go.of (fun t k => XS.icmpYes X.here hx rfl (pc0 := pc) rfl (hb hby hd) rfl q ho hp k) (K ((hold_lt x y).1 q))
theorem k_if_lt {o : Int} {x : Int32} {pc'' : Nat} (G : Ctx Γ Z own bytes maxl ret nm rm hs0) (X : W Γ n0 T h C S) (hd : decode bytes pc = .ok (.ifCond .lt o, 3)) (hp : ((pc : Int) + o).toNat = pc') (ho : 0 ≤ (pc : Int) + o) (hp' : pc + 3 = pc'') (K : x.toInt < 0 → Go Γ n0 Q T (mkF Γ.m pc' Ls st)) (K' : 0 ≤ x.toInt → Go Γ n0 Q T (mkF Γ.m pc'' Ls st)) : Go Γ n0 Q T (mkF Γ.m pc Ls (.int x :: st)) := by
  subst hp'
  obtain ⟨hx, hZ0, hown0, hby, hml, hret, hnm, hlk, hR, hsH⟩ := G
  obtain ⟨L, vm0, k0, X, e, N, hS, hk⟩ := X
  have hZ : Z.Warmed39 (Γ.s.setVm vm0).vm := State.Warmed39.trans hZ0 hS.1
  have hown : (Γ.s.setVm vm0).vm.findClass own = some Γ.m.cls := by rw [show (Γ.s.setVm vm0).vm = vm0 from rfl, hS.1.alike.findClass]; exact hown0
  cases q : ifCond.holds .lt x
  · exact Go.of (fun t k => XS.ifNo X.here hx rfl (hb hby hd) rfl q k) (K' ((hold0_lt x).2 q))
  · exact Go.of (fun t k => XS.ifYes X.here hx rfl (pc0 := pc) rfl (hb hby hd) rfl q ho hp k) (K ((hold0_lt x).1 q))
theorem hold_ge (x y : Int32) : (if_icmp.holds .ge x y = true → y.toInt ≤ x.toInt) ∧ (if_icmp.holds .ge x y = false → x.toInt < y.toInt) := by
  constructor <;> intro q <;> simp only [if_icmp.holds] at q <;> simp [Int32.lt_iff_toInt_lt, Int32.le_iff_toInt_le] at q ⊢ <;> first | exact q | omega
theorem hold0_ge (x : Int32) : (ifCond.holds .ge x = true → 0 ≤ x.toInt) ∧ (ifCond.holds .ge x = false → x.toInt < 0) := by
  have z := z32
  constructor <;> intro q <;> simp only [ifCond.holds] at q <;> simp [Int32.lt_iff_toInt_lt, Int32.le_iff_toInt_le] at q ⊢ <;> first | exact q | omega
theorem k_icmp_ge {o : Int} {x y : Int32} {pc'' : Nat} (G : Ctx Γ Z own bytes maxl ret nm rm hs0) (X : W Γ n0 T h C S) (hd : decode bytes pc = .ok (.if_icmp .ge o, 3)) (hp : ((pc : Int) + o).toNat = pc') (ho : 0 ≤ (pc : Int) + o) (hp' : pc + 3 = pc'') (K : y.toInt ≤ x.toInt → Go Γ n0 Q T (mkF Γ.m pc' Ls st)) (K' : x.toInt < y.toInt → Go Γ n0 Q T (mkF Γ.m pc'' Ls st)) : Go Γ n0 Q T (mkF Γ.m pc Ls (.int y :: .int x :: st)) := by
  subst hp'
  obtain ⟨hx, hZ0, hown0, hby, hml, hret, hnm, hlk, hR, hsH⟩ := G
  obtain ⟨L, vm0, k0, X, e, N, hS, hk⟩ := X
  have hZ : Z.Warmed39 (Γ.s.setVm vm0).vm := State.Warmed39.trans hZ0 hS.1
  have hown : (Γ.s.setVm vm0).vm.findClass own = some Γ.m.cls := by rw [show (Γ.s.setVm vm0).vm = vm0 from rfl, hS.1.alike.findClass]; exact hown0
  cases q : if_icmp.holds .ge x y
  · exact Go.of (fun t k => XS.icmpNo X.here hx rfl (hb hby hd) rfl q k) (K' ((hold_ge x y).2 q))
  · exact Go.of (fun t k => XS.icmpYes X.here hx rfl (pc0 := pc) rfl (hb hby hd) rfl q ho hp k) (K ((hold_ge x y).1 q))
theorem k_if_ge {o : Int} {x : Int32} {pc'' : Nat} (G : Ctx Γ Z own bytes maxl ret nm rm hs0) (X : W Γ n0 T h C S) (hd : decode bytes pc = .ok (.ifCond .ge o, 3)) (hp : ((pc : Int) + o).toNat = pc') (ho : 0 ≤ (pc : Int) + o) (hp' : pc + 3 = pc'') (K : 0 ≤ x.toInt → Go Γ n0 Q T (mkF Γ.m pc' Ls st)) (K' : x.toInt < 0 → Go Γ n0 Q T (mkF Γ.m pc'' Ls st)) : Go Γ n0 Q T (mkF Γ.m pc Ls (.int x :: st)) := by
  subst hp'
  obtain ⟨hx, hZ0, hown0, hby, hml, hret, hnm, hlk, hR, hsH⟩ := G
  obtain ⟨L, vm0, k0, X, e, N, hS, hk⟩ := X
  have hZ : Z.Warmed39 (Γ.s.setVm vm0).vm := State.Warmed39.trans hZ0 hS.1
  have hown : (Γ.s.setVm vm0).vm.findClass own = some Γ.m.cls := by rw [show (Γ.s.setVm vm0).vm = vm0 from rfl, hS.1.alike.findClass]; exact hown0
  cases q : ifCond.holds .ge x
  · exact Go.of (fun t k => XS.ifNo X.here hx rfl (hb hby hd) rfl q k) (K' ((hold0_ge x).2 q))
  · exact Go.of (fun t k => XS.ifYes X.here hx rfl (pc0 := pc) rfl (hb hby hd) rfl q ho hp k) (K ((hold0_ge x).1 q))
theorem hold_gt (x y : Int32) : (if_icmp.holds .gt x y = true → y.toInt < x.toInt) ∧ (if_icmp.holds .gt x y = false → x.toInt ≤ y.toInt) := by
  constructor <;> intro q <;> simp only [if_icmp.holds] at q <;> simp [Int32.lt_iff_toInt_lt, Int32.le_iff_toInt_le] at q ⊢ <;> first | exact q | omega
theorem hold0_gt (x : Int32) : (ifCond.holds .gt x = true → 0 < x.toInt) ∧ (ifCond.holds .gt x = false → x.toInt ≤ 0) := by
  have z := z32
  constructor <;> intro q <;> simp only [ifCond.holds] at q <;> simp [Int32.lt_iff_toInt_lt, Int32.le_iff_toInt_le] at q ⊢ <;> first | exact q | omega
theorem k_icmp_gt {o : Int} {x y : Int32} {pc'' : Nat} (G : Ctx Γ Z own bytes maxl ret nm rm hs0) (X : W Γ n0 T h C S) (hd : decode bytes pc = .ok (.if_icmp .gt o, 3)) (hp : ((pc : Int) + o).toNat = pc') (ho : 0 ≤ (pc : Int) + o) (hp' : pc + 3 = pc'') (K : y.toInt < x.toInt → Go Γ n0 Q T (mkF Γ.m pc' Ls st)) (K' : x.toInt ≤ y.toInt → Go Γ n0 Q T (mkF Γ.m pc'' Ls st)) : Go Γ n0 Q T (mkF Γ.m pc Ls (.int y :: .int x :: st)) := by
  subst hp'
  obtain ⟨hx, hZ0, hown0, hby, hml, hret, hnm, hlk, hR, hsH⟩ := G
  obtain ⟨L, vm0, k0, X, e, N, hS, hk⟩ := X
  have hZ : Z.Warmed39 (Γ.s.setVm vm0).vm := State.Warmed39.trans hZ0 hS.1
  have hown : (Γ.s.setVm vm0).vm.findClass own = some Γ.m.cls := by rw [show (Γ.s.setVm vm0).vm = vm0 from rfl, hS.1.alike.findClass]; exact hown0
  cases q : if_icmp.holds .gt x y
  · exact Go.of (fun t k => XS.icmpNo X.here hx rfl (hb hby hd) rfl q k) (K' ((hold_gt x y).2 q))
  · exact Go.of (fun t k => XS.icmpYes X.here hx rfl (pc0 := pc) rfl (hb hby hd) rfl q ho hp k) (K ((hold_gt x y).1 q))
theorem k_if_gt {o : Int} {x : Int32} {pc'' : Nat} (G : Ctx Γ Z own bytes maxl ret nm rm hs0) (X : W Γ n0 T h C S) (hd : decode bytes pc = .ok (.ifCond .gt o, 3)) (hp : ((pc : Int) + o).toNat = pc') (ho : 0 ≤ (pc : Int) + o) (hp' : pc + 3 = pc'') (K : 0 < x.toInt → Go Γ n0 Q T (mkF Γ.m pc' Ls st)) (K' : x.toInt ≤ 0 → Go Γ n0 Q T (mkF Γ.m pc'' Ls st)) : Go Γ n0 Q T (mkF Γ.m pc Ls (.int x :: st)) := by
  subst hp'
  obtain ⟨hx, hZ0, hown0, hby, hml, hret, hnm, hlk, hR, hsH⟩ := G
  obtain ⟨L, vm0, k0, X, e, N, hS, hk⟩ := X
  have hZ : Z.Warmed39 (Γ.s.setVm vm0).vm := State.Warmed39.trans hZ0 hS.1
  have hown : (Γ.s.setVm vm0).vm.findClass own = some Γ.m.cls := by rw [show (Γ.s.setVm vm0).vm = vm0 from rfl, hS.1.alike.findClass]; exact hown0
  cases q : ifCond.holds .gt x
  · exact Go.of (fun t k => XS.ifNo X.here hx rfl (hb hby hd) rfl q k) (K' ((hold0_gt x).2 q))
  · exact Go.of (fun t k => XS.ifYes X.here hx rfl (pc0 := pc) rfl (hb hby hd) rfl q ho hp k) (K ((hold0_gt x).1 q))
theorem hold_le (x y : Int32) : (if_icmp.holds .le x y = true → x.toInt ≤ y.toInt) ∧ (if_icmp.holds .le x y = false → y.toInt < x.toInt) := by
  constructor <;> intro q <;> simp only [if_icmp.holds] at q <;> simp [Int32.lt_iff_toInt_lt, Int32.le_iff_toInt_le] at q ⊢ <;> first | exact q | omega
theorem hold0_le (x : Int32) : (ifCond.holds .le x = true → x.toInt ≤ 0) ∧ (ifCond.holds .le x = false → 0 < x.toInt) := by
  have z := z32
  constructor <;> intro q <;> simp only [ifCond.holds] at q <;> simp [Int32.lt_iff_toInt_lt, Int32.le_iff_toInt_le] at q ⊢ <;> first | exact q | omega
theorem k_icmp_le {o : Int} {x y : Int32} {pc'' : Nat} (G : Ctx Γ Z own bytes maxl ret nm rm hs0) (X : W Γ n0 T h C S) (hd : decode bytes pc = .ok (.if_icmp .le o, 3)) (hp : ((pc : Int) + o).toNat = pc') (ho : 0 ≤ (pc : Int) + o) (hp' : pc + 3 = pc'') (K : x.toInt ≤ y.toInt → Go Γ n0 Q T (mkF Γ.m pc' Ls st)) (K' : y.toInt < x.toInt → Go Γ n0 Q T (mkF Γ.m pc'' Ls st)) : Go Γ n0 Q T (mkF Γ.m pc Ls (.int y :: .int x :: st)) := by
  subst hp'
  obtain ⟨hx, hZ0, hown0, hby, hml, hret, hnm, hlk, hR, hsH⟩ := G
  obtain ⟨L, vm0, k0, X, e, N, hS, hk⟩ := X
  have hZ : Z.Warmed39 (Γ.s.setVm vm0).vm := State.Warmed39.trans hZ0 hS.1
  have hown : (Γ.s.setVm vm0).vm.findClass own = some Γ.m.cls := by rw [show (Γ.s.setVm vm0).vm = vm0 from rfl, hS.1.alike.findClass]; exact hown0
  cases q : if_icmp.holds .le x y
  · exact Go.of (fun t k => XS.icmpNo X.here hx rfl (hb hby hd) rfl q k) (K' ((hold_le x y).2 q))
  · exact Go.of (fun t k => XS.icmpYes X.here hx rfl (pc0 := pc) rfl (hb hby hd) rfl q ho hp k) (K ((hold_le x y).1 q))
theorem k_if_le {o : Int} {x : Int32} {pc'' : Nat} (G : Ctx Γ Z own bytes maxl ret nm rm hs0) (X : W Γ n0 T h C S) (hd : decode bytes pc = .ok (.ifCond .le o, 3)) (hp : ((pc : Int) + o).toNat = pc') (ho : 0 ≤ (pc : Int) + o) (hp' : pc + 3 = pc'') (K : x.toInt ≤ 0 → Go Γ n0 Q T (mkF Γ.m pc' Ls st)) (K' : 0 < x.toInt → Go Γ n0 Q T (mkF Γ.m pc'' Ls st)) : Go Γ n0 Q T (mkF Γ.m pc Ls (.int x :: st)) := by
  subst hp'
  obtain ⟨hx, hZ0, hown0, hby, hml, hret, hnm, hlk, hR, hsH⟩ := G
  obtain ⟨L, vm0, k0, X, e, N, hS, hk⟩ := X
  have hZ : Z.Warmed39 (Γ.s.setVm vm0).vm := State.Warmed39.trans hZ0 hS.1
  have hown : (Γ.s.setVm vm0).vm.findClass own = some Γ.m.cls := by rw [show (Γ.s.setVm vm0).vm = vm0 from rfl, hS.1.alike.findClass]; exact hown0
  cases q : ifCond.holds .le x
  · exact Go.of (fun t k => XS.ifNo X.here hx rfl (hb hby hd) rfl q k) (K' ((hold0_le x).2 q))
  · exact Go.of (fun t k => XS.ifYes X.here hx rfl (pc0 := pc) rfl (hb hby hd) rfl q ho hp k) (K ((hold0_le x).1 q))
theorem k_acmp_eq {o : Int} {x y : Value} {pc'' : Nat} (G : Ctx Γ Z own bytes maxl ret nm rm hs0) (X : W Γ n0 T h C S) (hd : decode bytes pc = .ok (.if_acmp .eq o, 3)) (hp : ((pc : Int) + o).toNat = pc') (ho : 0 ≤ (pc : Int) + o) (hp' : pc + 3 = pc'') (h1 : x.isRef = true) (h2 : y.isRef = true) (K : x = y → Go Γ n0 Q T (mkF Γ.m pc' Ls st)) (K' : x ≠ y → Go Γ n0 Q T (mkF Γ.m pc'' Ls st)) : Go Γ n0 Q T (mkF Γ.m pc Ls (y :: x :: st)) := by
  subst hp hp'
  obtain ⟨hx, hZ0, hown0, hby, hml, hret, hnm, hlk, hR, hsH⟩ := G
  obtain ⟨L, vm0, k0, X, e, N, hS, hk⟩ := X
  have hZ : Z.Warmed39 (Γ.s.setVm vm0).vm := State.Warmed39.trans hZ0 hS.1
  have hown : (Γ.s.setVm vm0).vm.findClass own = some Γ.m.cls := by rw [show (Γ.s.setVm vm0).vm = vm0 from rfl, hS.1.alike.findClass]; exact hown0
  by_cases q : x = y
  · exact Go.of (fun t k => acmp (g := mkF Γ.m pc Ls (y :: x :: st)) X hx rfl h1 h2 (pc0 := pc) (same := true) rfl (hb hby hd) rfl (decide_eq_true q) ho rfl k) (K q)
  · exact Go.of (fun t k => acmp (g := mkF Γ.m pc Ls (y :: x :: st)) X hx rfl h1 h2 (pc0 := pc) (same := false) rfl (hb hby hd) rfl (decide_eq_false q) ho rfl k) (K' q)
theorem k_acmp_ne {o : Int} {x y : Value} {pc'' : Nat} (G : Ctx Γ Z own bytes maxl ret nm rm hs0) (X : W Γ n0 T h C S) (hd : decode bytes pc = .ok (.if_acmp .ne o, 3)) (hp : ((pc : Int) + o).toNat = pc') (ho : 0 ≤ (pc : Int) + o) (hp' : pc + 3 = pc'') (h1 : x.isRef = true) (h2 : y.isRef = true) (K : x ≠ y → Go Γ n0 Q T (mkF Γ.m pc' Ls st)) (K' : x = y → Go Γ n0 Q T (mkF Γ.m pc'' Ls st)) : Go Γ n0 Q T (mkF Γ.m pc Ls (y :: x :: st)) := by
  subst hp hp'
  obtain ⟨hx, hZ0, hown0, hby, hml, hret, hnm, hlk, hR, hsH⟩ := G
  obtain ⟨L, vm0, k0, X, e, N, hS, hk⟩ := X
  have hZ : Z.Warmed39 (Γ.s.setVm vm0).vm := State.Warmed39.trans hZ0 hS.1
  have hown : (Γ.s.setVm vm0).vm.findClass own = some Γ.m.cls := by rw [show (Γ.s.setVm vm0).vm = vm0 from rfl, hS.1.alike.findClass]; exact hown0
  by_cases q : x = y
  · exact Go.of (fun t k => acmp (g := mkF Γ.m pc Ls (y :: x :: st)) X hx rfl h1 h2 (pc0 := pc) (same := true) rfl (hb hby hd) rfl (decide_eq_true q) ho rfl k) (K' q)
  · exact Go.of (fun t k => acmp (g := mkF Γ.m pc Ls (y :: x :: st)) X hx rfl h1 h2 (pc0 := pc) (same := false) rfl (hb hby hd) rfl (decide_eq_false q) ho rfl k) (K q)
theorem k_ifnull {o : Int} {x : Value} {pc'' : Nat} (G : Ctx Γ Z own bytes maxl ret nm rm hs0) (X : W Γ n0 T h C S) (hd : decode bytes pc = .ok (.ifnull o, 3)) (hp : ((pc : Int) + o).toNat = pc') (ho : 0 ≤ (pc : Int) + o) (hp' : pc + 3 = pc'') (h1 : x.isRef = true) (K : x = .null → Go Γ n0 Q T (mkF Γ.m pc' Ls st)) (K' : ∀ a, x = .ref a → Go Γ n0 Q T (mkF Γ.m pc'' Ls st)) : Go Γ n0 Q T (mkF Γ.m pc Ls (x :: st)) := by
  subst hp'
  obtain ⟨hx, hZ0, hown0, hby, hml, hret, hnm, hlk, hR, hsH⟩ := G
  obtain ⟨L, vm0, k0, X, e, N, hS, hk⟩ := X
  have hZ : Z.Warmed39 (Γ.s.setVm vm0).vm := State.Warmed39.trans hZ0 hS.1
  have hown : (Γ.s.setVm vm0).vm.findClass own = some Γ.m.cls := by rw [show (Γ.s.setVm vm0).vm = vm0 from rfl, hS.1.alike.findClass]; exact hown0
  rcases ref_cases h1 with rfl | ⟨a, rfl⟩
  · exact Go.of (fun t k => XS.ifnullYes X.here hx rfl (pc0 := pc) rfl (hb hby hd) rfl ho hp k) (K rfl)
  · exact Go.of (fun t k => XS.ifnullNo X.here hx rfl (hb hby hd) rfl k) (K' a rfl)
theorem k_ifnonnull {o : Int} {x : Value} {pc'' : Nat} (G : Ctx Γ Z own bytes maxl ret nm rm hs0) (X : W Γ n0 T h C S) (hd : decode bytes pc = .ok (.ifnonnull o, 3)) (hp : ((pc : Int) + o).toNat = pc') (ho : 0 ≤ (pc : Int) + o) (hp' : pc + 3 = pc'') (h1 : x.isRef = true) (K : ∀ a, x = .ref a → Go Γ n0 Q T (mkF Γ.m pc' Ls st)) (K' : x = .null → Go Γ n0 Q T (mkF Γ.m pc'' Ls st)) : Go Γ n0 Q T (mkF Γ.m pc Ls (x :: st)) := by
  subst hp'
  obtain ⟨hx, hZ0, hown0, hby, hml, hret, hnm, hlk, hR, hsH⟩ := G
  obtain ⟨L, vm0, k0, X, e, N, hS, hk⟩ := X
  have hZ : Z.Warmed39 (Γ.s.setVm vm0).vm := State.Warmed39.trans hZ0 hS.1
  have hown : (Γ.s.setVm vm0).vm.findClass own = some Γ.m.cls := by rw [show (Γ.s.setVm vm0).vm = vm0 from rfl, hS.1.alike.findClass]; exact hown0
  rcases ref_cases h1 with rfl | ⟨a, rfl⟩
  · exact Go.of (fun t k => XS.ifnonnullNo X.here hx rfl (hb hby hd) rfl k) (K' rfl)
  · exact Go.of (fun t k => XS.ifnonnullYes X.here hx rfl (pc0 := pc) rfl (hb hby hd) rfl ho hp k) (K a rfl)
theorem k_lswHit {k : Int32} {dflt : Int} {pairs : Array (Int × Int)} {len : Nat} {a off : Int} (G : Ctx Γ Z own bytes maxl ret nm rm hs0) (X : W Γ n0 T h C S) (hd : decode bytes pc = .ok (.lookupswitch dflt pairs, len)) (hs : (pairs.toList.zip (pairs.toList.drop 1)).all (fun (a, next) => a.1 < next.1) = true) (hf : pairs.find? (·.1 == k.toInt) = some (a, off)) (ho : 0 ≤ (pc : Int) + off) (hp : ((pc : Int) + off).toNat = pc') (K : Go Γ n0 Q T (mkF Γ.m pc' Ls st)) : Go Γ n0 Q T (mkF Γ.m pc Ls (.int k :: st)) := by
  subst hp
  obtain ⟨hx, hZ0, hown0, hby, hml, hret, hnm, hlk, hR, hsH⟩ := G
  obtain ⟨L, vm0, k0, X, e, N, hS, hk⟩ := X
  have hZ : Z.Warmed39 (Γ.s.setVm vm0).vm := State.Warmed39.trans hZ0 hS.1
  have hown : (Γ.s.setVm vm0).vm.findClass own = some Γ.m.cls := by rw [show (Γ.s.setVm vm0).vm = vm0 from rfl, hS.1.alike.findClass]; exact hown0
  exact Go.of (fun t k' => X.lookupswitchHit hx (g := mkF Γ.m pc Ls (.int k :: st)) rfl rfl (hb hby hd) hs hf ho t k') K
theorem k_lswMiss {k : Int32} {dflt : Int} {pairs : Array (Int × Int)} {len : Nat} (G : Ctx Γ Z own bytes maxl ret nm rm hs0) (X : W Γ n0 T h C S) (hd : decode bytes pc = .ok (.lookupswitch dflt pairs, len)) (hs : (pairs.toList.zip (pairs.toList.drop 1)).all (fun (a, next) => a.1 < next.1) = true) (hf : pairs.find? (·.1 == k.toInt) = none) (ho : 0 ≤ (pc : Int) + dflt) (hp : ((pc : Int) + dflt).toNat = pc') (K : Go Γ n0 Q T (mkF Γ.m pc' Ls st)) : Go Γ n0 Q T (mkF Γ.m pc Ls (.int k :: st)) := by
  subst hp
  obtain ⟨hx, hZ0, hown0, hby, hml, hret, hnm, hlk, hR, hsH⟩ := G
  obtain ⟨L, vm0, k0, X, e, N, hS, hk⟩ := X
  have hZ : Z.Warmed39 (Γ.s.setVm vm0).vm := State.Warmed39.trans hZ0 hS.1
  have hown : (Γ.s.setVm vm0).vm.findClass own = some Γ.m.cls := by rw [show (Γ.s.setVm vm0).vm = vm0 from rfl, hS.1.alike.findClass]; exact hown0
  exact Go.of (fun t k' => X.lookupswitchMiss hx (g := mkF Γ.m pc Ls (.int k :: st)) rfl rfl (hb hby hd) hs hf ho t k') K
theorem k_tswIn {k : Int32} {dflt low high : Int} {offs : Array Int} {len : Nat} {off : Int} (G : Ctx Γ Z own bytes maxl ret nm rm hs0) (X : W Γ n0 T h C S) (hd : decode bytes pc = .ok (.tableswitch dflt low high offs, len)) (hin : low ≤ k.toInt ∧ k.toInt ≤ high) (hf : offs[(k.toInt - low).toNat]? = some off) (ho : 0 ≤ (pc : Int) + off) (hp : ((pc : Int) + off).toNat = pc') (K : Go Γ n0 Q T (mkF Γ.m pc' Ls st)) : Go Γ n0 Q T (mkF Γ.m pc Ls (.int k :: st)) := by
  subst hp
  obtain ⟨hx, hZ0, hown0, hby, hml, hret, hnm, hlk, hR, hsH⟩ := G
  obtain ⟨L, vm0, k0, X, e, N, hS, hk⟩ := X
  have hZ : Z.Warmed39 (Γ.s.setVm vm0).vm := State.Warmed39.trans hZ0 hS.1
  have hown : (Γ.s.setVm vm0).vm.findClass own = some Γ.m.cls := by rw [show (Γ.s.setVm vm0).vm = vm0 from rfl, hS.1.alike.findClass]; exact hown0
  exact Go.of (fun t k' => X.tableswitchIn hx (g := mkF Γ.m pc Ls (.int k :: st)) rfl rfl (hb hby hd) (by omega) hf ho t k') K
theorem k_tswOut {k : Int32} {dflt low high : Int} {offs : Array Int} {len : Nat} (G : Ctx Γ Z own bytes maxl ret nm rm hs0) (X : W Γ n0 T h C S) (hd : decode bytes pc = .ok (.tableswitch dflt low high offs, len)) (hout : k.toInt < low ∨ high < k.toInt) (ho : 0 ≤ (pc : Int) + dflt) (hp : ((pc : Int) + dflt).toNat = pc') (K : Go Γ n0 Q T (mkF Γ.m pc' Ls st)) : Go Γ n0 Q T (mkF Γ.m pc Ls (.int k :: st)) := by
  subst hp
  obtain ⟨hx, hZ0, hown0, hby, hml, hret, hnm, hlk, hR, hsH⟩ := G
  obtain ⟨L, vm0, k0, X, e, N, hS, hk⟩ := X
  have hZ : Z.Warmed39 (Γ.s.setVm vm0).vm := State.Warmed39.trans hZ0 hS.1
  have hown : (Γ.s.setVm vm0).vm.findClass own = some Γ.m.cls := by rw [show (Γ.s.setVm vm0).vm = vm0 from rfl, hS.1.alike.findClass]; exact hown0
  exact Go.of (fun t k' => X.tableswitchOut hx (g := mkF Γ.m pc Ls (.int k :: st)) rfl rfl (hb hby hd) hout ho t k') K
theorem k_ldcI {a0 : Array Value} {idx : Nat} {v : Int32} (G : Ctx Γ Z own bytes maxl ret nm rm hs0) (X : W Γ n0 T h C S) (w : (Cond.constant own idx v).before a0 Z = true) (hd : decode bytes pc = .ok (.ldc idx, 2)) (hp : pc + 2 = pc') (K : Go Γ n0 Q T (mkF Γ.m pc' Ls (.int v :: st))) : Go Γ n0 Q T (mkF Γ.m pc Ls st) := by
  subst hp
  obtain ⟨hx, hZ0, hown0, hby, hml, hret, hnm, hlk, hR, hsH⟩ := G
  obtain ⟨L, vm0, k0, X, e, N, hS, hk⟩ := X
  have hZ : Z.Warmed39 (Γ.s.setVm vm0).vm := State.Warmed39.trans hZ0 hS.1
  have hown : (Γ.s.setVm vm0).vm.findClass own = some Γ.m.cls := by rw [show (Γ.s.setVm vm0).vm = vm0 from rfl, hS.1.alike.findClass]; exact hown0
  exact Go.of (fun t k => X.ldcInt hx hown (mvT hZ w) (g := mkF Γ.m pc Ls st) rfl (hb hby hd) t k) K
theorem k_ldcwI {a0 : Array Value} {idx : Nat} {v : Int32} (G : Ctx Γ Z own bytes maxl ret nm rm hs0) (X : W Γ n0 T h C S) (w : (Cond.constant own idx v).before a0 Z = true) (hd : decode bytes pc = .ok (.ldc_w idx, 3)) (hp : pc + 3 = pc') (K : Go Γ n0 Q T (mkF Γ.m pc' Ls (.int v :: st))) : Go Γ n0 Q T (mkF Γ.m pc Ls st) := by
  subst hp
  obtain ⟨hx, hZ0, hown0, hby, hml, hret, hnm, hlk, hR, hsH⟩ := G
  obtain ⟨L, vm0, k0, X, e, N, hS, hk⟩ := X
  have hZ : Z.Warmed39 (Γ.s.setVm vm0).vm := State.Warmed39.trans hZ0 hS.1
  have hown : (Γ.s.setVm vm0).vm.findClass own = some Γ.m.cls := by rw [show (Γ.s.setVm vm0).vm = vm0 from rfl, hS.1.alike.findClass]; exact hown0
  exact Go.of (fun t k => X.ldcwInt hx hown (mvT hZ w) (g := mkF Γ.m pc Ls st) rfl (hb hby hd) t k) K
theorem k_ldcL {a0 : Array Value} {idx : Nat} {v : Int64} (G : Ctx Γ Z own bytes maxl ret nm rm hs0) (X : W Γ n0 T h C S) (w : (Cond.constantLong own idx v).before a0 Z = true) (hd : decode bytes pc = .ok (.ldc2_w idx, 3)) (hp : pc + 3 = pc') (K : Go Γ n0 Q T (mkF Γ.m pc' Ls (.long v :: st))) : Go Γ n0 Q T (mkF Γ.m pc Ls st) := by
  subst hp
  obtain ⟨hx, hZ0, hown0, hby, hml, hret, hnm, hlk, hR, hsH⟩ := G
  obtain ⟨L, vm0, k0, X, e, N, hS, hk⟩ := X
  have hZ : Z.Warmed39 (Γ.s.setVm vm0).vm := State.Warmed39.trans hZ0 hS.1
  have hown : (Γ.s.setVm vm0).vm.findClass own = some Γ.m.cls := by rw [show (Γ.s.setVm vm0).vm = vm0 from rfl, hS.1.alike.findClass]; exact hown0
  exact Go.of (fun t k => X.ldc2Long hx hown (mvT hZ w) (g := mkF Γ.m pc Ls st) rfl (hb hby hd) t k) K
theorem k_getS {a0 : Array Value} {idx : Nat} {R0 O n d host : String} {v : Value} (G : Ctx Γ Z own bytes maxl ret nm rm hs0) (X : W Γ n0 T h C S) (w : (Cond.fieldLink own idx R0 n d).before a0 Z = true ∨ (Cond.fieldLinkNest own idx R0 n d host).before a0 Z = true) (via : Via Z R0 O n d) (F : Sta Z h O n d v) (hd : decode bytes pc = .ok (.getstatic idx, 3)) (hp : pc + 3 = pc') (K : ∀ T, W Γ n0 T h C S → Go Γ n0 Q T (mkF Γ.m pc' Ls (v :: st))) : Go Γ n0 Q T (mkF Γ.m pc Ls st) := by
  subst hp
  obtain ⟨hx, hZ0, hown0, hby, hml, hret, hnm, hlk, hR, hsH⟩ := G
  obtain ⟨L, vm0, k0, X, e, N, hS, hk⟩ := X
  have hZ : Z.Warmed39 (Γ.s.setVm vm0).vm := State.Warmed39.trans hZ0 hS.1
  have hown : (Γ.s.setVm vm0).vm.findClass own = some Γ.m.cls := by rw [show (Γ.s.setVm vm0).vm = vm0 from rfl, hS.1.alike.findClass]; exact hown0
  obtain ⟨T', X', e', st'⟩ := getS2 X hx hZ hown w via e F (g := mkF Γ.m pc Ls st) rfl (hb hby hd)
  exact Go.of st' (K T' ⟨L, vm0, k0, X', e', N, hS, hk⟩)
theorem k_getF {a0 : Array Value} {idx : Nat} {R0 O n d host : String} {v : Value} {a : Addr} (G : Ctx Γ Z own bytes maxl ret nm rm hs0) (X : W Γ n0 T h C S) (w : (Cond.fieldLink own idx R0 n d).before a0 Z = true ∨ (Cond.fieldLinkNest own idx R0 n d host).before a0 Z = true) (via : Via Z R0 O n d) (F : Fld Z h a O n d v) (hd : decode bytes pc = .ok (.getfield idx, 3)) (hp : pc + 3 = pc') (K : ∀ T, W Γ n0 T h C S → Go Γ n0 Q T (mkF Γ.m pc' Ls (v :: st))) : Go Γ n0 Q T (mkF Γ.m pc Ls (.ref a :: st)) := by
  subst hp
  obtain ⟨hx, hZ0, hown0, hby, hml, hret, hnm, hlk, hR, hsH⟩ := G
  obtain ⟨L, vm0, k0, X, e, N, hS, hk⟩ := X
  have hZ : Z.Warmed39 (Γ.s.setVm vm0).vm := State.Warmed39.trans hZ0 hS.1
  have hown : (Γ.s.setVm vm0).vm.findClass own = some Γ.m.cls := by rw [show (Γ.s.setVm vm0).vm = vm0 from rfl, hS.1.alike.findClass]; exact hown0
  obtain ⟨T', X', e', st'⟩ := getF X hx hZ hown w via e F (g := mkF Γ.m pc Ls (.ref a :: st)) rfl rfl (hb hby hd)
  exact Go.of st' (K T' ⟨L, vm0, k0, X', e', N, hS, hk⟩)
theorem k_putF {a0 : Array Value} {idx kk : Nat} {R0 O n d host CC : String} {v old : Value} {ty : FieldType} {a : Addr} (G : Ctx Γ Z own bytes maxl ret nm rm hs0) (X : W Γ n0 T h C S) (w : (Cond.fieldLink own idx R0 n d).before a0 Z = true ∨ (Cond.fieldLinkNest own idx R0 n d host).before a0 Z = true) (via : Via Z R0 O n d) (F : Fld Z h a O n d old) (E : Exa Z h a CC) (lay : (Cond.lays CC O n d).before a0 Z = true ∨ ((Cond.laysFinal CC O n d).before a0 Z = true ∧ own = O ∧ nm = "<init>")) (wi : (Cond.instantiable CC kk).before a0 Z = true) (ht : parseFieldDescriptor d = some ty) (hn : narrow ty v = v) (hf : fits ty v = true) (ga : n0 ≤ a) (hd : decode bytes pc = .ok (.putfield idx, 3)) (hp : pc + 3 = pc') (K : ∀ T h', Wr h h' a (Jvm.RoadKit.slotOf Z O n d) v → W Γ n0 T h' C S → Go Γ n0 Q T (mkF Γ.m pc' Ls st)) : Go Γ n0 Q T (mkF Γ.m pc Ls (v :: .ref a :: st)) := by
  subst hp
  obtain ⟨hx, hZ0, hown0, hby, hml, hret, hnm, hlk, hR, hsH⟩ := G
  obtain ⟨L, vm0, k0, X, e, N, hS, hk⟩ := X
  have hZ : Z.Warmed39 (Γ.s.setVm vm0).vm := State.Warmed39.trans hZ0 hS.1
  have hown : (Γ.s.setVm vm0).vm.findClass own = some Γ.m.cls := by rw [show (Γ.s.setVm vm0).vm = vm0 from rfl, hS.1.alike.findClass]; exact hown0
  obtain ⟨T', h', X', e', W', st'⟩ := putF X hx hZ hown w via e F E (by rw [hnm]; exact lay) wi ht hn hf (g := mkF Γ.m pc Ls (v :: .ref a :: st)) rfl rfl (hb hby hd)
  exact Go.of st' (K T' h' W' ⟨_, vm0, k0, X', e', Fr.snoc X' N ga, hS, (by rw [W'.size]; exact hk)⟩)
theorem k_putFN {a0 : Array Value} {idx kk : Nat} {R0 O n d CC : String} {v v' old : Value} {ty : FieldType} {a : Addr} (G : Ctx Γ Z own bytes maxl ret nm rm hs0) (X : W Γ n0 T h C S) (w : (Cond.fieldLink own idx R0 n d).before a0 Z = true) (via : Via Z R0 O n d) (F : Fld Z h a O n d old) (E : Exa Z h a CC) (lay : (Cond.lays CC O n d).before a0 Z = true ∨ ((Cond.laysFinal CC O n d).before a0 Z = true ∧ own = O ∧ nm = "<init>")) (wi : (Cond.instantiable CC kk).before a0 Z = true) (ht : parseFieldDescriptor d = some ty) (hn : narrow ty v = v') (hf : fits ty v' = true) (ga : n0 ≤ a) (hd : decode bytes pc = .ok (.putfield idx, 3)) (hp : pc + 3 = pc') (K : ∀ T h', Wr h h' a (Jvm.RoadKit.slotOf Z O n d) v' → W Γ n0 T h' C S → Go Γ n0 Q T (mkF Γ.m pc' Ls st)) : Go Γ n0 Q T (mkF Γ.m pc Ls (v :: .ref a :: st)) := by
  subst hp
  obtain ⟨hx, hZ0, hown0, hby, hml, hret, hnm, hlk, hR, hsH⟩ := G
  obtain ⟨L, vm0, k0, X, e, N, hS, hk⟩ := X
  have hZ : Z.Warmed39 (Γ.s.setVm vm0).vm := State.Warmed39.trans hZ0 hS.1
  have hown : (Γ.s.setVm vm0).vm.findClass own = some Γ.m.cls := by rw [show (Γ.s.setVm vm0).vm = vm0 from rfl, hS.1.alike.findClass]; exact hown0
  obtain ⟨T', h', X', e', W', st'⟩ := putFN X hx hZ hown w via e F E (by rw [hnm]; exact lay) wi ht hn hf (g := mkF Γ.m pc Ls (v :: .ref a :: st)) rfl rfl (hb hby hd)
  exact Go.of st' (K T' h' W' ⟨_, vm0, k0, X', e', Fr.snoc X' N ga, hS, (by rw [W'.size]; exact hk)⟩)
theorem k_new {a0 : Array Value} {idx k : Nat} {CC : String} (G : Ctx Γ Z own bytes maxl ret nm rm hs0) (X : W Γ n0 T h C S) (w : (Cond.classLink own idx CC).before a0 Z = true) (wi : (Cond.instantiable CC k).before a0 Z = true) (wz : (Cond.initialized CC).before a0 Z = true) (hd : decode bytes pc = .ok (.new idx, 3)) (hp : pc + 3 = pc') (hc : C + 1 ≤ rm.cells) (hs : S + k ≤ rm.slots)
    (K : ∀ T h' a, h.size = a → Ext h h' → Exa Z h' a CC → (∀ {O nm d : String} {ty : FieldType}, Laid Z a0 CC O nm d → parseFieldDescriptor d = some ty → Fld Z h' a O nm d (defaultValue ty)) → W Γ n0 T h' (C + 1) (S + k) → Go Γ n0 Q T (mkF Γ.m pc' Ls (.ref a :: st))) : Go Γ n0 Q T (mkF Γ.m pc Ls st) := by
  subst hp
  obtain ⟨hx, hZ0, hown0, hby, hml, hret, hnm, hlk, hR, hsH⟩ := G
  obtain ⟨L, vm0, k0, X, e, N, hS, hk⟩ := X
  have hZ : Z.Warmed39 (Γ.s.setVm vm0).vm := State.Warmed39.trans hZ0 hS.1
  have hown : (Γ.s.setVm vm0).vm.findClass own = some Γ.m.cls := by rw [show (Γ.s.setVm vm0).vm = vm0 from rfl, hS.1.alike.findClass]; exact hown0
  obtain ⟨T', h', X', e', E', A', D', -, st'⟩ := newO X hx hZ hown w wi wz e (g := mkF Γ.m pc Ls st) rfl (hb hby hd) (hR ▸ hc) (hR ▸ hs)
  exact Go.of st' (K T' h' _ rfl E' A' D' ⟨L, vm0, k0, X', e', N, hS, (Nat.le_trans hk E'.1)⟩)
theorem k_initO {a0 : Array Value} {idx : Nat} {a : Addr} {wd : Nat} (G : Ctx Γ Z own bytes maxl ret nm rm hs0) (X : W Γ n0 T h C S) (w1 : (Cond.methodLink own idx Lib.objectInit).before a0 Z = true) (w2 : (Cond.instanceMethod Lib.objectInit).before a0 Z = true) (w3 : (Cond.code Lib.objectInit ⟨#[0xb1]⟩ 1 none).before a0 Z = true) (hd : decode bytes pc = .ok (.invokespecial idx, 3)) (hp : pc + 3 = pc') (hL : Ls.size = maxl) (hf : 1 ≤ rm.frames) (hwd : (st.map fun v => v.category).sum = wd) (hl : wd + 12 ≤ rm.locals) (K : ∀ T, W Γ n0 T h C S → Go Γ n0 Q T (mkF Γ.m pc' Ls st)) : Go Γ n0 Q T (mkF Γ.m pc Ls (.ref a :: st)) := by
  subst hp
  obtain ⟨hx, hZ0, hown0, hby, hml, hret, hnm, hlk, hR, hsH⟩ := G
  obtain ⟨L, vm0, k0, X, e, N, hS, hk⟩ := X
  have hZ : Z.Warmed39 (Γ.s.setVm vm0).vm := State.Warmed39.trans hZ0 hS.1
  have hown : (Γ.s.setVm vm0).vm.findClass own = some Γ.m.cls := by rw [show (Γ.s.setVm vm0).vm = vm0 from rfl, hS.1.alike.findClass]; exact hown0
  obtain ⟨T', X', e', st'⟩ := initO X hx hZ hown w1 w2 w3 e (g := mkF Γ.m pc Ls (.ref a :: st)) rfl (by rw [hml]; exact hL) rfl (hb hby hd) (hR ▸ hf) (W := wd) (by show 2 * 0 + _ ≤ _; omega) (hR ▸ hl)
  exact Go.of st' (K T' ⟨L, vm0, k0, X', e', N, hS, hk⟩)
theorem k_castY {a0 : Array Value} {idx : Nat} {KK : String} {a : Addr} (G : Ctx Γ Z own bytes maxl ret nm rm hs0) (X : W Γ n0 T h C S) (w : (Cond.classLink own idx KK).before a0 Z = true) (F : Ins Z h a KK true) (hd : decode bytes pc = .ok (.checkcast idx, 3)) (hp : pc + 3 = pc') (K : ∀ T, W Γ n0 T h C S → Go Γ n0 Q T (mkF Γ.m pc' Ls (.ref a :: st))) : Go Γ n0 Q T (mkF Γ.m pc Ls (.ref a :: st)) := by
  subst hp
  obtain ⟨hx, hZ0, hown0, hby, hml, hret, hnm, hlk, hR, hsH⟩ := G
  obtain ⟨L, vm0, k0, X, e, N, hS, hk⟩ := X
  have hZ : Z.Warmed39 (Γ.s.setVm vm0).vm := State.Warmed39.trans hZ0 hS.1
  have hown : (Γ.s.setVm vm0).vm.findClass own = some Γ.m.cls := by rw [show (Γ.s.setVm vm0).vm = vm0 from rfl, hS.1.alike.findClass]; exact hown0
  obtain ⟨T', X', e', st'⟩ := castY X hx hZ hown w e F (g := mkF Γ.m pc Ls (.ref a :: st)) rfl rfl (hb hby hd)
  exact Go.of st' (K T' ⟨L, vm0, k0, X', e', N, hS, hk⟩)
theorem k_instY {a0 : Array Value} {idx : Nat} {KK : String} {a : Addr} (G : Ctx Γ Z own bytes maxl ret nm rm hs0) (X : W Γ n0 T h C S) (w : (Cond.classLink own idx KK).before a0 Z = true) (F : Ins Z h a KK true) (hd : decode bytes pc = .ok (.instanceof idx, 3)) (hp : pc + 3 = pc') (K : ∀ T, W Γ n0 T h C S → Go Γ n0 Q T (mkF Γ.m pc' Ls (.int 1 :: st))) : Go Γ n0 Q T (mkF Γ.m pc Ls (.ref a :: st)) := by
  subst hp
  obtain ⟨hx, hZ0, hown0, hby, hml, hret, hnm, hlk, hR, hsH⟩ := G
  obtain ⟨L, vm0, k0, X, e, N, hS, hk⟩ := X
  have hZ : Z.Warmed39 (Γ.s.setVm vm0).vm := State.Warmed39.trans hZ0 hS.1
  have hown : (Γ.s.setVm vm0).vm.findClass own = some Γ.m.cls := by rw [show (Γ.s.setVm vm0).vm = vm0 from rfl, hS.1.alike.findClass]; exact hown0
  obtain ⟨T', X', e', st'⟩ := instY X hx hZ hown w e F (g := mkF Γ.m pc Ls (.ref a :: st)) rfl rfl (hb hby hd)
  exact Go.of st' (K T' ⟨L, vm0, k0, X', e', N, hS, hk⟩)
theorem k_callS {a0 : Array Value} {idx : Nat} {y : MethodName} {by' : ByteArray} {maxL' : Nat} {ret' : Option FieldType} {rm' : Room} {ps : List FieldType} {rt : Option FieldType} {wd : Nat} {QY : Option Value → Heap → Prop} {argsL rest : List Value} (G : Ctx Γ Z own bytes maxl ret nm rm hs0) (X : W Γ n0 T h C S) (hst : st = argsL.reverse ++ rest) (w1 : (Cond.methodLink own idx y).before a0 Z = true) (w2 : (Cond.static y).before a0 Z = true) (wz : (Cond.initialized y.cls).before a0 Z = true) (wc : (Cond.code y by' maxL' ret').before a0 Z = true) (hy : y.cls ≠ "java/lang/invoke/MethodHandle" ∧ y.cls ≠ "java/lang/invoke/VarHandle") (M : Met Z y by' maxL' ret' rm' argsL.toArray h n0 QY) (hd : decode bytes pc = .ok (.invokestatic idx, 3)) (pd : parseMethodDescriptor y.desc = some ⟨ps, rt⟩) (hn : argsL.length = ps.length) (hp : pc + 3 = pc') (hL : Ls.size = maxl) (hwd : (rest.map fun v => v.category).sum = wd) (hf : rm'.frames + 1 ≤ rm.frames) (hlo : wd + (maxL' + 11) + rm'.locals ≤ rm.locals) (hc : C + rm'.cells ≤ rm.cells) (hs : S + rm'.slots ≤ rm.slots) (K : ∀ T h' v, W Γ n0 T h' (C + rm'.cells) (S + rm'.slots) → QY v h' → Go Γ n0 Q T (mkF Γ.m pc' Ls (v.toList ++ rest))) : Go Γ n0 Q T (mkF Γ.m pc Ls st) := by
  subst hp hst
  obtain ⟨hx, hZ0, hown0, hby, hml, hret, hnm, hlk, hR, hsH⟩ := G
  obtain ⟨L, vm0, k0, X, e, N, hS, hk⟩ := X
  have hZ : Z.Warmed39 (Γ.s.setVm vm0).vm := State.Warmed39.trans hZ0 hS.1
  have hown : (Γ.s.setVm vm0).vm.findClass own = some Γ.m.cls := by rw [show (Γ.s.setVm vm0).vm = vm0 from rfl, hS.1.alike.findClass]; exact hown0
  obtain ⟨v1, _, ⟨T1, L1, k1, n1⟩, -, X1, hS1, hg1, ⟨Lc1, q1, l1, y1, z1⟩, s1⟩ := callSS X hx hown (mvT hZ w1) (mvT hZ w2) (mvT hZ wz) (mvT hZ wc) hy (backOfS (W := wd) (Q := fun v h L => QY v h ∧ Fr n0 L) (M Γ.l) hZ wc wz (hR ▸ hf) (hR ▸ hlo)) (g := mkF Γ.m pc Ls (argsL.reverse ++ rest)) rfl (by rw [hml]; exact hL) (argsL := argsL) (rest := rest) (lenOf pd hn) rfl (by show 2 * 0 + _ ≤ _; omega) (hb hby hd) (fun _ _ => ⟨rfl, e, hR ▸ hc, hR ▸ hs⟩)
  dsimp only [Pt.U, Pt.locs, Pt.cells, Pt.slots] at X1 hS1 hg1 l1 y1 z1 s1 q1
  subst l1 y1 z1
  exact Go.of (fun t k => s1.trans k) (K T1 _ v1 ⟨_, _, _, X1, rfl, Fr.app N q1.2, foldS hS (by rw [e]; exact hk) hS1 hg1, Nat.le_refl _⟩ q1.1)
theorem k_callI {a0 : Array Value} {idx : Nat} {y : MethodName} {by' : ByteArray} {maxL' : Nat} {rm' : Room} {ps : List FieldType} {rt : Option FieldType} {wd : Nat} {QY : Option Value → Heap → Prop} {argsL rest : List Value} {a : Addr} (G : Ctx Γ Z own bytes maxl ret nm rm hs0) (X : W Γ n0 T h C S) (hst : st = argsL.reverse ++ .ref a :: rest) (hy1 : y.name = "<init>") (w1 : (Cond.methodLink own idx y).before a0 Z = true) (w2 : (Cond.instanceMethod y).before a0 Z = true) (wz : (Cond.initialized y.cls).before a0 Z = true) (wc : (Cond.code y by' maxL' none).before a0 Z = true) (hy : y.cls ≠ "java/lang/invoke/MethodHandle" ∧ y.cls ≠ "java/lang/invoke/VarHandle") (M : Met Z y by' maxL' none rm' (.ref a :: argsL).toArray h n0 QY) (hd : decode bytes pc = .ok (.invokespecial idx, 3)) (pd : parseMethodDescriptor y.desc = some ⟨ps, rt⟩) (hn : argsL.length = ps.length) (hp : pc + 3 = pc') (hL : Ls.size = maxl) (hwd : (rest.map fun v => v.category).sum = wd) (hf : rm'.frames + 1 ≤ rm.frames) (hlo : wd + (maxL' + 11) + rm'.locals ≤ rm.locals) (hc : C + rm'.cells ≤ rm.cells) (hs : S + rm'.slots ≤ rm.slots) (K : ∀ T h' v, W Γ n0 T h' (C + rm'.cells) (S + rm'.slots) → QY v h' → Go Γ n0 Q T (mkF Γ.m pc' Ls (v.toList ++ rest))) : Go Γ n0 Q T (mkF Γ.m pc Ls st) := by
  subst hp hst
  obtain ⟨hx, hZ0, hown0, hby, hml, hret, hnm, hlk, hR, hsH⟩ := G
  obtain ⟨L, vm0, k0, X, e, N, hS, hk⟩ := X
  have hZ : Z.Warmed39 (Γ.s.setVm vm0).vm := State.Warmed39.trans hZ0 hS.1
  have hown : (Γ.s.setVm vm0).vm.findClass own = some Γ.m.cls := by rw [show (Γ.s.setVm vm0).vm = vm0 from rfl, hS.1.alike.findClass]; exact hown0
  obtain ⟨v1, _, ⟨T1, L1, k1, n1⟩, -, X1, hS1, hg1, ⟨Lc1, q1, l1, y1, z1⟩, s1⟩ := X.specialBackS hx hy1 hown (mvT hZ w1) (mvT hZ w2) (mvT hZ wc) hy (backOfS (W := wd) (Q := fun v h L => QY v h ∧ Fr n0 L) (M Γ.l) hZ wc wz (hR ▸ hf) (hR ▸ hlo)) (g := mkF Γ.m pc Ls (argsL.reverse ++ .ref a :: rest)) rfl (by rw [hml]; exact hL) (Steps.refl _) (a := a) (argsL := argsL) (rest := rest) (lenOf pd hn) rfl (by show 2 * 0 + _ ≤ _; omega) (hb hby hd) (fun _ _ => ⟨rfl, e, hR ▸ hc, hR ▸ hs⟩)
  dsimp only [Pt.U, Pt.locs, Pt.cells, Pt.slots] at X1 hS1 hg1 l1 y1 z1 s1 q1
  subst l1 y1 z1
  exact Go.of (fun t k => s1.trans k) (K T1 _ v1 ⟨_, _, _, X1, rfl, Fr.app N q1.2, foldS hS (by rw [e]; exact hk) hS1 hg1, Nat.le_refl _⟩ q1.1)
theorem k_callV {a0 : Array Value} {idx : Nat} {y : MethodName} {by' : ByteArray} {maxL' : Nat} {ret' : Option FieldType} {rm' : Room} {ps : List FieldType} {rt : Option FieldType} {wd : Nat} {QY : Option Value → Heap → Prop} {argsL rest : List Value} {a : Addr} {CC : String} {z : MethodName} (G : Ctx Γ Z own bytes maxl ret nm rm hs0) (X : W Γ n0 T h C S) (hst : st = argsL.reverse ++ .ref a :: rest) (E : Exa Z h a CC) (w1 : (Cond.methodLink own idx y).before a0 Z = true) (w2 : (Cond.declares y).before a0 Z = true) (nf : ∀ s : State, Z.Warmed39 s.vm → NotFace s y) (w3 : (Cond.selects CC y z).before a0 Z = true) (w4 : (Cond.instanceMethod z).before a0 Z = true) (wz : (Cond.initialized z.cls).before a0 Z = true) (wc : (Cond.code z by' maxL' ret').before a0 Z = true) (hy : y.cls ≠ "java/lang/invoke/MethodHandle" ∧ y.cls ≠ "java/lang/invoke/VarHandle") (M : Met Z z by' maxL' ret' rm' (.ref a :: argsL).toArray h n0 QY) (hd : decode bytes pc = .ok (.invokevirtual idx, 3)) (pd : parseMethodDescriptor y.desc = some ⟨ps, rt⟩) (hn : argsL.length = ps.length) (hp : pc + 3 = pc') (hL : Ls.size = maxl) (hwd : (rest.map fun v => v.category).sum = wd) (hf : rm'.frames + 1 ≤ rm.frames) (hlo : wd + (maxL' + 11) + rm'.locals ≤ rm.locals) (hc : C + rm'.cells ≤ rm.cells) (hs : S + rm'.slots ≤ rm.slots) (K : ∀ T h' v, W Γ n0 T h' (C + rm'.cells) (S + rm'.slots) → QY v h' → Go Γ n0 Q T (mkF Γ.m pc' Ls (v.toList ++ rest))) : Go Γ n0 Q T (mkF Γ.m pc Ls st) := by
  subst hp hst
  obtain ⟨hx, hZ0, hown0, hby, hml, hret, hnm, hlk, hR, hsH⟩ := G
  obtain ⟨L, vm0, k0, X, e, N, hS, hk⟩ := X
  have hZ : Z.Warmed39 (Γ.s.setVm vm0).vm := State.Warmed39.trans hZ0 hS.1
  have hown : (Γ.s.setVm vm0).vm.findClass own = some Γ.m.cls := by rw [show (Γ.s.setVm vm0).vm = vm0 from rfl, hS.1.alike.findClass]; exact hown0
  obtain ⟨cq, kq, qa, qb, qc⟩ := isOf hZ e E
  obtain ⟨v1, _, ⟨T1, L1, k1, n1⟩, -, X1, hS1, hg1, ⟨Lc1, q1, l1, y1, z1⟩, s1⟩ := X.virtualBackS hx hown (mvT hZ w1) (mvT hZ w2) (nf _ hZ) (mvT hZ w3) (mvT hZ w4) hy (backOfS (W := wd) (Q := fun v h L => QY v h ∧ Fr n0 L) (M Γ.l) hZ wc wz (hR ▸ hf) (hR ▸ hlo)) qa qc (g := mkF Γ.m pc Ls (argsL.reverse ++ .ref a :: rest)) rfl (by rw [hml]; exact hL) (Steps.refl _) (argsL := argsL) (rest := rest) (lenOf pd hn) rfl (by show 2 * 0 + _ ≤ _; omega) (hb hby hd) (fun _ _ => ⟨rfl, e, hR ▸ hc, hR ▸ hs⟩)
  dsimp only [Pt.U, Pt.locs, Pt.cells, Pt.slots] at X1 hS1 hg1 l1 y1 z1 s1 q1
  subst l1 y1 z1
  exact Go.of (fun t k => s1.trans k) (K T1 _ v1 ⟨_, _, _, X1, rfl, Fr.app N q1.2, foldS hS (by rw [e]; exact hk) hS1 hg1, Nat.le_refl _⟩ q1.1)
theorem nf_sel {a0 : Array Value} {CC : String} {y : MethodName} (w3 : (Cond.selects CC y y).before a0 Z = true) : ∀ s : State, Z.Warmed39 s.vm → NotFace s y := fun s hZ => notFace_of_selects (args := #[]) (mvT hZ w3)
theorem k_callVU {a0 : Array Value} {idx : Nat} {y : MethodName} {by' : ByteArray} {maxL' : Nat} {ret' : Option FieldType} {rm' : Room} {ps : List FieldType} {rt : Option FieldType} {wd : Nat} {QY : Option Value → Heap → Prop} {argsL rest : List Value} {a : Addr} {CC owner : String} {z : MethodName} (G : Ctx Γ Z own bytes maxl ret nm rm hs0) (X : W Γ n0 T h C S) (hst : st = argsL.reverse ++ .ref a :: rest) (E : Exa Z h a CC) (w1 : (Cond.methodLink own idx y).before a0 Z = true) (ws : (Cond.sameMethod y.cls owner y.name y.desc).before a0 Z = true) (w2 : (Cond.declares ⟨owner, y.name, y.desc⟩).before a0 Z = true) (w3 : (Cond.selects CC y z).before a0 Z = true) (w4 : (Cond.instanceMethod z).before a0 Z = true) (wz : (Cond.initialized z.cls).before a0 Z = true) (wc : (Cond.code z by' maxL' ret').before a0 Z = true) (hy : owner ≠ "java/lang/invoke/MethodHandle" ∧ owner ≠ "java/lang/invoke/VarHandle") (M : Met Z z by' maxL' ret' rm' (.ref a :: argsL).toArray h n0 QY) (hd : decode bytes pc = .ok (.invokevirtual idx, 3)) (pd : parseMethodDescriptor y.desc = some ⟨ps, rt⟩) (hn : argsL.length = ps.length) (hp : pc + 3 = pc') (hL : Ls.size = maxl) (hwd : (rest.map fun v => v.category).sum = wd) (hf : rm'.frames + 1 ≤ rm.frames) (hlo : wd + (maxL' + 11) + rm'.locals ≤ rm.locals) (hc : C + rm'.cells ≤ rm.cells) (hs : S + rm'.slots ≤ rm.slots) (K : ∀ T h' v, W Γ n0 T h' (C + rm'.cells) (S + rm'.slots) → QY v h' → Go Γ n0 Q T (mkF Γ.m pc' Ls (v.toList ++ rest))) : Go Γ n0 Q T (mkF Γ.m pc Ls st) := by
  subst hp hst
  obtain ⟨hx, hZ0, hown0, hby, hml, hret, hnm, hlk, hR, hsH⟩ := G
  obtain ⟨L, vm0, k0, X, e, N, hS, hk⟩ := X
  have hZ : Z.Warmed39 (Γ.s.setVm vm0).vm := State.Warmed39.trans hZ0 hS.1
  have hown : (Γ.s.setVm vm0).vm.findClass own = some Γ.m.cls := by rw [show (Γ.s.setVm vm0).vm = vm0 from rfl, hS.1.alike.findClass]; exact hown0
  obtain ⟨cq, kq, qa, qb, qc⟩ := isOf hZ e E
  obtain ⟨v1, _, ⟨T1, L1, k1, n1⟩, -, X1, hS1, hg1, ⟨Lc1, q1, l1, y1, z1⟩, s1⟩ := X.virtualBackUpS hx hown (mvT hZ w1) (mvT hZ ws) (mvT hZ w2) hy (mvT hZ w3) (mvT hZ w4) (backOfS (W := wd) (Q := fun v h L => QY v h ∧ Fr n0 L) (M Γ.l) hZ wc wz (hR ▸ hf) (hR ▸ hlo)) qa qc (g := mkF Γ.m pc Ls (argsL.reverse ++ .ref a :: rest)) rfl (by rw [hml]; exact hL) (Steps.refl _) (argsL := argsL) (rest := rest) (lenOf pd hn) rfl (by show 2 * 0 + _ ≤ _; omega) (hb hby hd) (fun _ _ => ⟨rfl, e, hR ▸ hc, hR ▸ hs⟩)
  dsimp only [Pt.U, Pt.locs, Pt.cells, Pt.slots] at X1 hS1 hg1 l1 y1 z1 s1 q1
  subst l1 y1 z1
  exact Go.of (fun t k => s1.trans k) (K T1 _ v1 ⟨_, _, _, X1, rfl, Fr.app N q1.2, foldS hS (by rw [e]; exact hk) hS1 hg1, Nat.le_refl _⟩ q1.1)
theorem k_callF {a0 : Array Value} {idx : Nat} {y : MethodName} {by' : ByteArray} {maxL' : Nat} {ret' : Option FieldType} {rm' : Room} {ps : List FieldType} {rt : Option FieldType} {wd : Nat} {QY : Option Value → Heap → Prop} {argsL rest : List Value} {a : Addr} {CC : String} {z : MethodName} {cnt : Nat} (G : Ctx Γ Z own bytes maxl ret nm rm hs0) (X : W Γ n0 T h C S) (hst : st = argsL.reverse ++ .ref a :: rest) (E : Exa Z h a CC) (w1 : (Cond.methodLink own idx y).before a0 Z = true) (w2 : (Cond.declares y).before a0 Z = true) (wf : (Cond.interfaceMethod y.cls y.cls y.name y.desc).before a0 Z = true) (hwf : ((Cond.interfaceMethod y.cls y.cls y.name y.desc).onTables && (Cond.interfaceMethod y.cls y.cls y.name y.desc).keepsFace) = true) (w3 : (Cond.selects CC y z).before a0 Z = true) (w4 : (Cond.instanceMethod z).before a0 Z = true) (wp : (Cond.publicMethod z).before a0 Z = true) (wu : (Cond.unhidden CC y.name y.desc).before a0 Z = true) (wk : (Cond.castable CC y.cls).before a0 Z = true) (wz : (Cond.initialized z.cls).before a0 Z = true) (wc : (Cond.code z by' maxL' ret').before a0 Z = true) (hy : y.cls ≠ "java/lang/invoke/MethodHandle" ∧ y.cls ≠ "java/lang/invoke/VarHandle") (M : Met Z z by' maxL' ret' rm' (.ref a :: argsL).toArray h n0 QY) (hd : decode bytes pc = .ok (.invokeinterface idx cnt, 5)) (pd : parseMethodDescriptor y.desc = some ⟨ps, rt⟩) (hn : argsL.length = ps.length) (hp : pc + 5 = pc') (hL : Ls.size = maxl) (hwd : (rest.map fun v => v.category).sum = wd) (hf : rm'.frames + 1 ≤ rm.frames) (hlo : wd + (maxL' + 11) + rm'.locals ≤ rm.locals) (hc : C + rm'.cells ≤ rm.cells) (hs : S + rm'.slots ≤ rm.slots) (K : ∀ T h' v, W Γ n0 T h' (C + rm'.cells) (S + rm'.slots) → QY v h' → Go Γ n0 Q T (mkF Γ.m pc' Ls (v.toList ++ rest))) : Go Γ n0 Q T (mkF Γ.m pc Ls st) := by
  subst hp hst
  obtain ⟨hx, hZ0, hown0, hby, hml, hret, hnm, hlk, hR, hsH⟩ := G
  obtain ⟨L, vm0, k0, X, e, N, hS, hk⟩ := X
  have hZ : Z.Warmed39 (Γ.s.setVm vm0).vm := State.Warmed39.trans hZ0 hS.1
  have hown : (Γ.s.setVm vm0).vm.findClass own = some Γ.m.cls := by rw [show (Γ.s.setVm vm0).vm = vm0 from rfl, hS.1.alike.findClass]; exact hown0
  obtain ⟨cq, kq, qa, qb, qc⟩ := isOf hZ e E
  obtain ⟨v1, _, ⟨T1, L1, k1, n1⟩, -, X1, hS1, hg1, ⟨Lc1, q1, l1, y1, z1⟩, s1⟩ := X.interfaceBackS hx hown (mvT hZ w1) (mvT hZ w2) (mvT hZ wf hwf) (mvT hZ w3) (mvT hZ w4) (mvT hZ wp) (mvT hZ wu) (mvT hZ wk) hy (backOfS (W := wd) (Q := fun v h L => QY v h ∧ Fr n0 L) (M Γ.l) hZ wc wz (hR ▸ hf) (hR ▸ hlo)) qa qb qc (g := mkF Γ.m pc Ls (argsL.reverse ++ .ref a :: rest)) rfl (by rw [hml]; exact hL) (Steps.refl _) (argsL := argsL) (rest := rest) (lenOf pd hn) rfl (by show 2 * 0 + _ ≤ _; omega) (hb hby hd) (fun _ _ => ⟨rfl, e, hR ▸ hc, hR ▸ hs⟩)
  dsimp only [Pt.U, Pt.locs, Pt.cells, Pt.slots] at X1 hS1 hg1 l1 y1 z1 s1 q1
  subst l1 y1 z1
  exact Go.of (fun t k => s1.trans k) (K T1 _ v1 ⟨_, _, _, X1, rfl, Fr.app N q1.2, foldS hS (by rw [e]; exact hk) hS1 hg1, Nat.le_refl _⟩ q1.1)
theorem k_callP {a0 : Array Value} {idx : Nat} {y : MethodName} {by' : ByteArray} {maxL' : Nat} {ret' : Option FieldType} {rm' : Room} {ps : List FieldType} {rt : Option FieldType} {wd : Nat} {QY : Option Value → Heap → Prop} {argsL rest : List Value} {a : Addr} {CC : String} (G : Ctx Γ Z own bytes maxl ret nm rm hs0) (X : W Γ n0 T h C S) (hst : st = argsL.reverse ++ .ref a :: rest) (E : Exa Z h a CC) (w1 : (Cond.methodLink own idx y).before a0 Z = true) (w2 : (Cond.instanceMethod y).before a0 Z = true) (w3 : (Cond.selects y.cls y y).before a0 Z = true) (wp : (Cond.privateMethod y).before a0 Z = true) (wz : (Cond.initialized y.cls).before a0 Z = true) (wc : (Cond.code y by' maxL' ret').before a0 Z = true) (hy : y.cls ≠ "java/lang/invoke/MethodHandle" ∧ y.cls ≠ "java/lang/invoke/VarHandle") (M : Met Z y by' maxL' ret' rm' (.ref a :: argsL).toArray h n0 QY) (hd : decode bytes pc = .ok (.invokevirtual idx, 3)) (pd : parseMethodDescriptor y.desc = some ⟨ps, rt⟩) (hn : argsL.length = ps.length) (hp : pc + 3 = pc') (hL : Ls.size = maxl) (hwd : (rest.map fun v => v.category).sum = wd) (hf : rm'.frames + 1 ≤ rm.frames) (hlo : wd + (maxL' + 11) + rm'.locals ≤ rm.locals) (hc : C + rm'.cells ≤ rm.cells) (hs : S + rm'.slots ≤ rm.slots) (K : ∀ T h' v, W Γ n0 T h' (C + rm'.cells) (S + rm'.slots) → QY v h' → Go Γ n0 Q T (mkF Γ.m pc' Ls (v.toList ++ rest))) : Go Γ n0 Q T (mkF Γ.m pc Ls st) := by
  subst hp hst
  obtain ⟨hx, hZ0, hown0, hby, hml, hret, hnm, hlk, hR, hsH⟩ := G
  obtain ⟨L, vm0, k0, X, e, N, hS, hk⟩ := X
  have hZ : Z.Warmed39 (Γ.s.setVm vm0).vm := State.Warmed39.trans hZ0 hS.1
  have hown : (Γ.s.setVm vm0).vm.findClass own = some Γ.m.cls := by rw [show (Γ.s.setVm vm0).vm = vm0 from rfl, hS.1.alike.findClass]; exact hown0
  obtain ⟨cq, qa, qb⟩ := E.cell
  obtain ⟨v1, _, ⟨T1, L1, k1, n1⟩, -, X1, hS1, hg1, ⟨Lc1, q1, l1, y1, z1⟩, s1⟩ := X.privateBackS hx hown (mvT hZ w1) (mvT hZ w2) (mvT hZ w3) (Cond.privateMethod_at (mvP hZ wp (args := #[]))) (mvT hZ wc) hy (backOfS (W := wd) (Q := fun v h L => QY v h ∧ Fr n0 L) (M Γ.l) hZ wc wz (hR ▸ hf) (hR ▸ hlo)) (g := mkF Γ.m pc Ls (argsL.reverse ++ .ref a :: rest)) rfl (by rw [hml]; exact hL) (Steps.refl _) (a := a) (by rw [e]; exact qa) qb (argsL := argsL) (rest := rest) (lenOf pd hn) rfl (by show 2 * 0 + _ ≤ _; omega) (hb hby hd) (fun _ _ => ⟨rfl, e, hR ▸ hc, hR ▸ hs⟩)
  dsimp only [Pt.U, Pt.locs, Pt.cells, Pt.slots] at X1 hS1 hg1 l1 y1 z1 s1 q1
  subst l1 y1 z1
  exact Go.of (fun t k => s1.trans k) (K T1 _ v1 ⟨_, _, _, X1, rfl, Fr.app N q1.2, foldS hS (by rw [e]; exact hk) hS1 hg1, Nat.le_refl _⟩ q1.1)
theorem k_callU {a0 : Array Value} {idx : Nat} {y : MethodName} {by' : ByteArray} {maxL' : Nat} {ret' : Option FieldType} {rm' : Room} {ps : List FieldType} {rt : Option FieldType} {wd : Nat} {QY : Option Value → Heap → Prop} {argsL rest : List Value} {a : Addr} {KS : String} (G : Ctx Γ Z own bytes maxl ret nm rm hs0) (X : W Γ n0 T h C S) (hst : st = argsL.reverse ++ .ref a :: rest) (I : Ins Z h a KS true) (w1 : (Cond.methodLink own idx y).before a0 Z = true) (w2 : (Cond.sameMethod y.cls y.cls y.name y.desc).before a0 Z = true) (w3 : (Cond.instanceMethod y).before a0 Z = true) (w4 : (Cond.superclass own y.cls).before a0 Z = true) (hni : y.name ≠ "<init>") (wz : (Cond.initialized y.cls).before a0 Z = true) (wc : (Cond.code y by' maxL' ret').before a0 Z = true) (M : Met Z y by' maxL' ret' rm' (.ref a :: argsL).toArray h n0 QY) (hd : decode bytes pc = .ok (.invokespecial idx, 3)) (pd : parseMethodDescriptor y.desc = some ⟨ps, rt⟩) (hn : argsL.length = ps.length) (hp : pc + 3 = pc') (hL : Ls.size = maxl) (hwd : (rest.map fun v => v.category).sum = wd) (hf : rm'.frames + 1 ≤ rm.frames) (hlo : wd + (maxL' + 11) + rm'.locals ≤ rm.locals) (hc : C + rm'.cells ≤ rm.cells) (hs : S + rm'.slots ≤ rm.slots) (K : ∀ T h' v, W Γ n0 T h' (C + rm'.cells) (S + rm'.slots) → QY v h' → Go Γ n0 Q T (mkF Γ.m pc' Ls (v.toList ++ rest))) : Go Γ n0 Q T (mkF Γ.m pc Ls st) := by
  subst hp hst
  obtain ⟨hx, hZ0, hown0, hby, hml, hret, hnm, hlk, hR, hsH⟩ := G
  obtain ⟨L, vm0, k0, X, e, N, hS, hk⟩ := X
  have hZ : Z.Warmed39 (Γ.s.setVm vm0).vm := State.Warmed39.trans hZ0 hS.1
  have hown : (Γ.s.setVm vm0).vm.findClass own = some Γ.m.cls := by rw [show (Γ.s.setVm vm0).vm = vm0 from rfl, hS.1.alike.findClass]; exact hown0
  obtain ⟨v1, _, ⟨T1, L1, k1, n1⟩, -, X1, hS1, hg1, ⟨Lc1, q1, l1, y1, z1⟩, s1⟩ := superBackS X hx hZ hown w1 w2 w3 w4 hni (backOfS (W := wd) (Q := fun v h L => QY v h ∧ Fr n0 L) (M Γ.l) hZ wc wz (hR ▸ hf) (hR ▸ hlo)) e I (g := mkF Γ.m pc Ls (argsL.reverse ++ .ref a :: rest)) rfl (by rw [hml]; exact hL) wc (argsL := argsL) (rest := rest) (lenOf pd hn) rfl (by show 2 * 0 + _ ≤ _; omega) (hb hby hd) (fun _ _ => ⟨rfl, e, hR ▸ hc, hR ▸ hs⟩)
  dsimp only [Pt.U, Pt.locs, Pt.cells, Pt.slots] at X1 hS1 hg1 l1 y1 z1 s1 q1
  subst l1 y1 z1
  exact Go.of (fun t k => s1.trans k) (K T1 _ v1 ⟨_, _, _, X1, rfl, Fr.app N q1.2, foldS hS (by rw [e]; exact hk) hS1 hg1, Nat.le_refl _⟩ q1.1)
/-! ### arrays: the components by a function of their place -/
def Arf (Z : State) (h : Heap) (a : Addr) (k : ClassId) (ty : FieldType) (n : Nat) (f : Nat → Value) : Prop := ∃ c : Cell, Arr Z h a c ty ∧ c.cls = k ∧ c.slots.size = n ∧ n < 2147483648 ∧ ∀ i, i < n → c.slots[i]? = some (f i) ∧ fits ty (f i) = true
section A
variable {h' : Heap} {a b : Addr} {k : ClassId} {ty : FieldType} {n : Nat} {f g : Nat → Value} {v : Value} {sl : Nat} {ws : List Addr}
theorem Arf.lt (F : Arf Z h a k ty n f) : a < h.size := by obtain ⟨c, A, -⟩ := F; exact A.lt
theorem Arf.ext (F : Arf Z h a k ty n f) (E : Ext h h') : Arf Z h' a k ty n f := by obtain ⟨c, A, r⟩ := F; exact ⟨c, A.ext E, r⟩
theorem Arf.other (F : Arf Z h b k ty n f) (W : Wr h h' a sl v) (q : b ≠ a) : Arf Z h' b k ty n f := by obtain ⟨c, A, r⟩ := F; exact ⟨c, A.other W q, r⟩
theorem Arf.keep (F : Arf Z h a k ty n f) (K : Keep h h' ws) (q : a ∉ ws) : Arf Z h' a k ty n f := by obtain ⟨c, A, r⟩ := F; exact ⟨c, ⟨K.2.1 a c A.1 q, A.2⟩, r⟩
theorem Arf.congr (F : Arf Z h a k ty n f) (q : ∀ i, i < n → f i = g i) : Arf Z h a k ty n g := by
  obtain ⟨c, A, r1, r2, r3, H⟩ := F
  exact ⟨c, A, r1, r2, r3, fun i hi => by rw [← q i hi]; exact H i hi⟩
theorem Arf.size_lt (F : Arf Z h a k ty n f) : n < 2147483648 := by obtain ⟨c, A, r1, r2, r3, H⟩ := F; exact r3
theorem Arf.fits (F : Arf Z h a k ty n f) {i : Nat} (hi : i < n) : fits ty (f i) = true := by obtain ⟨c, A, r1, r2, r3, H⟩ := F; exact (H i hi).2
theorem idx_of {j : Int32} {i : Nat} (hj : j.toInt = i) : ¬ j < 0 ∧ j.toNatClampNeg = i := by
  rw [Int32.lt_iff_toInt_lt, show (0 : Int32).toInt = 0 from rfl, hj]
  exact ⟨by omega, by simp only [Int32.toNatClampNeg, hj]; omega⟩
theorem Arf.set (F : Arf Z h a k ty n f) {i : Nat} (W : Wr h h' a i v) (hi : i < n) (hv : Jvm.fits ty v = true) : Arf Z h' a k ty n (fun x => if x = i then v else f x) := by
  obtain ⟨c, A, r1, r2, r3, H⟩ := F
  refine ⟨_, A.same W, r1, by rw [sz_set]; exact r2, r3, fun x hx => ?_⟩
  by_cases q : x = i
  · subst q
    refine ⟨?_, by simpa using hv⟩
    simp [Cell.setSlot, r2, hx]
  · refine ⟨?_, by simpa [q] using (H x hx).2⟩
    simp only [Cell.setSlot, if_neg q]
    rw [Array.getElem?_setIfInBounds_ne (fun e => q e.symm)]; exact (H x hx).1
theorem Arf.new {z : Int32} (A : Arr Z h a (newA k ty z) ty) (hz : z.toInt = n) : Arf Z h a k ty n (fun _ => defaultValue ty) := by
  have q := idx_of hz
  refine ⟨_, A, rfl, by rw [sz_new, q.2], by have := Int32.toInt_lt z; omega, fun i hi => ⟨?_, by cases ty <;> rfl⟩⟩
  simp [newA, q.2, hi]
theorem Arf.arv (F : Arf Z h a k ty n f) {z : Int32} (hz : z.toInt = n) (dv : Value) : Arv Z h a k ty z ((List.range n).map f) dv := by
  obtain ⟨c, A, r1, r2, r3, H⟩ := F
  have q := idx_of hz
  refine ⟨c, A, r1, by rw [r2, q.2], q.1, fun i hi => ?_, fun i hi => ?_⟩
  · rw [r2] at hi; rw [(H i hi).1]; simp [List.getD_eq_getElem?_getD, hi]
  · rw [r2] at hi; have := (H i hi).2; simpa [List.getD_eq_getElem?_getD, hi] using this
theorem Arf.of_arv {z : Int32} {vs : List Value} {dv : Value} (F : Arv Z h a k ty z vs dv) (hz : z.toInt = n) (q : ∀ i, i < n → vs.getD i dv = f i) : Arf Z h a k ty n f := by
  obtain ⟨c, A, r1, r2, r3, H, G⟩ := F
  have q' := idx_of hz
  refine ⟨c, A, r1, by rw [r2, q'.2], by have := Int32.toInt_lt z; omega, fun i hi => ?_⟩
  have hi' : i < c.slots.size := by rw [r2, q'.2]; exact hi
  rw [← q i hi]; exact ⟨H i hi', G i hi'⟩
theorem Pln_arf (F : Arf Z h a k ty n f) : ∀ cell : Cell, h[a]? = some cell → cell.vm.isStatics = false := fun cell hc => by obtain ⟨c, A, -⟩ := F; cases A.1.symm.trans hc; exact A.plain
theorem Arf.sto (F : Arf Z h a k ty n f) {CC : String} {y : Addr} (O : Ovr Z k CC) (I : Ins Z h y CC true) : Sto Z h a (.ref y) := by
  obtain ⟨c, A, r1, -⟩ := F; exact Sto.ofV A r1 O I
end A

theorem k_newP {a0 : Array Value} {aty : ArrayType} {z : Int32} {n cap : Nat} (G : Ctx Γ Z own bytes maxl ret nm rm hs0) (X : W Γ n0 T h C S) (w : (Cond.arrayClass (newarray.typeOf aty)).before a0 Z = true) (hd : decode bytes pc = .ok (.newarray aty, 2)) (hp : pc + 2 = pc') (hz : z.toInt = n) (hcap : n ≤ cap) (hbig : cap * 8 ≤ 536870912) (hc : C + 1 ≤ rm.cells) (hs : S + cap ≤ rm.slots) (K : ∀ T h' a k, h.size = a → Ext h h' → Arf Z h' a k (newarray.typeOf aty) n (fun _ => defaultValue (newarray.typeOf aty)) → W Γ n0 T h' (C + 1) (S + cap) → Go Γ n0 Q T (mkF Γ.m pc' Ls (.ref a :: st))) : Go Γ n0 Q T (mkF Γ.m pc Ls (.int z :: st)) := by
  subst hp
  obtain ⟨hx, hZ0, hown0, hby, hml, hret, hnm, hlk, hR, hsH⟩ := G
  obtain ⟨L, vm0, k0, X, e, N, hS, hk⟩ := X
  have hZ : Z.Warmed39 (Γ.s.setVm vm0).vm := State.Warmed39.trans hZ0 hS.1
  have hown : (Γ.s.setVm vm0).vm.findClass own = some Γ.m.cls := by rw [show (Γ.s.setVm vm0).vm = vm0 from rfl, hS.1.alike.findClass]; exact hown0
  obtain ⟨T', h', k', X', e', E', A', st'⟩ := newP X hx hZ w e (g := mkF Γ.m pc Ls (.int z :: st)) rfl (hb hby hd) rfl (idx_of hz).1 (cap := cap) (by rw [(idx_of hz).2]; exact hcap) hbig (hR ▸ hc) (hR ▸ hs)
  exact Go.of st' (K T' h' _ k' rfl E' (Arf.new A' hz) ⟨L, vm0, k0, X', e', N, hS, (Nat.le_trans hk E'.1)⟩)
theorem k_newR {a0 : Array Value} {idx : Nat} {CC : String} {z : Int32} {n cap : Nat} (G : Ctx Γ Z own bytes maxl ret nm rm hs0) (X : W Γ n0 T h C S) (w1 : (Cond.classLink own idx CC).before a0 Z = true) (w2 : (Cond.arrayOver (.object CC)).before a0 Z = true) (hd : decode bytes pc = .ok (.anewarray idx, 3)) (hp : pc + 3 = pc') (hz : z.toInt = n) (hcap : n ≤ cap) (hbig : cap * 8 ≤ 536870912) (hc : C + 1 ≤ rm.cells) (hs : S + cap ≤ rm.slots) (K : ∀ T h' a k, h.size = a → Ext h h' → Arf Z h' a k (.object CC) n (fun _ => .null) → Ovr Z k CC → W Γ n0 T h' (C + 1) (S + cap) → Go Γ n0 Q T (mkF Γ.m pc' Ls (.ref a :: st))) : Go Γ n0 Q T (mkF Γ.m pc Ls (.int z :: st)) := by
  subst hp
  obtain ⟨hx, hZ0, hown0, hby, hml, hret, hnm, hlk, hR, hsH⟩ := G
  obtain ⟨L, vm0, k0, X, e, N, hS, hk⟩ := X
  have hZ : Z.Warmed39 (Γ.s.setVm vm0).vm := State.Warmed39.trans hZ0 hS.1
  have hown : (Γ.s.setVm vm0).vm.findClass own = some Γ.m.cls := by rw [show (Γ.s.setVm vm0).vm = vm0 from rfl, hS.1.alike.findClass]; exact hown0
  obtain ⟨T', h', k', X', e', E', A', O', st'⟩ := newR X hx hZ hown w1 w2 e (g := mkF Γ.m pc Ls (.int z :: st)) rfl (hb hby hd) rfl (idx_of hz).1 (cap := cap) (by rw [(idx_of hz).2]; exact hcap) hbig (hR ▸ hc) (hR ▸ hs)
  exact Go.of st' (K T' h' _ k' rfl E' (Arf.new A' hz) O' ⟨L, vm0, k0, X', e', N, hS, (Nat.le_trans hk E'.1)⟩)
theorem k_alen {a : Addr} {k : ClassId} {ty : FieldType} {n : Nat} {f : Nat → Value} {z : Int32} (G : Ctx Γ Z own bytes maxl ret nm rm hs0) (X : W Γ n0 T h C S) (F : Arf Z h a k ty n f) (hz : z.toInt = n) (hd : decode bytes pc = .ok (.arraylength, 1)) (hp : pc + 1 = pc') (K : Go Γ n0 Q T (mkF Γ.m pc' Ls (.int z :: st))) : Go Γ n0 Q T (mkF Γ.m pc Ls (.ref a :: st)) := by
  subst hp
  obtain ⟨hx, hZ0, hown0, hby, hml, hret, hnm, hlk, hR, hsH⟩ := G
  obtain ⟨L, vm0, k0, X, e, N, hS, hk⟩ := X
  have hZ : Z.Warmed39 (Γ.s.setVm vm0).vm := State.Warmed39.trans hZ0 hS.1
  have hown : (Γ.s.setVm vm0).vm.findClass own = some Γ.m.cls := by rw [show (Γ.s.setVm vm0).vm = vm0 from rfl, hS.1.alike.findClass]; exact hown0
  obtain ⟨cl, A, r1, r2, r3, H⟩ := F
  have q : cl.slots.size.toInt32 = z := by rw [r2]; exact Int32.toInt_inj.mp (by rw [len_toInt r3, hz])
  rw [← q] at K
  exact Go.of (fun t k' => X.arraylength hx (by rw [e]; exact A.1) (State.isArrayOf_alike hZ.alike A.2.1) (g := mkF Γ.m pc Ls (.ref a :: st)) rfl rfl (hb hby hd) t k') K
theorem k_iaload {a : Addr} {k : ClassId} {n i : Nat} {f : Nat → Value} {j : Int32} {v : Value} (G : Ctx Γ Z own bytes maxl ret nm rm hs0) (X : W Γ n0 T h C S) (F : Arf Z h a k .int n f) (hj : j.toInt = i) (hi : i < n) (hv : f i = v) (hd : decode bytes pc = .ok (.iaload, 1)) (hp : pc + 1 = pc') (K : Go Γ n0 Q T (mkF Γ.m pc' Ls (v :: st))) : Go Γ n0 Q T (mkF Γ.m pc Ls (.int j :: .ref a :: st)) := by
  subst hp hv
  obtain ⟨hx, hZ0, hown0, hby, hml, hret, hnm, hlk, hR, hsH⟩ := G
  obtain ⟨L, vm0, k0, X, e, N, hS, hk⟩ := X
  have hZ : Z.Warmed39 (Γ.s.setVm vm0).vm := State.Warmed39.trans hZ0 hS.1
  have hown : (Γ.s.setVm vm0).vm.findClass own = some Γ.m.cls := by rw [show (Γ.s.setVm vm0).vm = vm0 from rfl, hS.1.alike.findClass]; exact hown0
  obtain ⟨cl, A, r1, r2, r3, H⟩ := F
  have q := idx_of hj
  exact Go.of (fun t k' => X.iaload hx (by rw [e]; exact A.1) (State.isArrayOf_alike hZ.alike A.2.1) A.2.2 (by rw [r2, q.2]; exact fun u => u.elim q.1 (Nat.not_le.mpr hi)) (by rw [q.2]; exact (H i hi).1) (g := mkF Γ.m pc Ls (.int j :: .ref a :: st)) rfl rfl (hb hby hd) t k') K
theorem k_caload {a : Addr} {k : ClassId} {n i : Nat} {f : Nat → Value} {j : Int32} {v : Value} (G : Ctx Γ Z own bytes maxl ret nm rm hs0) (X : W Γ n0 T h C S) (F : Arf Z h a k .char n f) (hj : j.toInt = i) (hi : i < n) (hv : f i = v) (hd : decode bytes pc = .ok (.caload, 1)) (hp : pc + 1 = pc') (K : Go Γ n0 Q T (mkF Γ.m pc' Ls (v :: st))) : Go Γ n0 Q T (mkF Γ.m pc Ls (.int j :: .ref a :: st)) := by
  subst hp hv
  obtain ⟨hx, hZ0, hown0, hby, hml, hret, hnm, hlk, hR, hsH⟩ := G
  obtain ⟨L, vm0, k0, X, e, N, hS, hk⟩ := X
  have hZ : Z.Warmed39 (Γ.s.setVm vm0).vm := State.Warmed39.trans hZ0 hS.1
  have hown : (Γ.s.setVm vm0).vm.findClass own = some Γ.m.cls := by rw [show (Γ.s.setVm vm0).vm = vm0 from rfl, hS.1.alike.findClass]; exact hown0
  obtain ⟨cl, A, r1, r2, r3, H⟩ := F
  have q := idx_of hj
  exact Go.of (fun t k' => X.caload hx (by rw [e]; exact A.1) (State.isArrayOf_alike hZ.alike A.2.1) A.2.2 (by rw [r2, q.2]; exact fun u => u.elim q.1 (Nat.not_le.mpr hi)) (by rw [q.2]; exact (H i hi).1) (g := mkF Γ.m pc Ls (.int j :: .ref a :: st)) rfl rfl (hb hby hd) t k') K
theorem k_saload {a : Addr} {k : ClassId} {n i : Nat} {f : Nat → Value} {j : Int32} {v : Value} (G : Ctx Γ Z own bytes maxl ret nm rm hs0) (X : W Γ n0 T h C S) (F : Arf Z h a k .short n f) (hj : j.toInt = i) (hi : i < n) (hv : f i = v) (hd : decode bytes pc = .ok (.saload, 1)) (hp : pc + 1 = pc') (K : Go Γ n0 Q T (mkF Γ.m pc' Ls (v :: st))) : Go Γ n0 Q T (mkF Γ.m pc Ls (.int j :: .ref a :: st)) := by
  subst hp hv
  obtain ⟨hx, hZ0, hown0, hby, hml, hret, hnm, hlk, hR, hsH⟩ := G
  obtain ⟨L, vm0, k0, X, e, N, hS, hk⟩ := X
  have hZ : Z.Warmed39 (Γ.s.setVm vm0).vm := State.Warmed39.trans hZ0 hS.1
  have hown : (Γ.s.setVm vm0).vm.findClass own = some Γ.m.cls := by rw [show (Γ.s.setVm vm0).vm = vm0 from rfl, hS.1.alike.findClass]; exact hown0
  obtain ⟨cl, A, r1, r2, r3, H⟩ := F
  have q := idx_of hj
  exact Go.of (fun t k' => X.saload hx (by rw [e]; exact A.1) (State.isArrayOf_alike hZ.alike A.2.1) A.2.2 (by rw [r2, q.2]; exact fun u => u.elim q.1 (Nat.not_le.mpr hi)) (by rw [q.2]; exact (H i hi).1) (g := mkF Γ.m pc Ls (.int j :: .ref a :: st)) rfl rfl (hb hby hd) t k') K
theorem k_laload {a : Addr} {k : ClassId} {n i : Nat} {f : Nat → Value} {j : Int32} {v : Value} (G : Ctx Γ Z own bytes maxl ret nm rm hs0) (X : W Γ n0 T h C S) (F : Arf Z h a k .long n f) (hj : j.toInt = i) (hi : i < n) (hv : f i = v) (hd : decode bytes pc = .ok (.laload, 1)) (hp : pc + 1 = pc') (K : Go Γ n0 Q T (mkF Γ.m pc' Ls (v :: st))) : Go Γ n0 Q T (mkF Γ.m pc Ls (.int j :: .ref a :: st)) := by
  subst hp hv
  obtain ⟨hx, hZ0, hown0, hby, hml, hret, hnm, hlk, hR, hsH⟩ := G
  obtain ⟨L, vm0, k0, X, e, N, hS, hk⟩ := X
  have hZ : Z.Warmed39 (Γ.s.setVm vm0).vm := State.Warmed39.trans hZ0 hS.1
  have hown : (Γ.s.setVm vm0).vm.findClass own = some Γ.m.cls := by rw [show (Γ.s.setVm vm0).vm = vm0 from rfl, hS.1.alike.findClass]; exact hown0
  obtain ⟨cl, A, r1, r2, r3, H⟩ := F
  have q := idx_of hj
  exact Go.of (fun t k' => X.laload hx (by rw [e]; exact A.1) (State.isArrayOf_alike hZ.alike A.2.1) A.2.2 (by rw [r2, q.2]; exact fun u => u.elim q.1 (Nat.not_le.mpr hi)) (by rw [q.2]; exact (H i hi).1) (g := mkF Γ.m pc Ls (.int j :: .ref a :: st)) rfl rfl (hb hby hd) t k') K
theorem k_baload {a : Addr} {k : ClassId} {n i : Nat} {f : Nat → Value} {j : Int32} {v : Value} (G : Ctx Γ Z own bytes maxl ret nm rm hs0) (X : W Γ n0 T h C S) (F : Arf Z h a k .byte n f) (hj : j.toInt = i) (hi : i < n) (hv : f i = v) (hd : decode bytes pc = .ok (.baload, 1)) (hp : pc + 1 = pc') (K : Go Γ n0 Q T (mkF Γ.m pc' Ls (v :: st))) : Go Γ n0 Q T (mkF Γ.m pc Ls (.int j :: .ref a :: st)) := by
  subst hp hv
  obtain ⟨hx, hZ0, hown0, hby, hml, hret, hnm, hlk, hR, hsH⟩ := G
  obtain ⟨L, vm0, k0, X, e, N, hS, hk⟩ := X
  have hZ : Z.Warmed39 (Γ.s.setVm vm0).vm := State.Warmed39.trans hZ0 hS.1
  have hown : (Γ.s.setVm vm0).vm.findClass own = some Γ.m.cls := by rw [show (Γ.s.setVm vm0).vm = vm0 from rfl, hS.1.alike.findClass]; exact hown0
  obtain ⟨cl, A, r1, r2, r3, H⟩ := F
  have q := idx_of hj
  exact Go.of (fun t k' => X.baloadBytes hx (by rw [e]; exact A.1) (State.isArrayOf_alike hZ.alike A.2.1) A.2.2 (by rw [r2, q.2]; exact fun u => u.elim q.1 (Nat.not_le.mpr hi)) (by rw [q.2]; exact (H i hi).1) (g := mkF Γ.m pc Ls (.int j :: .ref a :: st)) rfl rfl (hb hby hd) t k') K
theorem k_aaload {a : Addr} {k : ClassId} {ty : FieldType} {n i : Nat} {f : Nat → Value} {j : Int32} {v : Value} (G : Ctx Γ Z own bytes maxl ret nm rm hs0) (X : W Γ n0 T h C S) (F : Arf Z h a k ty n f) (hty : ty.isReference = true) (hj : j.toInt = i) (hi : i < n) (hv : f i = v) (hd : decode bytes pc = .ok (.aaload, 1)) (hp : pc + 1 = pc') (K : Go Γ n0 Q T (mkF Γ.m pc' Ls (v :: st))) : Go Γ n0 Q T (mkF Γ.m pc Ls (.int j :: .ref a :: st)) := by
  subst hp hv
  obtain ⟨hx, hZ0, hown0, hby, hml, hret, hnm, hlk, hR, hsH⟩ := G
  obtain ⟨L, vm0, k0, X, e, N, hS, hk⟩ := X
  have hZ : Z.Warmed39 (Γ.s.setVm vm0).vm := State.Warmed39.trans hZ0 hS.1
  have hown : (Γ.s.setVm vm0).vm.findClass own = some Γ.m.cls := by rw [show (Γ.s.setVm vm0).vm = vm0 from rfl, hS.1.alike.findClass]; exact hown0
  obtain ⟨cl, A, r1, r2, r3, H⟩ := F
  have q := idx_of hj
  exact Go.of (fun t k' => X.aaload hx (by rw [e]; exact A.1) (State.isArrayOf_alike hZ.alike A.2.1) hty A.2.2 (by rw [r2, q.2]; exact fun u => u.elim q.1 (Nat.not_le.mpr hi)) (by rw [q.2]; exact (H i hi).1) (g := mkF Γ.m pc Ls (.int j :: .ref a :: st)) rfl rfl (hb hby hd) t k') K
theorem k_iastore {a : Addr} {k : ClassId} {n i : Nat} {f : Nat → Value} {j x z : Int32} (G : Ctx Γ Z own bytes maxl ret nm rm hs0) (X : W Γ n0 T h C S) (F : Arf Z h a k .int n f) (hj : j.toInt = i) (hi : i < n) (hz : x = z) (ga : n0 ≤ a) (hd : decode bytes pc = .ok (.iastore, 1)) (hp : pc + 1 = pc') (K : ∀ T h', Wr h h' a i (.int z) → Arf Z h' a k .int n (fun x => if x = i then (.int z) else f x) → W Γ n0 T h' C S → Go Γ n0 Q T (mkF Γ.m pc' Ls st)) : Go Γ n0 Q T (mkF Γ.m pc Ls (.int x :: .int j :: .ref a :: st)) := by
  subst hp hz
  obtain ⟨hx, hZ0, hown0, hby, hml, hret, hnm, hlk, hR, hsH⟩ := G
  obtain ⟨L, vm0, k0, X, e, N, hS, hk⟩ := X
  have hZ : Z.Warmed39 (Γ.s.setVm vm0).vm := State.Warmed39.trans hZ0 hS.1
  have hown : (Γ.s.setVm vm0).vm.findClass own = some Γ.m.cls := by rw [show (Γ.s.setVm vm0).vm = vm0 from rfl, hS.1.alike.findClass]; exact hown0
  have F0 := F
  obtain ⟨cl, A, r1, r2, r3, H⟩ := F
  have q := idx_of hj
  obtain ⟨T', h', X', e', W', st'⟩ := stI X hx hZ e A (j := j) (x := x) (by rw [r2, q.2]; exact fun u => u.elim q.1 (Nat.not_le.mpr hi)) (g := mkF Γ.m pc Ls (.int x :: .int j :: .ref a :: st)) rfl rfl (hb hby hd)
  rw [q.2] at W' X'
  exact Go.of st' (K T' h' W' (F0.set W' hi (rfl)) ⟨_, vm0, k0, X', e', Fr.snoc X' N ga, hS, (by rw [W'.size]; exact hk)⟩)
theorem k_castore {a : Addr} {k : ClassId} {n i : Nat} {f : Nat → Value} {j x z : Int32} (G : Ctx Γ Z own bytes maxl ret nm rm hs0) (X : W Γ n0 T h C S) (F : Arf Z h a k .char n f) (hj : j.toInt = i) (hi : i < n) (hz : nar .char x = z) (ga : n0 ≤ a) (hd : decode bytes pc = .ok (.castore, 1)) (hp : pc + 1 = pc') (K : ∀ T h', Wr h h' a i (.int z) → Arf Z h' a k .char n (fun x => if x = i then (.int z) else f x) → W Γ n0 T h' C S → Go Γ n0 Q T (mkF Γ.m pc' Ls st)) : Go Γ n0 Q T (mkF Γ.m pc Ls (.int x :: .int j :: .ref a :: st)) := by
  subst hp hz
  obtain ⟨hx, hZ0, hown0, hby, hml, hret, hnm, hlk, hR, hsH⟩ := G
  obtain ⟨L, vm0, k0, X, e, N, hS, hk⟩ := X
  have hZ : Z.Warmed39 (Γ.s.setVm vm0).vm := State.Warmed39.trans hZ0 hS.1
  have hown : (Γ.s.setVm vm0).vm.findClass own = some Γ.m.cls := by rw [show (Γ.s.setVm vm0).vm = vm0 from rfl, hS.1.alike.findClass]; exact hown0
  have F0 := F
  obtain ⟨cl, A, r1, r2, r3, H⟩ := F
  have q := idx_of hj
  obtain ⟨T', h', X', e', W', st'⟩ := stC X hx hZ e A (j := j) (x := x) (by rw [r2, q.2]; exact fun u => u.elim q.1 (Nat.not_le.mpr hi)) (g := mkF Γ.m pc Ls (.int x :: .int j :: .ref a :: st)) rfl rfl (hb hby hd)
  rw [q.2] at W' X'
  exact Go.of st' (K T' h' W' (F0.set W' hi (fits_nar_char _)) ⟨_, vm0, k0, X', e', Fr.snoc X' N ga, hS, (by rw [W'.size]; exact hk)⟩)
theorem k_sastore {a : Addr} {k : ClassId} {n i : Nat} {f : Nat → Value} {j x z : Int32} (G : Ctx Γ Z own bytes maxl ret nm rm hs0) (X : W Γ n0 T h C S) (F : Arf Z h a k .short n f) (hj : j.toInt = i) (hi : i < n) (hz : nar .short x = z) (ga : n0 ≤ a) (hd : decode bytes pc = .ok (.sastore, 1)) (hp : pc + 1 = pc') (K : ∀ T h', Wr h h' a i (.int z) → Arf Z h' a k .short n (fun x => if x = i then (.int z) else f x) → W Γ n0 T h' C S → Go Γ n0 Q T (mkF Γ.m pc' Ls st)) : Go Γ n0 Q T (mkF Γ.m pc Ls (.int x :: .int j :: .ref a :: st)) := by
  subst hp hz
  obtain ⟨hx, hZ0, hown0, hby, hml, hret, hnm, hlk, hR, hsH⟩ := G
  obtain ⟨L, vm0, k0, X, e, N, hS, hk⟩ := X
  have hZ : Z.Warmed39 (Γ.s.setVm vm0).vm := State.Warmed39.trans hZ0 hS.1
  have hown : (Γ.s.setVm vm0).vm.findClass own = some Γ.m.cls := by rw [show (Γ.s.setVm vm0).vm = vm0 from rfl, hS.1.alike.findClass]; exact hown0
  have F0 := F
  obtain ⟨cl, A, r1, r2, r3, H⟩ := F
  have q := idx_of hj
  obtain ⟨T', h', X', e', W', st'⟩ := stS X hx hZ e A (j := j) (x := x) (by rw [r2, q.2]; exact fun u => u.elim q.1 (Nat.not_le.mpr hi)) (g := mkF Γ.m pc Ls (.int x :: .int j :: .ref a :: st)) rfl rfl (hb hby hd)
  rw [q.2] at W' X'
  exact Go.of st' (K T' h' W' (F0.set W' hi (fits_nar_short _)) ⟨_, vm0, k0, X', e', Fr.snoc X' N ga, hS, (by rw [W'.size]; exact hk)⟩)
theorem k_bastore {a : Addr} {k : ClassId} {n i : Nat} {f : Nat → Value} {j x z : Int32} (G : Ctx Γ Z own bytes maxl ret nm rm hs0) (X : W Γ n0 T h C S) (F : Arf Z h a k .byte n f) (hj : j.toInt = i) (hi : i < n) (hz : nar .byte x = z) (ga : n0 ≤ a) (hd : decode bytes pc = .ok (.bastore, 1)) (hp : pc + 1 = pc') (K : ∀ T h', Wr h h' a i (.int z) → Arf Z h' a k .byte n (fun x => if x = i then (.int z) else f x) → W Γ n0 T h' C S → Go Γ n0 Q T (mkF Γ.m pc' Ls st)) : Go Γ n0 Q T (mkF Γ.m pc Ls (.int x :: .int j :: .ref a :: st)) := by
  subst hp hz
  obtain ⟨hx, hZ0, hown0, hby, hml, hret, hnm, hlk, hR, hsH⟩ := G
  obtain ⟨L, vm0, k0, X, e, N, hS, hk⟩ := X
  have hZ : Z.Warmed39 (Γ.s.setVm vm0).vm := State.Warmed39.trans hZ0 hS.1
  have hown : (Γ.s.setVm vm0).vm.findClass own = some Γ.m.cls := by rw [show (Γ.s.setVm vm0).vm = vm0 from rfl, hS.1.alike.findClass]; exact hown0
  have F0 := F
  obtain ⟨cl, A, r1, r2, r3, H⟩ := F
  have q := idx_of hj
  obtain ⟨T', h', X', e', W', st'⟩ := stB X hx hZ e A (j := j) (x := x) (by rw [r2, q.2]; exact fun u => u.elim q.1 (Nat.not_le.mpr hi)) (g := mkF Γ.m pc Ls (.int x :: .int j :: .ref a :: st)) rfl rfl (hb hby hd)
  rw [q.2] at W' X'
  exact Go.of st' (K T' h' W' (F0.set W' hi (fits_nar_byte _)) ⟨_, vm0, k0, X', e', Fr.snoc X' N ga, hS, (by rw [W'.size]; exact hk)⟩)
theorem k_lastore {a : Addr} {k : ClassId} {n i : Nat} {f : Nat → Value} {j : Int32} {y : Int64} (G : Ctx Γ Z own bytes maxl ret nm rm hs0) (X : W Γ n0 T h C S) (F : Arf Z h a k .long n f) (hj : j.toInt = i) (hi : i < n) (ga : n0 ≤ a) (hd : decode bytes pc = .ok (.lastore, 1)) (hp : pc + 1 = pc') (K : ∀ T h', Wr h h' a i (.long y) → Arf Z h' a k .long n (fun x => if x = i then (.long y) else f x) → W Γ n0 T h' C S → Go Γ n0 Q T (mkF Γ.m pc' Ls st)) : Go Γ n0 Q T (mkF Γ.m pc Ls (.long y :: .int j :: .ref a :: st)) := by
  subst hp
  obtain ⟨hx, hZ0, hown0, hby, hml, hret, hnm, hlk, hR, hsH⟩ := G
  obtain ⟨L, vm0, k0, X, e, N, hS, hk⟩ := X
  have hZ : Z.Warmed39 (Γ.s.setVm vm0).vm := State.Warmed39.trans hZ0 hS.1
  have hown : (Γ.s.setVm vm0).vm.findClass own = some Γ.m.cls := by rw [show (Γ.s.setVm vm0).vm = vm0 from rfl, hS.1.alike.findClass]; exact hown0
  have F0 := F
  obtain ⟨cl, A, r1, r2, r3, H⟩ := F
  have q := idx_of hj
  obtain ⟨T', h', X', e', W', st'⟩ := stJ X hx hZ e A (j := j) (x := y) (by rw [r2, q.2]; exact fun u => u.elim q.1 (Nat.not_le.mpr hi)) (g := mkF Γ.m pc Ls (.long y :: .int j :: .ref a :: st)) rfl rfl (hb hby hd)
  rw [q.2] at W' X'
  exact Go.of st' (K T' h' W' (F0.set W' hi rfl) ⟨_, vm0, k0, X', e', Fr.snoc X' N ga, hS, (by rw [W'.size]; exact hk)⟩)
theorem k_aastore {a : Addr} {k : ClassId} {ty : FieldType} {n i : Nat} {f : Nat → Value} {j : Int32} {v : Value} (G : Ctx Γ Z own bytes maxl ret nm rm hs0) (X : W Γ n0 T h C S) (F : Arf Z h a k ty n f) (hty : ty.isReference = true) (hj : j.toInt = i) (hi : i < n) (O : Sto Z h a v) (hv : fits ty v = true) (ga : n0 ≤ a) (hd : decode bytes pc = .ok (.aastore, 1)) (hp : pc + 1 = pc') (K : ∀ T h', Wr h h' a i v → Arf Z h' a k ty n (fun x => if x = i then v else f x) → W Γ n0 T h' C S → Go Γ n0 Q T (mkF Γ.m pc' Ls st)) : Go Γ n0 Q T (mkF Γ.m pc Ls (v :: .int j :: .ref a :: st)) := by
  subst hp
  obtain ⟨hx, hZ0, hown0, hby, hml, hret, hnm, hlk, hR, hsH⟩ := G
  obtain ⟨L, vm0, k0, X, e, N, hS, hk⟩ := X
  have hZ : Z.Warmed39 (Γ.s.setVm vm0).vm := State.Warmed39.trans hZ0 hS.1
  have hown : (Γ.s.setVm vm0).vm.findClass own = some Γ.m.cls := by rw [show (Γ.s.setVm vm0).vm = vm0 from rfl, hS.1.alike.findClass]; exact hown0
  have F0 := F
  obtain ⟨cl, A, r1, r2, r3, H⟩ := F
  have q := idx_of hj
  obtain ⟨T', h', X', e', W', st'⟩ := stR X hx hZ e A (j := j) (v := v) (by rw [r2, q.2]; exact fun u => u.elim q.1 (Nat.not_le.mpr hi)) hty O (g := mkF Γ.m pc Ls (v :: .int j :: .ref a :: st)) rfl rfl (hb hby hd)
  rw [q.2] at W' X'
  exact Go.of st' (K T' h' W' (F0.set W' hi hv) ⟨_, vm0, k0, X', e', Fr.snoc X' N ga, hS, (by rw [W'.size]; exact hk)⟩)
theorem k_copy {a0 : Array Value} {idx : Nat} {a b : Addr} {k k' : ClassId} {ty : FieldType} {n n' sp dp nn wd : Nat} {f g : Nat → Value} {js jd jn : Int32} (G : Ctx Γ Z own bytes maxl ret nm rm hs0) (X : W Γ n0 T h C S) (F : Arf Z h a k ty n f) (F' : Arf Z h b k' ty n' g) (hty : refKind ty = false)
    (w1 : (Cond.methodLink own idx Jvm.Stand.acN).before a0 Z = true) (w2 : (Cond.native Jvm.Stand.acN).before a0 Z = true) (w3 : (Cond.static Jvm.Stand.acN).before a0 Z = true) (w4 : (Cond.initialized "java/lang/System").before a0 Z = true)
    (hjs : js.toInt = sp) (hjd : jd.toInt = dp) (hjn : jn.toInt = nn) (h1 : sp + nn ≤ n) (h2 : dp + nn ≤ n') (gb : n0 ≤ b) (hd : decode bytes pc = .ok (.invokestatic idx, 3)) (hp : pc + 3 = pc') (hL : Ls.size = maxl) (hf : 1 ≤ rm.frames) (hwd : (st.map fun v => v.category).sum = wd) (hlo : wd + (nativeFrameWords "java/lang/System" "arraycopy" 5 + 11) ≤ rm.locals)
    (K : ∀ T h', Keep h h' [b] → Arf Z h' b k' ty n' (fun i => if dp ≤ i ∧ i < dp + nn then f (sp + (i - dp)) else g i) → W Γ n0 T h' C S → Go Γ n0 Q T (mkF Γ.m pc' Ls st)) : Go Γ n0 Q T (mkF Γ.m pc Ls (.int jn :: .int jd :: .ref b :: .int js :: .ref a :: st)) := by
  subst hp
  obtain ⟨hx, hZ0, hown0, hby, hml, hret, hnm, hlk, hR, hsH⟩ := G
  obtain ⟨L, vm0, k0, X, e, N, hS, hk⟩ := X
  have hZ : Z.Warmed39 (Γ.s.setVm vm0).vm := State.Warmed39.trans hZ0 hS.1
  have hown : (Γ.s.setVm vm0).vm.findClass own = some Γ.m.cls := by rw [show (Γ.s.setVm vm0).vm = vm0 from rfl, hS.1.alike.findClass]; exact hown0
  obtain ⟨z, hz⟩ : ∃ z : Int32, z.toInt = n := ⟨n.toInt32, len_toInt F.size_lt⟩
  obtain ⟨z', hz'⟩ : ∃ z : Int32, z.toInt = n' := ⟨n'.toInt32, len_toInt F'.size_lt⟩
  have A := F.arv hz .null
  have B := F'.arv hz' .null
  obtain ⟨qs1, qs2⟩ := idx_of hjs
  obtain ⟨qd1, qd2⟩ := idx_of hjd
  obtain ⟨qn1, qn2⟩ := idx_of hjn
  obtain ⟨T', h', L', X', e', N', K', A', st'⟩ := cpA X hx hZ hown w1 w2 w3 w4 e A B (Or.inl ⟨rfl, hty⟩) qs1 qd1 qn1 (by rw [qs2, qn2, (idx_of hz).2]; exact h1) (by rw [qd2, qn2, (idx_of hz').2]; exact h2) rfl (by rw [qd2, qn2]; simpa using h2) N gb (g := mkF Γ.m pc Ls (.int jn :: .int jd :: .ref b :: .int js :: .ref a :: st)) rfl (by rw [hml]; exact hL) rfl (hb hby hd) (hR ▸ hf) (W := wd) (by show 2 * 0 + _ ≤ _; omega) (hR ▸ hlo)
  refine Go.of st' (K T' h' K' (Arf.of_arv A' hz' fun i hi => ?_) ⟨L', vm0, k0, X', e', N', hS, Nat.le_trans hk K'.1⟩)
  rw [qs2, qd2, qn2]
  simp only [List.getD_eq_getElem?_getD]
  have lt : (((List.range n').map g).take dp).length = dp := by simp; omega
  by_cases c1 : i < dp
  · rw [List.append_assoc, List.getElem?_append_left (by rw [lt]; exact c1), List.getElem?_take_of_lt c1, if_neg (by omega)]
    simp [hi]
  · by_cases c2 : i < dp + nn
    · rw [List.getElem?_append_left (by rw [List.length_append, lt]; simp; omega), List.getElem?_append_right (by omega), lt, if_pos (by omega)]
      have q1 : i - dp < nn := by omega
      have q2 : sp + (i - dp) < n := by omega
      simp [q1, q2]
    · rw [List.getElem?_append_right (by rw [List.length_append, lt]; simp; omega), if_neg (by omega), List.getElem?_drop]
      have q3 : dp + nn + (i - (((List.range n').map g).take dp ++ (List.range nn).map fun i => (((List.range n).map f)[sp + i]?).getD .null).length) = i := by rw [List.length_append, lt]; simp; omega
      rw [q3]; simp [hi]
theorem k_instNull {idx : Nat} (G : Ctx Γ Z own bytes maxl ret nm rm hs0) (X : W Γ n0 T h C S) (hd : decode bytes pc = .ok (.instanceof idx, 3)) (hp : pc + 3 = pc') (K : Go Γ n0 Q T (mkF Γ.m pc' Ls (.int 0 :: st))) : Go Γ n0 Q T (mkF Γ.m pc Ls (.null :: st)) := by
  subst hp
  obtain ⟨hx, hZ0, hown0, hby, hml, hret, hnm, hlk, hR, hsH⟩ := G
  obtain ⟨L, vm0, k0, X, e, N, hS, hk⟩ := X
  have hZ : Z.Warmed39 (Γ.s.setVm vm0).vm := State.Warmed39.trans hZ0 hS.1
  have hown : (Γ.s.setVm vm0).vm.findClass own = some Γ.m.cls := by rw [show (Γ.s.setVm vm0).vm = vm0 from rfl, hS.1.alike.findClass]; exact hown0
  exact Go.of (fun t k => X.instanceofNull hx (g := mkF Γ.m pc Ls (.null :: st)) rfl rfl (hb hby hd) t k) K
theorem k_castNull {idx : Nat} (G : Ctx Γ Z own bytes maxl ret nm rm hs0) (X : W Γ n0 T h C S) (hd : decode bytes pc = .ok (.checkcast idx, 3)) (hp : pc + 3 = pc') (K : Go Γ n0 Q T (mkF Γ.m pc' Ls (.null :: st))) : Go Γ n0 Q T (mkF Γ.m pc Ls (.null :: st)) := by
  subst hp
  obtain ⟨hx, hZ0, hown0, hby, hml, hret, hnm, hlk, hR, hsH⟩ := G
  obtain ⟨L, vm0, k0, X, e, N, hS, hk⟩ := X
  have hZ : Z.Warmed39 (Γ.s.setVm vm0).vm := State.Warmed39.trans hZ0 hS.1
  have hown : (Γ.s.setVm vm0).vm.findClass own = some Γ.m.cls := by rw [show (Γ.s.setVm vm0).vm = vm0 from rfl, hS.1.alike.findClass]; exact hown0
  exact Go.of (fun t k => X.checkcastNull hx (g := mkF Γ.m pc Ls (.null :: st)) rfl rfl (hb hby hd) t k) K
theorem k_instN {a0 : Array Value} {idx : Nat} {KK CC : String} {a : Addr} (G : Ctx Γ Z own bytes maxl ret nm rm hs0) (X : W Γ n0 T h C S) (w : (Cond.classLink own idx KK).before a0 Z = true) (F : Ins Z hs0 a KK false) (E : Exa Z hs0 a CC) (hd : decode bytes pc = .ok (.instanceof idx, 3)) (hp : pc + 3 = pc') (K : ∀ T, W Γ n0 T h C S → Go Γ n0 Q T (mkF Γ.m pc' Ls (.int 0 :: st))) : Go Γ n0 Q T (mkF Γ.m pc Ls (.ref a :: st)) := by
  subst hp
  obtain ⟨hx, hZ0, hown0, hby, hml, hret, hnm, hlk, hR, hsH⟩ := G
  obtain ⟨L, vm0, k0, X, e, N, hS, hk⟩ := X
  have hZ : Z.Warmed39 (Γ.s.setVm vm0).vm := State.Warmed39.trans hZ0 hS.1
  have hown : (Γ.s.setVm vm0).vm.findClass own = some Γ.m.cls := by rw [show (Γ.s.setVm vm0).vm = vm0 from rfl, hS.1.alike.findClass]; exact hown0
  obtain ⟨T', X', e', st'⟩ := instN X hx hZ hown w e (show Ins Z Γ.s.heap a KK false by rw [hsH]; exact F) (show Exa Z Γ.s.heap a CC by rw [hsH]; exact E) (g := mkF Γ.m pc Ls (.ref a :: st)) rfl rfl (hb hby hd)
  exact Go.of st' (K T' ⟨L, vm0, k0, X', e', N, hS, hk⟩)
theorem k_instNo {a0 : Array Value} {idx : Nat} {KK CC : String} {a : Addr} (G : Ctx Γ Z own bytes maxl ret nm rm hs0) (X : W Γ n0 T h C S) (w : (Cond.classLink own idx KK).before a0 Z = true) (E : Exa Z h a CC) (F : ∃ c t, Z.vm.findClass CC = some c ∧ Z.vm.findClass KK = some t ∧ Z.vm.assignable c t = false) (hd : decode bytes pc = .ok (.instanceof idx, 3)) (hp : pc + 3 = pc') (K : ∀ T, W Γ n0 T h C S → Go Γ n0 Q T (mkF Γ.m pc' Ls (.int 0 :: st))) : Go Γ n0 Q T (mkF Γ.m pc Ls (.ref a :: st)) := by
  subst hp
  obtain ⟨hx, hZ0, hown0, hby, hml, hret, hnm, hlk, hR, hsH⟩ := G
  obtain ⟨L, vm0, k0, X, e, N, hS, hk⟩ := X
  have hZ : Z.Warmed39 (Γ.s.setVm vm0).vm := State.Warmed39.trans hZ0 hS.1
  have hown : (Γ.s.setVm vm0).vm.findClass own = some Γ.m.cls := by rw [show (Γ.s.setVm vm0).vm = vm0 from rfl, hS.1.alike.findClass]; exact hown0
  obtain ⟨T', X', e', st'⟩ := instNo X hx hZ hown w e E F (g := mkF Γ.m pc Ls (.ref a :: st)) rfl rfl (hb hby hd)
  exact Go.of st' (K T' ⟨L, vm0, k0, X', e', N, hS, hk⟩)
theorem selP {a0 : Array Value} {y : MethodName} {n : Nat} (wi : (Cond.instantiable y.cls n).before a0 Z = true) (wp : (Cond.privateMethod y).before a0 Z = true) (w2 : (Cond.instanceMethod y).before a0 Z = true) (hy : y.cls ≠ "java/lang/invoke/MethodHandle" ∧ y.cls ≠ "java/lang/invoke/VarHandle") : (Cond.selects y.cls y y).before a0 Z = true := by
  obtain ⟨t, kt, g0, g1, g2, gr⟩ := Cond.instantiable_spec wi
  have gi : kt.isInterface = false := by have := gr.1; simp at this; exact this.1
  exact Jvm.Stand.selects_self_of_private g0 g1 gi (Cond.privateMethod_at wp) w2 hy
theorem noInst {a0 : Array Value} {CC KK : String} {n : Nat} (w : (Cond.superclass CC "java/lang/Object").before a0 Z = true) (wo : (Cond.noSuperclass "java/lang/Object").before a0 Z = true) (wi : (Cond.instantiable KK n).before a0 Z = true) (h1 : CC ≠ KK) (h2 : "java/lang/Object" ≠ KK) : ∃ c t, Z.vm.findClass CC = some c ∧ Z.vm.findClass KK = some t ∧ Z.vm.assignable c t = false := by
  obtain ⟨t, kt, g0, g1, g2, gr⟩ := Cond.instantiable_spec wi
  have gi : kt.isInterface = false := by have := gr.1; simp at this; exact this.1
  obtain ⟨o, ko, o1, o2, o3, -⟩ := Cond.noSuperclass_spec wo
  obtain ⟨c, h0⟩ := found_sup w
  obtain ⟨p, k, kp, q1, q2, q3, q4, q5, -, q7⟩ := Cond.superclass_spec h0 w
  cases o1.symm.trans q1
  have ne1 := ids_ne h0 g0 h1
  have ne2 := ids_ne o1 g0 h2
  have n3 : ∀ fuel, Z.vm.isSubclassAux fuel c t = false := fun fuel => by
    cases fuel with
    | zero => rfl
    | succ f =>
      have n2 : Z.vm.isSubclassAux f o t = false := by
        cases f with
        | zero => rfl
        | succ f => simp [Vm.isSubclassAux, ne2, o2, o3]
      simp [Vm.isSubclassAux, ne1, q2, q4, n2]
  refine ⟨c, t, h0, g0, ?_⟩
  show Z.vm.assignableAux (255 + 1) c t = false
  simp [Vm.assignableAux, ne1, q2, g1, q5, g2, gi, Vm.isSubclass, n3]
theorem k_ldcS {a0 : Array Value} {idx n : Nat} {text : String} (G : Ctx Γ Z own bytes maxl ret nm rm hs0) (X : W Γ n0 T h C S) (w : (Cond.stringLink own idx text).before a0 Z = true) (wS : ∀ a ∈ Bundle.stringAtoms, a.before a0 Z = true) (hd : decode bytes pc = .ok (.ldc idx, 2)) (hp : pc + 2 = pc') (hn : 4 * text.toList.length ≤ n) (hbig : n ≤ 536870912) (hc : C + 2 ≤ rm.cells) (hs : S + (n + 4) ≤ rm.slots) (K : ∀ T h' a, Ext h h' → W Γ n0 T h' (C + 2) (S + (n + 4)) → Go Γ n0 Q T (mkF Γ.m pc' Ls (.ref a :: st))) : Go Γ n0 Q T (mkF Γ.m pc Ls st) := by
  subst hp
  obtain ⟨hx, hZ0, hown0, hby, hml, hret, hnm, hlk, hR, hsH⟩ := G
  obtain ⟨L, vm0, k0, X, e, N, hS, hk⟩ := X
  have hZ : Z.Warmed39 (Γ.s.setVm vm0).vm := State.Warmed39.trans hZ0 hS.1
  have hown : (Γ.s.setVm vm0).vm.findClass own = some Γ.m.cls := by rw [show (Γ.s.setVm vm0).vm = vm0 from rfl, hS.1.alike.findClass]; exact hown0
  obtain ⟨a, T', h', k1, X', e', E', hS', hk', -, -, st'⟩ := ldcS X hx hZ hown w wS e hS hk (g := mkF Γ.m pc Ls st) rfl (hb hby hd) hn hbig (hR ▸ hc) (hR ▸ hs)
  exact Go.of st' (K T' h' a E' ⟨L, T'.vm, k1, X', e', N, hS', hk'⟩)
/-! ### facts -/
theorem W.eq {h' : Heap} (X : W Γ n0 T h' C S) (e : h' = h) : W Γ n0 T h C S := e ▸ X
theorem Old_le (O : Old Z n0 h) : n0 ≤ h.size := by rw [← O.1]; exact O.2.1
theorem Sta_old {CC n d : String} {v : Value} (O : Old Z n0 h) (F : Sta Z Z.heap CC n d v) : Sta Z h CC n d v := F.ext O.2
theorem Fld_old {CC n d : String} {v : Value} {a : Addr} (O : Old Z n0 h) (F : Fld Z Z.heap a CC n d v) : Fld Z h a CC n d v := F.ext O.2
theorem Exa_old {CC : String} {a : Addr} (O : Old Z n0 h) (F : Exa Z Z.heap a CC) : Exa Z h a CC := F.ext O.2
theorem Sta_keep {h' : Heap} {CC n d : String} {v : Value} (F : Sta Z h CC n d v) (K : Keep h h' []) : Sta Z h' CC n d v := by
  obtain ⟨cf, i, k, f, st, cell, h1, h2, h3, h4, h5, h6, h7⟩ := F
  exact ⟨cf, i, k, f, st, cell, h1, h2, h3, h4, K.2.1 _ _ h5 nin0, h6, h7⟩
def Pln (h : Heap) (a : Addr) : Prop := ∀ cell : Cell, h[a]? = some cell → cell.vm.isStatics = false
theorem Pln_exa {a : Addr} {CC : String} (E : Exa Z h a CC) : Pln h a := fun cell hc => by obtain ⟨c1, _, h1, -, -, h4, -⟩ := E; cases h1.symm.trans hc; exact h4
theorem Pln_fld {a : Addr} {CC n d : String} {v : Value} (F : Fld Z h a CC n d v) : Pln h a := old_plain F
theorem Sta_keepL {h' : Heap} {CC n d : String} {v : Value} {ws : List Addr} (F : Sta Z h CC n d v) (K : Keep h h' ws) (q : ∀ w ∈ ws, Pln h w) : Sta Z h' CC n d v := by
  obtain ⟨cf, i, k, f, st, cell, h1, h2, h3, h4, h5, h6, h7⟩ := F
  exact ⟨cf, i, k, f, st, cell, h1, h2, h3, h4, K.2.1 _ _ h5 (fun hm => by have := q _ hm _ h5; rw [h6] at this; cases this), h6, h7⟩
end K
section Words
variable {s : State} {args : Array Value}
theorem s_exa {CC K n d : String} (hx : (Cond.exactly (Term.static CC n d) K).value args s none s [] = some true) (hi : (Cond.initialized CC).before args s = true) (hl : (Cond.laysStatic CC n d).before args s = true) : ∃ a, Sta s s.heap CC n d (.ref a) ∧ Exa s s.heap a K ∧ (Term.static CC n d).eval args s none [] s = some (.ref a) := by
  obtain ⟨a, ev⟩ := exa_v hx
  exact ⟨a, Sta.start ev (Or.inr ⟨hi, hl⟩), Exa.start ev hx, ev⟩
theorem s_fldI {t : Term} {a : Addr} {O n d : String} {z : Int32} (ev : t.eval args s none [] s = some (.ref a)) (hx : (Cond.eq (Term.field t O n d) (Term.int z)).value args s none s [] = some true) : Fld s s.heap a O n d (.int z) := by
  refine Fld.start ?_
  rw [← fld_at (args := args) (first := s) (o := none) (idx := []) ev]
  simp only [Cond.value, Term.int_eval] at hx
  cases hf : (Term.field t O n d).eval args s none [] s with
  | none => simp [hf] at hx
  | some v => cases v <;> simp [hf] at hx; rw [hx]
theorem s_fldN {t : Term} {a : Addr} {O n d : String} (ev : t.eval args s none [] s = some (.ref a)) (hx : (Cond.eq (Term.field t O n d) Term.null).value args s none s [] = some true) : Fld s s.heap a O n d .null := by
  refine Fld.start ?_
  rw [← fld_at (args := args) (first := s) (o := none) (idx := []) ev]
  exact null_v hx
theorem s_fldX {t : Term} {a : Addr} {O n d K : String} (ev : t.eval args s none [] s = some (.ref a)) (hx : (Cond.exactly (Term.field t O n d) K).value args s none s [] = some true) : ∃ b, Fld s s.heap a O n d (.ref b) ∧ Exa s s.heap b K := by
  obtain ⟨b, eb⟩ := exa_v hx
  refine ⟨b, Fld.start ?_, Exa.start eb hx⟩
  rw [← fld_at (args := args) (first := s) (o := none) (idx := []) ev]; exact eb
theorem len_none {t : Term} {x : Addr} {cl : Cell} {first : State} {o : Option Outcome} {idx : List Nat} (ht : t.eval args first o idx s = some (.ref x)) (ha : s.arrayAt? x = some cl) (hl : ¬ cl.slots.size < 2 ^ 31) : (Term.length t).eval args first o idx s = none := by simp [Term.eval, ht, ha, hl]
theorem s_arr2 {CC n d : String} {E : String} (hx : (Cond.exactly (Term.static CC n d) E).before args s = true) (hi : (Cond.initializedFor CC n d).before args s = true ∨ ((Cond.initialized CC).before args s = true ∧ (Cond.laysStatic CC n d).before args s = true)) (ha : (Cond.arrayOf (Term.static CC n d) (.object "java/lang/Object")).before args s = true) (hl : (Cond.eq (Term.length (Term.static CC n d)) (Term.int 0)).before args s = true) : ∃ a k, Sta s s.heap CC n d (.ref a) ∧ Arf s s.heap a k (.object "java/lang/Object") 0 (fun _ => .null) := by
  obtain ⟨a, ev⟩ := exa_v (Cond.before_iff.mp hx)
  obtain ⟨c, A⟩ := Arr.start ev (Cond.before_iff.mp ha)
  refine ⟨a, c.cls, Sta.start ev hi, c, A, rfl, ?_, by decide, fun i hi => absurd hi (Nat.not_lt_zero _)⟩
  have hl' := Cond.before_iff.mp hl
  have A2 := A.fin (Vm.Alike.refl _)
  by_cases hb : c.slots.size < 2 ^ 31
  · have q := gotT (Cond.eq_ints (len_f ev A2 hb) (Term.int_eval 0)) hl'
    have := congrArg Int32.toInt q
    rw [len_toInt hb, z32] at this
    omega
  · exfalso
    have : (Term.length (Term.static CC n d)).eval args s none [] s = none := len_none ev A2 hb
    simp [Cond.value, this] at hl'
theorem s_cs {CC n d : String} (h0 : (Cond.initializedFor CC n d).before args s = true) (h1 : (Cond.isInt (Term.static CC n d)).before args s = true) (h2 : (Cond.not (Cond.eq (Term.static CC n d) (Term.int 0))).before args s = true) : ∃ cs : Int32, Sta s s.heap CC n d (.int cs) ∧ cs ≠ 0 := by
  obtain ⟨x, ev⟩ := is_v (Cond.before_iff.mp h1)
  refine ⟨x, Sta.start ev (Or.inl h0), fun q => ?_⟩
  have := not_v (Cond.before_iff.mp h2)
  subst q
  rw [eq_i ev (Term.int_eval 0) rfl] at this
  cases this
end Words
theorem lcmp_self (x : Int64) : (if x > x then (1 : Int32) else if x = x then 0 else -1) = 0 := by rw [if_neg (Int64.lt_irrefl), if_pos rfl]
theorem of_toInt {z w : Int32} (h : z.toInt = w.toInt) : z = w := Int32.toInt_inj.mp h
theorem of_toInt64 {z w : Int64} (h : z.toInt = w.toInt) : z = w := Int64.toInt_inj.mp h
theorem rgI (x : Int32) : -2147483648 ≤ x.toInt ∧ x.toInt < 2147483648 := ⟨Int32.le_toInt x, Int32.toInt_lt x⟩
theorem rgL (x : Int64) : -9223372036854775808 ≤ x.toInt ∧ x.toInt < 9223372036854775808 := ⟨Int64.le_toInt x, Int64.toInt_lt x⟩
theorem and_rng (x : Int32) {m : Int32} (k : Int) (hk : m.toInt = k) (h : 0 ≤ k) : 0 ≤ (x &&& m).toInt ∧ (x &&& m).toInt ≤ k := by subst hk; exact c_and x m h
theorem rem_rng (x : Int32) {y : Int32} (d : Int) (hy : y.toInt = d) (hd : 0 < d) (hx : 0 ≤ x.toInt) : 0 ≤ (x % y).toInt ∧ (x % y).toInt < d := by
  rw [(c_irem x y d hy).1 hx]; exact ⟨Int.emod_nonneg _ (by omega), Int.emod_lt_of_pos _ hd⟩
theorem iadd_toInt {x y : Int32} (h1 : -2147483648 ≤ x.toInt + y.toInt) (h2 : x.toInt + y.toInt < 2147483648) : (x + y).toInt = x.toInt + y.toInt := by
  have := c_iadd x y; have := rgI (x + y); omega
theorem isub_toInt {x y : Int32} (h1 : -2147483648 ≤ x.toInt - y.toInt) (h2 : x.toInt - y.toInt < 2147483648) : (x - y).toInt = x.toInt - y.toInt := by
  have := c_isub x y; have := rgI (x - y); omega
theorem ladd_toInt {x y : Int64} (h1 : -9223372036854775808 ≤ x.toInt + y.toInt) (h2 : x.toInt + y.toInt < 9223372036854775808) : (x + y).toInt = x.toInt + y.toInt := by
  have := c_ladd x y; have := rgL (x + y); omega
theorem lcmp_toInt {x y : Int64} {z : Int32} (q : (if x > y then (1 : Int32) else if x = y then 0 else -1) = z) : (x.toInt < y.toInt → z.toInt = -1) ∧ (x.toInt = y.toInt → z.toInt = 0) ∧ (y.toInt < x.toInt → z.toInt = 1) := by
  subst q; exact c_lcmp x y
theorem and3 (x : Int32) : x &&& 3 = 0 ∨ x &&& 3 = 1 ∨ x &&& 3 = 2 ∨ x &&& 3 = 3 := by
  have h : ∀ b : BitVec 32, b &&& 3#32 = 0#32 ∨ b &&& 3#32 = 1#32 ∨ b &&& 3#32 = 2#32 ∨ b &&& 3#32 = 3#32 := fun b => by
    have e : (b &&& 3#32).toNat < 4 := by rw [BitVec.toNat_and]; exact Nat.lt_of_le_of_lt Nat.and_le_right (by decide)
    have : (b &&& 3#32).toNat = 0 ∨ (b &&& 3#32).toNat = 1 ∨ (b &&& 3#32).toNat = 2 ∨ (b &&& 3#32).toNat = 3 := by omega
    rcases this with q | q | q | q
    · exact Or.inl (BitVec.eq_of_toNat_eq q)
    · exact Or.inr (Or.inl (BitVec.eq_of_toNat_eq q))
    · exact Or.inr (Or.inr (Or.inl (BitVec.eq_of_toNat_eq q)))
    · exact Or.inr (Or.inr (Or.inr (BitVec.eq_of_toNat_eq q)))
  rcases h x.toBitVec with q | q | q | q
  · exact Or.inl (Int32.toBitVec_inj.mp q)
  · exact Or.inr (Or.inl (Int32.toBitVec_inj.mp q))
  · exact Or.inr (Or.inr (Or.inl (Int32.toBitVec_inj.mp q)))
  · exact Or.inr (Or.inr (Or.inr (Int32.toBitVec_inj.mp q)))
end Jvm.OwnK
namespace Jvm.Pilot.@@N@@
open Jvm Jvm.ClassFile Sem Op Lib Jvm.Free Jvm.Stand Jvm.LawKit Jvm.RoadKit Jvm.OwnK Bundle Jvm.Pilot.@@N@@.Jvm.D
abbrev HW (a0 : Array Value) (Z : State) : Prop := ∀ d ∈ tables_1, d.before a0 Z = true
section Wds
variable {a0 : Array Value} {Z : State}
theorem w0 (hw : HW a0 Z) : Jvm.Cond.before (Jvm.Cond.constant "com/example/libinvariant/libinvariant/aiger/LineFieldsNextPinLaw" (7 : Nat) (2147483647 : Int32)) a0 Z = true := hw _ (List.mem_of_getElem? (i := 0) rfl)
theorem w1 (hw : HW a0 Z) : Jvm.Cond.before (Jvm.Cond.arrayClass Jvm.ClassFile.FieldType.char) a0 Z = true := hw _ (List.mem_of_getElem? (i := 1) rfl)
theorem w2 (hw : HW a0 Z) : Jvm.Cond.before (Jvm.Cond.methodLink "com/example/libinvariant/libinvariant/aiger/LineFieldsNextPinLaw" (8 : Nat) ({ cls := "com/example/libinvariant/libinvariant/aiger/LineFieldsNextPinLaw", name := "ch", desc := "(IIIIJ)C" } : Jvm.MethodName)) a0 Z = true := hw _ (List.mem_of_getElem? (i := 2) rfl)
theorem w3 (hw : HW a0 Z) : Jvm.Cond.before (Jvm.Cond.static ({ cls := "com/example/libinvariant/libinvariant/aiger/LineFieldsNextPinLaw", name := "ch", desc := "(IIIIJ)C" } : Jvm.MethodName)) a0 Z = true := hw _ (List.mem_of_getElem? (i := 3) rfl)
theorem w4 (hw : HW a0 Z) : Jvm.Cond.before (Jvm.Cond.initialized "com/example/libinvariant/libinvariant/aiger/LineFieldsNextPinLaw") a0 Z = true := hw _ (List.mem_of_getElem? (i := 4) rfl)
theorem w5 (hw : HW a0 Z) : Jvm.Cond.before (Jvm.Cond.code ({ cls := "com/example/libinvariant/libinvariant/aiger/LineFieldsNextPinLaw", name := "ch", desc := "(IIIIJ)C" } : Jvm.MethodName) method_4_code (6 : Nat) (Option.some Jvm.ClassFile.FieldType.char)) a0 Z = true := hw _ (List.mem_of_getElem? (i := 5) rfl)
theorem w6 (hw : HW a0 Z) : Jvm.Cond.before (Jvm.Cond.methodLink "com/example/libinvariant/libinvariant/aiger/LineFieldsNextPinLaw" (30 : Nat) ({ cls := "com/example/libinvariant/libinvariant/aiger/LineFieldsNextPinLaw", name := "pow10", desc := "(I)I" } : Jvm.MethodName)) a0 Z = true := hw _ (List.mem_of_getElem? (i := 6) rfl)
theorem w7 (hw : HW a0 Z) : Jvm.Cond.before (Jvm.Cond.static ({ cls := "com/example/libinvariant/libinvariant/aiger/LineFieldsNextPinLaw", name := "pow10", desc := "(I)I" } : Jvm.MethodName)) a0 Z = true := hw _ (List.mem_of_getElem? (i := 7) rfl)
theorem w8 (hw : HW a0 Z) : Jvm.Cond.before (Jvm.Cond.code ({ cls := "com/example/libinvariant/libinvariant/aiger/LineFieldsNextPinLaw", name := "pow10", desc := "(I)I" } : Jvm.MethodName) method_3_code (2 : Nat) (Option.some Jvm.ClassFile.FieldType.int)) a0 Z = true := hw _ (List.mem_of_getElem? (i := 8) rfl)
theorem w9 (hw : HW a0 Z) : Jvm.Cond.before (Jvm.Cond.arrayClass Jvm.ClassFile.FieldType.int) a0 Z = true := hw _ (List.mem_of_getElem? (i := 9) rfl)
theorem w10 (hw : HW a0 Z) : Jvm.Cond.before (Jvm.Cond.constant "com/example/libinvariant/libinvariant/aiger/LineFieldsNextPinLaw" (38 : Nat) (100000 : Int32)) a0 Z = true := hw _ (List.mem_of_getElem? (i := 10) rfl)
theorem w11 (hw : HW a0 Z) : Jvm.Cond.before (Jvm.Cond.constant "com/example/libinvariant/libinvariant/aiger/LineFieldsNextPinLaw" (39 : Nat) (1000000 : Int32)) a0 Z = true := hw _ (List.mem_of_getElem? (i := 11) rfl)
theorem w12 (hw : HW a0 Z) : Jvm.Cond.before (Jvm.Cond.constant "com/example/libinvariant/libinvariant/aiger/LineFieldsNextPinLaw" (40 : Nat) (10000000 : Int32)) a0 Z = true := hw _ (List.mem_of_getElem? (i := 12) rfl)
theorem w13 (hw : HW a0 Z) : Jvm.Cond.before (Jvm.Cond.constant "com/example/libinvariant/libinvariant/aiger/LineFieldsNextPinLaw" (41 : Nat) (100000000 : Int32)) a0 Z = true := hw _ (List.mem_of_getElem? (i := 13) rfl)
theorem w14 (hw : HW a0 Z) : Jvm.Cond.before (Jvm.Cond.constant "com/example/libinvariant/libinvariant/aiger/LineFieldsNextPinLaw" (42 : Nat) (1000000000 : Int32)) a0 Z = true := hw _ (List.mem_of_getElem? (i := 14) rfl)
theorem w15 (hw : HW a0 Z) : Jvm.Cond.before (Jvm.Cond.constantLong "com/example/libinvariant/libinvariant/aiger/LineFieldsNextPinLaw" (43 : Nat) (255 : Int64)) a0 Z = true := hw _ (List.mem_of_getElem? (i := 15) rfl)
theorem w16 (hw : HW a0 Z) : Jvm.Cond.before (Jvm.Cond.classLink "com/example/libinvariant/libinvariant/aiger/LineFieldsNextPinLaw" (14 : Nat) "java/lang/String") a0 Z = true := hw _ (List.mem_of_getElem? (i := 16) rfl)
theorem w17 (hw : HW a0 Z) : Jvm.Cond.before (Jvm.Cond.instantiable "java/lang/String" (4 : Nat)) a0 Z = true := hw _ (List.mem_of_getElem? (i := 17) rfl)
theorem w18 (hw : HW a0 Z) : Jvm.Cond.before (Jvm.Cond.initialized "java/lang/String") a0 Z = true := hw _ (List.mem_of_getElem? (i := 18) rfl)
theorem w19 (hw : HW a0 Z) : Jvm.Cond.before (Jvm.Cond.methodLink "com/example/libinvariant/libinvariant/aiger/LineFieldsNextPinLaw" (16 : Nat) ({ cls := "java/lang/String", name := "<init>", desc := "([C)V" } : Jvm.MethodName)) a0 Z = true := hw _ (List.mem_of_getElem? (i := 19) rfl)
theorem w20 (hw : HW a0 Z) : Jvm.Cond.before (Jvm.Cond.instanceMethod ({ cls := "java/lang/String", name := "<init>", desc := "([C)V" } : Jvm.MethodName)) a0 Z = true := hw _ (List.mem_of_getElem? (i := 20) rfl)
theorem w21 (hw : HW a0 Z) : Jvm.Cond.before (Jvm.Cond.code ({ cls := "java/lang/String", name := "<init>", desc := "([C)V" } : Jvm.MethodName) jdk_42_method_3_code (2 : Nat) (Option.none : Option Jvm.ClassFile.FieldType)) a0 Z = true := hw _ (List.mem_of_getElem? (i := 21) rfl)
theorem w22 (hw : HW a0 Z) : Jvm.Cond.before (Jvm.Cond.methodLink "java/lang/String" (27 : Nat) ({ cls := "java/lang/String", name := "<init>", desc := "([CIILjava/lang/Void;)V" } : Jvm.MethodName)) a0 Z = true := hw _ (List.mem_of_getElem? (i := 22) rfl)
theorem w23 (hw : HW a0 Z) : Jvm.Cond.before (Jvm.Cond.instanceMethod ({ cls := "java/lang/String", name := "<init>", desc := "([CIILjava/lang/Void;)V" } : Jvm.MethodName)) a0 Z = true := hw _ (List.mem_of_getElem? (i := 23) rfl)
theorem w25 (hw : HW a0 Z) : Jvm.Cond.before (Jvm.Cond.code ({ cls := "java/lang/String", name := "<init>", desc := "([CIILjava/lang/Void;)V" } : Jvm.MethodName) jdk_42_method_149_code (6 : Nat) (Option.none : Option Jvm.ClassFile.FieldType)) a0 Z = true := hw _ (List.mem_of_getElem? (i := 25) rfl)
theorem w26 (hw : HW a0 Z) : Jvm.Cond.before (Jvm.Cond.methodLink "java/lang/String" (1 : Nat) ({ cls := "java/lang/Object", name := "<init>", desc := "()V" } : Jvm.MethodName)) a0 Z = true := hw _ (List.mem_of_getElem? (i := 26) rfl)
theorem w27 (hw : HW a0 Z) : Jvm.Cond.before (Jvm.Cond.instanceMethod ({ cls := "java/lang/Object", name := "<init>", desc := "()V" } : Jvm.MethodName)) a0 Z = true := hw _ (List.mem_of_getElem? (i := 27) rfl)
theorem w28 (hw : HW a0 Z) : Jvm.Cond.before (Jvm.Cond.code ({ cls := "java/lang/Object", name := "<init>", desc := "()V" } : Jvm.MethodName) object_method_1_code (1 : Nat) (Option.none : Option Jvm.ClassFile.FieldType)) a0 Z = true := hw _ (List.mem_of_getElem? (i := 28) rfl)
theorem w29 (hw : HW a0 Z) : Jvm.Cond.before (Jvm.Cond.fieldLink "java/lang/String" (38 : Nat) "java/lang/String" "COMPACT_STRINGS" "Z") a0 Z = true := hw _ (List.mem_of_getElem? (i := 29) rfl)
theorem w30 (hw : HW a0 Z) : Jvm.Cond.before (Jvm.Cond.methodLink "java/lang/String" (177 : Nat) ({ cls := "java/lang/StringUTF16", name := "compress", desc := "([CII)[B" } : Jvm.MethodName)) a0 Z = true := hw _ (List.mem_of_getElem? (i := 30) rfl)
theorem w31 (hw : HW a0 Z) : Jvm.Cond.before (Jvm.Cond.static ({ cls := "java/lang/StringUTF16", name := "compress", desc := "([CII)[B" } : Jvm.MethodName)) a0 Z = true := hw _ (List.mem_of_getElem? (i := 31) rfl)
theorem w32 (hw : HW a0 Z) : Jvm.Cond.before (Jvm.Cond.initialized "java/lang/StringUTF16") a0 Z = true := hw _ (List.mem_of_getElem? (i := 32) rfl)
theorem w33 (hw : HW a0 Z) : Jvm.Cond.before (Jvm.Cond.code ({ cls := "java/lang/StringUTF16", name := "compress", desc := "([CII)[B" } : Jvm.MethodName) jdk_52_method_16_code (6 : Nat) (Option.some (Jvm.ClassFile.FieldType.array Jvm.ClassFile.FieldType.byte))) a0 Z = true := hw _ (List.mem_of_getElem? (i := 33) rfl)
theorem w34 (hw : HW a0 Z) : Jvm.Cond.before (Jvm.Cond.arrayClass Jvm.ClassFile.FieldType.byte) a0 Z = true := hw _ (List.mem_of_getElem? (i := 34) rfl)
theorem w35 (hw : HW a0 Z) : Jvm.Cond.before (Jvm.Cond.methodLink "java/lang/StringUTF16" (115 : Nat) ({ cls := "java/lang/StringUTF16", name := "compress", desc := "([CI[BII)I" } : Jvm.MethodName)) a0 Z = true := hw _ (List.mem_of_getElem? (i := 35) rfl)
theorem w36 (hw : HW a0 Z) : Jvm.Cond.before (Jvm.Cond.static ({ cls := "java/lang/StringUTF16", name := "compress", desc := "([CI[BII)I" } : Jvm.MethodName)) a0 Z = true := hw _ (List.mem_of_getElem? (i := 36) rfl)
theorem w37 (hw : HW a0 Z) : Jvm.Cond.before (Jvm.Cond.code ({ cls := "java/lang/StringUTF16", name := "compress", desc := "([CI[BII)I" } : Jvm.MethodName) jdk_52_method_21_code (7 : Nat) (Option.some Jvm.ClassFile.FieldType.int)) a0 Z = true := hw _ (List.mem_of_getElem? (i := 37) rfl)
theorem w38 (hw : HW a0 Z) : Jvm.Cond.before (Jvm.Cond.methodLink "java/lang/String" (47 : Nat) ({ cls := "java/lang/StringUTF16", name := "coderFromArrayLen", desc := "([BI)B" } : Jvm.MethodName)) a0 Z = true := hw _ (List.mem_of_getElem? (i := 38) rfl)
theorem w39 (hw : HW a0 Z) : Jvm.Cond.before (Jvm.Cond.static ({ cls := "java/lang/StringUTF16", name := "coderFromArrayLen", desc := "([BI)B" } : Jvm.MethodName)) a0 Z = true := hw _ (List.mem_of_getElem? (i := 39) rfl)
theorem w40 (hw : HW a0 Z) : Jvm.Cond.before (Jvm.Cond.code ({ cls := "java/lang/StringUTF16", name := "coderFromArrayLen", desc := "([BI)B" } : Jvm.MethodName) jdk_52_method_15_code (2 : Nat) (Option.some Jvm.ClassFile.FieldType.byte)) a0 Z = true := hw _ (List.mem_of_getElem? (i := 40) rfl)
theorem w41 (hw : HW a0 Z) : Jvm.Cond.before (Jvm.Cond.fieldLink "java/lang/String" (15 : Nat) "java/lang/String" "coder" "B") a0 Z = true := hw _ (List.mem_of_getElem? (i := 41) rfl)
theorem w42 (hw : HW a0 Z) : Jvm.Cond.before (Jvm.Cond.laysFinal "java/lang/String" "java/lang/String" "coder" "B") a0 Z = true := hw _ (List.mem_of_getElem? (i := 42) rfl)
theorem w43 (hw : HW a0 Z) : Jvm.Cond.before (Jvm.Cond.fieldLink "java/lang/String" (9 : Nat) "java/lang/String" "value" "[B") a0 Z = true := hw _ (List.mem_of_getElem? (i := 43) rfl)
theorem w44 (hw : HW a0 Z) : Jvm.Cond.before (Jvm.Cond.laysFinal "java/lang/String" "java/lang/String" "value" "[B") a0 Z = true := hw _ (List.mem_of_getElem? (i := 44) rfl)
theorem w45 (hw : HW a0 Z) : Jvm.Cond.before (Jvm.Cond.classLink "com/example/libinvariant/libinvariant/aiger/LineFieldsNextPinLaw" (19 : Nat) "com/example/libinvariant/libinvariant/aiger/LineFields") a0 Z = true := hw _ (List.mem_of_getElem? (i := 45) rfl)
theorem w46 (hw : HW a0 Z) : Jvm.Cond.before (Jvm.Cond.instantiable "com/example/libinvariant/libinvariant/aiger/LineFields" (2 : Nat)) a0 Z = true := hw _ (List.mem_of_getElem? (i := 46) rfl)
theorem w47 (hw : HW a0 Z) : Jvm.Cond.before (Jvm.Cond.initialized "com/example/libinvariant/libinvariant/aiger/LineFields") a0 Z = true := hw _ (List.mem_of_getElem? (i := 47) rfl)
theorem w48 (hw : HW a0 Z) : Jvm.Cond.before (Jvm.Cond.methodLink "com/example/libinvariant/libinvariant/aiger/LineFieldsNextPinLaw" (21 : Nat) ({ cls := "com/example/libinvariant/libinvariant/aiger/LineFields", name := "<init>", desc := "(Ljava/lang/String;I)V" } : Jvm.MethodName)) a0 Z = true := hw _ (List.mem_of_getElem? (i := 48) rfl)
theorem w49 (hw : HW a0 Z) : Jvm.Cond.before (Jvm.Cond.instanceMethod ({ cls := "com/example/libinvariant/libinvariant/aiger/LineFields", name := "<init>", desc := "(Ljava/lang/String;I)V" } : Jvm.MethodName)) a0 Z = true := hw _ (List.mem_of_getElem? (i := 49) rfl)
theorem w50 (hw : HW a0 Z) : Jvm.Cond.before (Jvm.Cond.code ({ cls := "com/example/libinvariant/libinvariant/aiger/LineFields", name := "<init>", desc := "(Ljava/lang/String;I)V" } : Jvm.MethodName) prog_13_method_1_code (3 : Nat) (Option.none : Option Jvm.ClassFile.FieldType)) a0 Z = true := hw _ (List.mem_of_getElem? (i := 50) rfl)
theorem w51 (hw : HW a0 Z) : Jvm.Cond.before (Jvm.Cond.methodLink "com/example/libinvariant/libinvariant/aiger/LineFields" (1 : Nat) ({ cls := "java/lang/Object", name := "<init>", desc := "()V" } : Jvm.MethodName)) a0 Z = true := hw _ (List.mem_of_getElem? (i := 51) rfl)
theorem w52 (hw : HW a0 Z) : Jvm.Cond.before (Jvm.Cond.fieldLink "com/example/libinvariant/libinvariant/aiger/LineFields" (7 : Nat) "com/example/libinvariant/libinvariant/aiger/LineFields" "line" "Ljava/lang/String;") a0 Z = true := hw _ (List.mem_of_getElem? (i := 52) rfl)
theorem w53 (hw : HW a0 Z) : Jvm.Cond.before (Jvm.Cond.laysFinal "com/example/libinvariant/libinvariant/aiger/LineFields" "com/example/libinvariant/libinvariant/aiger/LineFields" "line" "Ljava/lang/String;") a0 Z = true := hw _ (List.mem_of_getElem? (i := 53) rfl)
theorem w54 (hw : HW a0 Z) : Jvm.Cond.before (Jvm.Cond.fieldLink "com/example/libinvariant/libinvariant/aiger/LineFields" (13 : Nat) "com/example/libinvariant/libinvariant/aiger/LineFields" "space" "I") a0 Z = true := hw _ (List.mem_of_getElem? (i := 54) rfl)
theorem w55 (hw : HW a0 Z) : Jvm.Cond.before (Jvm.Cond.lays "com/example/libinvariant/libinvariant/aiger/LineFields" "com/example/libinvariant/libinvariant/aiger/LineFields" "space" "I") a0 Z = true := hw _ (List.mem_of_getElem? (i := 55) rfl)
theorem w56 (hw : HW a0 Z) : Jvm.Cond.before (Jvm.Cond.stringLink "com/example/libinvariant/libinvariant/aiger/LineFieldsNextPinLaw" (24 : Nat) "field") a0 Z = true := hw _ (List.mem_of_getElem? (i := 56) rfl)
theorem w59 (hw : HW a0 Z) : Jvm.Cond.before (Jvm.Cond.methodLink "com/example/libinvariant/libinvariant/aiger/LineFieldsNextPinLaw" (26 : Nat) ({ cls := "com/example/libinvariant/libinvariant/aiger/LineFields", name := "next", desc := "(Ljava/lang/String;)I" } : Jvm.MethodName)) a0 Z = true := hw _ (List.mem_of_getElem? (i := 59) rfl)
theorem w60 (hw : HW a0 Z) : Jvm.Cond.before (Jvm.Cond.declares ({ cls := "com/example/libinvariant/libinvariant/aiger/LineFields", name := "next", desc := "(Ljava/lang/String;)I" } : Jvm.MethodName)) a0 Z = true := hw _ (List.mem_of_getElem? (i := 60) rfl)
theorem w61 (hw : HW a0 Z) : Jvm.Cond.before (Jvm.Cond.instanceMethod ({ cls := "com/example/libinvariant/libinvariant/aiger/LineFields", name := "next", desc := "(Ljava/lang/String;)I" } : Jvm.MethodName)) a0 Z = true := hw _ (List.mem_of_getElem? (i := 61) rfl)
theorem w62 (hw : HW a0 Z) : Jvm.Cond.before (Jvm.Cond.selects "com/example/libinvariant/libinvariant/aiger/LineFields" ({ cls := "com/example/libinvariant/libinvariant/aiger/LineFields", name := "next", desc := "(Ljava/lang/String;)I" } : Jvm.MethodName) ({ cls := "com/example/libinvariant/libinvariant/aiger/LineFields", name := "next", desc := "(Ljava/lang/String;)I" } : Jvm.MethodName)) a0 Z = true := hw _ (List.mem_of_getElem? (i := 62) rfl)
theorem w63 (hw : HW a0 Z) : Jvm.Cond.before (Jvm.Cond.code ({ cls := "com/example/libinvariant/libinvariant/aiger/LineFields", name := "next", desc := "(Ljava/lang/String;)I" } : Jvm.MethodName) prog_13_method_3_code (8 : Nat) (Option.some Jvm.ClassFile.FieldType.int)) a0 Z = true := hw _ (List.mem_of_getElem? (i := 63) rfl)
theorem w64 (hw : HW a0 Z) : Jvm.Cond.before (Jvm.Cond.methodLink "com/example/libinvariant/libinvariant/aiger/LineFields" (23 : Nat) ({ cls := "java/lang/String", name := "indexOf", desc := "(II)I" } : Jvm.MethodName)) a0 Z = true := hw _ (List.mem_of_getElem? (i := 64) rfl)
theorem w65 (hw : HW a0 Z) : Jvm.Cond.before (Jvm.Cond.declares ({ cls := "java/lang/String", name := "indexOf", desc := "(II)I" } : Jvm.MethodName)) a0 Z = true := hw _ (List.mem_of_getElem? (i := 65) rfl)
theorem w66 (hw : HW a0 Z) : Jvm.Cond.before (Jvm.Cond.instanceMethod ({ cls := "java/lang/String", name := "indexOf", desc := "(II)I" } : Jvm.MethodName)) a0 Z = true := hw _ (List.mem_of_getElem? (i := 66) rfl)
theorem w67 (hw : HW a0 Z) : Jvm.Cond.before (Jvm.Cond.selects "java/lang/String" ({ cls := "java/lang/String", name := "indexOf", desc := "(II)I" } : Jvm.MethodName) ({ cls := "java/lang/String", name := "indexOf", desc := "(II)I" } : Jvm.MethodName)) a0 Z = true := hw _ (List.mem_of_getElem? (i := 67) rfl)
theorem w68 (hw : HW a0 Z) : Jvm.Cond.before (Jvm.Cond.code ({ cls := "java/lang/String", name := "indexOf", desc := "(II)I" } : Jvm.MethodName) jdk_42_method_80_code (3 : Nat) (Option.some Jvm.ClassFile.FieldType.int)) a0 Z = true := hw _ (List.mem_of_getElem? (i := 68) rfl)
theorem w69 (hw : HW a0 Z) : Jvm.Cond.before (Jvm.Cond.methodLink "java/lang/String" (492 : Nat) ({ cls := "java/lang/String", name := "isLatin1", desc := "()Z" } : Jvm.MethodName)) a0 Z = true := hw _ (List.mem_of_getElem? (i := 69) rfl)
theorem w70 (hw : HW a0 Z) : Jvm.Cond.before (Jvm.Cond.declares ({ cls := "java/lang/String", name := "isLatin1", desc := "()Z" } : Jvm.MethodName)) a0 Z = true := hw _ (List.mem_of_getElem? (i := 70) rfl)
theorem w71 (hw : HW a0 Z) : Jvm.Cond.before (Jvm.Cond.instanceMethod ({ cls := "java/lang/String", name := "isLatin1", desc := "()Z" } : Jvm.MethodName)) a0 Z = true := hw _ (List.mem_of_getElem? (i := 71) rfl)
theorem w72 (hw : HW a0 Z) : Jvm.Cond.before (Jvm.Cond.selects "java/lang/String" ({ cls := "java/lang/String", name := "isLatin1", desc := "()Z" } : Jvm.MethodName) ({ cls := "java/lang/String", name := "isLatin1", desc := "()Z" } : Jvm.MethodName)) a0 Z = true := hw _ (List.mem_of_getElem? (i := 72) rfl)
theorem w73 (hw : HW a0 Z) : Jvm.Cond.before (Jvm.Cond.code ({ cls := "java/lang/String", name := "isLatin1", desc := "()Z" } : Jvm.MethodName) jdk_42_method_154_code (1 : Nat) (Option.some Jvm.ClassFile.FieldType.boolean)) a0 Z = true := hw _ (List.mem_of_getElem? (i := 73) rfl)
theorem w74 (hw : HW a0 Z) : Jvm.Cond.before (Jvm.Cond.methodLink "java/lang/String" (505 : Nat) ({ cls := "java/lang/String", name := "length", desc := "()I" } : Jvm.MethodName)) a0 Z = true := hw _ (List.mem_of_getElem? (i := 74) rfl)
theorem w75 (hw : HW a0 Z) : Jvm.Cond.before (Jvm.Cond.declares ({ cls := "java/lang/String", name := "length", desc := "()I" } : Jvm.MethodName)) a0 Z = true := hw _ (List.mem_of_getElem? (i := 75) rfl)
theorem w76 (hw : HW a0 Z) : Jvm.Cond.before (Jvm.Cond.instanceMethod ({ cls := "java/lang/String", name := "length", desc := "()I" } : Jvm.MethodName)) a0 Z = true := hw _ (List.mem_of_getElem? (i := 76) rfl)
theorem w77 (hw : HW a0 Z) : Jvm.Cond.before (Jvm.Cond.selects "java/lang/String" ({ cls := "java/lang/String", name := "length", desc := "()I" } : Jvm.MethodName) ({ cls := "java/lang/String", name := "length", desc := "()I" } : Jvm.MethodName)) a0 Z = true := hw _ (List.mem_of_getElem? (i := 77) rfl)
theorem w78 (hw : HW a0 Z) : Jvm.Cond.before (Jvm.Cond.code ({ cls := "java/lang/String", name := "length", desc := "()I" } : Jvm.MethodName) jdk_42_method_54_code (1 : Nat) (Option.some Jvm.ClassFile.FieldType.int)) a0 Z = true := hw _ (List.mem_of_getElem? (i := 78) rfl)
theorem w79 (hw : HW a0 Z) : Jvm.Cond.before (Jvm.Cond.methodLink "java/lang/String" (335 : Nat) ({ cls := "java/lang/String", name := "coder", desc := "()B" } : Jvm.MethodName)) a0 Z = true := hw _ (List.mem_of_getElem? (i := 79) rfl)
theorem w80 (hw : HW a0 Z) : Jvm.Cond.before (Jvm.Cond.declares ({ cls := "java/lang/String", name := "coder", desc := "()B" } : Jvm.MethodName)) a0 Z = true := hw _ (List.mem_of_getElem? (i := 80) rfl)
theorem w81 (hw : HW a0 Z) : Jvm.Cond.before (Jvm.Cond.instanceMethod ({ cls := "java/lang/String", name := "coder", desc := "()B" } : Jvm.MethodName)) a0 Z = true := hw _ (List.mem_of_getElem? (i := 81) rfl)
theorem w82 (hw : HW a0 Z) : Jvm.Cond.before (Jvm.Cond.selects "java/lang/String" ({ cls := "java/lang/String", name := "coder", desc := "()B" } : Jvm.MethodName) ({ cls := "java/lang/String", name := "coder", desc := "()B" } : Jvm.MethodName)) a0 Z = true := hw _ (List.mem_of_getElem? (i := 82) rfl)
theorem w83 (hw : HW a0 Z) : Jvm.Cond.before (Jvm.Cond.code ({ cls := "java/lang/String", name := "coder", desc := "()B" } : Jvm.MethodName) jdk_42_method_152_code (1 : Nat) (Option.some Jvm.ClassFile.FieldType.byte)) a0 Z = true := hw _ (List.mem_of_getElem? (i := 83) rfl)
theorem w84 (hw : HW a0 Z) : Jvm.Cond.before (Jvm.Cond.methodLink "java/lang/String" (637 : Nat) ({ cls := "java/lang/StringLatin1", name := "indexOf", desc := "([BIII)I" } : Jvm.MethodName)) a0 Z = true := hw _ (List.mem_of_getElem? (i := 84) rfl)
theorem w85 (hw : HW a0 Z) : Jvm.Cond.before (Jvm.Cond.static ({ cls := "java/lang/StringLatin1", name := "indexOf", desc := "([BIII)I" } : Jvm.MethodName)) a0 Z = true := hw _ (List.mem_of_getElem? (i := 85) rfl)
theorem w86 (hw : HW a0 Z) : Jvm.Cond.before (Jvm.Cond.initialized "java/lang/StringLatin1") a0 Z = true := hw _ (List.mem_of_getElem? (i := 86) rfl)
theorem w87 (hw : HW a0 Z) : Jvm.Cond.before (Jvm.Cond.code ({ cls := "java/lang/StringLatin1", name := "indexOf", desc := "([BIII)I" } : Jvm.MethodName) jdk_43_method_22_code (4 : Nat) (Option.some Jvm.ClassFile.FieldType.int)) a0 Z = true := hw _ (List.mem_of_getElem? (i := 87) rfl)
theorem w88 (hw : HW a0 Z) : Jvm.Cond.before (Jvm.Cond.methodLink "java/lang/StringLatin1" (88 : Nat) ({ cls := "java/lang/StringLatin1", name := "canEncode", desc := "(I)Z" } : Jvm.MethodName)) a0 Z = true := hw _ (List.mem_of_getElem? (i := 88) rfl)
theorem w89 (hw : HW a0 Z) : Jvm.Cond.before (Jvm.Cond.static ({ cls := "java/lang/StringLatin1", name := "canEncode", desc := "(I)Z" } : Jvm.MethodName)) a0 Z = true := hw _ (List.mem_of_getElem? (i := 89) rfl)
theorem w90 (hw : HW a0 Z) : Jvm.Cond.before (Jvm.Cond.code ({ cls := "java/lang/StringLatin1", name := "canEncode", desc := "(I)Z" } : Jvm.MethodName) jdk_43_method_4_code (1 : Nat) (Option.some Jvm.ClassFile.FieldType.boolean)) a0 Z = true := hw _ (List.mem_of_getElem? (i := 90) rfl)
theorem w91 (hw : HW a0 Z) : Jvm.Cond.before (Jvm.Cond.methodLink "java/lang/StringLatin1" (92 : Nat) ({ cls := "java/lang/Math", name := "max", desc := "(II)I" } : Jvm.MethodName)) a0 Z = true := hw _ (List.mem_of_getElem? (i := 91) rfl)
theorem w92 (hw : HW a0 Z) : Jvm.Cond.before (Jvm.Cond.static ({ cls := "java/lang/Math", name := "max", desc := "(II)I" } : Jvm.MethodName)) a0 Z = true := hw _ (List.mem_of_getElem? (i := 92) rfl)
theorem w93 (hw : HW a0 Z) : Jvm.Cond.before (Jvm.Cond.initialized "java/lang/Math") a0 Z = true := hw _ (List.mem_of_getElem? (i := 93) rfl)
theorem w94 (hw : HW a0 Z) : Jvm.Cond.before (Jvm.Cond.code ({ cls := "java/lang/Math", name := "max", desc := "(II)I" } : Jvm.MethodName) jdk_29_method_65_code (2 : Nat) (Option.some Jvm.ClassFile.FieldType.int)) a0 Z = true := hw _ (List.mem_of_getElem? (i := 94) rfl)
theorem w95 (hw : HW a0 Z) : Jvm.Cond.before (Jvm.Cond.methodLink "java/lang/StringLatin1" (38 : Nat) ({ cls := "java/lang/Math", name := "min", desc := "(II)I" } : Jvm.MethodName)) a0 Z = true := hw _ (List.mem_of_getElem? (i := 95) rfl)
theorem w96 (hw : HW a0 Z) : Jvm.Cond.before (Jvm.Cond.static ({ cls := "java/lang/Math", name := "min", desc := "(II)I" } : Jvm.MethodName)) a0 Z = true := hw _ (List.mem_of_getElem? (i := 96) rfl)
theorem w97 (hw : HW a0 Z) : Jvm.Cond.before (Jvm.Cond.code ({ cls := "java/lang/Math", name := "min", desc := "(II)I" } : Jvm.MethodName) jdk_29_method_69_code (2 : Nat) (Option.some Jvm.ClassFile.FieldType.int)) a0 Z = true := hw _ (List.mem_of_getElem? (i := 97) rfl)
theorem w98 (hw : HW a0 Z) : Jvm.Cond.before (Jvm.Cond.methodLink "java/lang/StringLatin1" (95 : Nat) ({ cls := "java/lang/StringLatin1", name := "indexOfChar", desc := "([BIII)I" } : Jvm.MethodName)) a0 Z = true := hw _ (List.mem_of_getElem? (i := 98) rfl)
theorem w99 (hw : HW a0 Z) : Jvm.Cond.before (Jvm.Cond.static ({ cls := "java/lang/StringLatin1", name := "indexOfChar", desc := "([BIII)I" } : Jvm.MethodName)) a0 Z = true := hw _ (List.mem_of_getElem? (i := 99) rfl)
theorem w100 (hw : HW a0 Z) : Jvm.Cond.before (Jvm.Cond.code ({ cls := "java/lang/StringLatin1", name := "indexOfChar", desc := "([BIII)I" } : Jvm.MethodName) jdk_43_method_23_code (6 : Nat) (Option.some Jvm.ClassFile.FieldType.int)) a0 Z = true := hw _ (List.mem_of_getElem? (i := 100) rfl)
theorem w101 (hw : HW a0 Z) : Jvm.Cond.before (Jvm.Cond.methodLink "com/example/libinvariant/libinvariant/aiger/LineFields" (36 : Nat) ({ cls := "java/lang/String", name := "charAt", desc := "(I)C" } : Jvm.MethodName)) a0 Z = true := hw _ (List.mem_of_getElem? (i := 101) rfl)
theorem w102 (hw : HW a0 Z) : Jvm.Cond.before (Jvm.Cond.declares ({ cls := "java/lang/String", name := "charAt", desc := "(I)C" } : Jvm.MethodName)) a0 Z = true := hw _ (List.mem_of_getElem? (i := 102) rfl)
theorem w103 (hw : HW a0 Z) : Jvm.Cond.before (Jvm.Cond.instanceMethod ({ cls := "java/lang/String", name := "charAt", desc := "(I)C" } : Jvm.MethodName)) a0 Z = true := hw _ (List.mem_of_getElem? (i := 103) rfl)
theorem w104 (hw : HW a0 Z) : Jvm.Cond.before (Jvm.Cond.selects "java/lang/String" ({ cls := "java/lang/String", name := "charAt", desc := "(I)C" } : Jvm.MethodName) ({ cls := "java/lang/String", name := "charAt", desc := "(I)C" } : Jvm.MethodName)) a0 Z = true := hw _ (List.mem_of_getElem? (i := 104) rfl)
theorem w105 (hw : HW a0 Z) : Jvm.Cond.before (Jvm.Cond.code ({ cls := "java/lang/String", name := "charAt", desc := "(I)C" } : Jvm.MethodName) jdk_42_method_56_code (2 : Nat) (Option.some Jvm.ClassFile.FieldType.char)) a0 Z = true := hw _ (List.mem_of_getElem? (i := 105) rfl)
theorem w106 (hw : HW a0 Z) : Jvm.Cond.before (Jvm.Cond.methodLink "java/lang/String" (495 : Nat) ({ cls := "java/lang/StringLatin1", name := "charAt", desc := "([BI)C" } : Jvm.MethodName)) a0 Z = true := hw _ (List.mem_of_getElem? (i := 106) rfl)
theorem w107 (hw : HW a0 Z) : Jvm.Cond.before (Jvm.Cond.static ({ cls := "java/lang/StringLatin1", name := "charAt", desc := "([BI)C" } : Jvm.MethodName)) a0 Z = true := hw _ (List.mem_of_getElem? (i := 107) rfl)
theorem w108 (hw : HW a0 Z) : Jvm.Cond.before (Jvm.Cond.code ({ cls := "java/lang/StringLatin1", name := "charAt", desc := "([BI)C" } : Jvm.MethodName) jdk_43_method_2_code (2 : Nat) (Option.some Jvm.ClassFile.FieldType.char)) a0 Z = true := hw _ (List.mem_of_getElem? (i := 108) rfl)
theorem w109 (hw : HW a0 Z) : Jvm.Cond.before (Jvm.Cond.methodLink "java/lang/StringLatin1" (9 : Nat) ({ cls := "java/lang/String", name := "checkIndex", desc := "(II)V" } : Jvm.MethodName)) a0 Z = true := hw _ (List.mem_of_getElem? (i := 109) rfl)
theorem w110 (hw : HW a0 Z) : Jvm.Cond.before (Jvm.Cond.static ({ cls := "java/lang/String", name := "checkIndex", desc := "(II)V" } : Jvm.MethodName)) a0 Z = true := hw _ (List.mem_of_getElem? (i := 110) rfl)
theorem w111 (hw : HW a0 Z) : Jvm.Cond.before (Jvm.Cond.code ({ cls := "java/lang/String", name := "checkIndex", desc := "(II)V" } : Jvm.MethodName) jdk_42_method_155_code (2 : Nat) (Option.none : Option Jvm.ClassFile.FieldType)) a0 Z = true := hw _ (List.mem_of_getElem? (i := 111) rfl)
theorem w112 (hw : HW a0 Z) : Jvm.Cond.before (Jvm.Cond.fieldLink "java/lang/String" (1053 : Nat) "jdk/internal/util/Preconditions" "SIOOBE_FORMATTER" "Ljava/util/function/BiFunction;") a0 Z = true := hw _ (List.mem_of_getElem? (i := 112) rfl)
theorem w113 (hw : HW a0 Z) : Jvm.Cond.before (Jvm.Cond.initialized "jdk/internal/util/Preconditions") a0 Z = true := hw _ (List.mem_of_getElem? (i := 113) rfl)
theorem w114 (hw : HW a0 Z) : Jvm.Cond.before (Jvm.Cond.methodLink "java/lang/String" (1059 : Nat) ({ cls := "jdk/internal/util/Preconditions", name := "checkIndex", desc := "(IILjava/util/function/BiFunction;)I" } : Jvm.MethodName)) a0 Z = true := hw _ (List.mem_of_getElem? (i := 114) rfl)
theorem w115 (hw : HW a0 Z) : Jvm.Cond.before (Jvm.Cond.static ({ cls := "jdk/internal/util/Preconditions", name := "checkIndex", desc := "(IILjava/util/function/BiFunction;)I" } : Jvm.MethodName)) a0 Z = true := hw _ (List.mem_of_getElem? (i := 115) rfl)
theorem w116 (hw : HW a0 Z) : Jvm.Cond.before (Jvm.Cond.code ({ cls := "jdk/internal/util/Preconditions", name := "checkIndex", desc := "(IILjava/util/function/BiFunction;)I" } : Jvm.MethodName) jdk_41_method_11_code (3 : Nat) (Option.some Jvm.ClassFile.FieldType.int)) a0 Z = true := hw _ (List.mem_of_getElem? (i := 116) rfl)
theorem w117 (hw : HW a0 Z) : Jvm.Cond.before (Jvm.Cond.constantLong "com/example/libinvariant/libinvariant/aiger/LineFields" (41 : Nat) (10 : Int64)) a0 Z = true := hw _ (List.mem_of_getElem? (i := 117) rfl)
theorem w118 (hw : HW a0 Z) : Jvm.Cond.before (Jvm.Cond.constantLong "com/example/libinvariant/libinvariant/aiger/LineFields" (45 : Nat) (2147483647 : Int64)) a0 Z = true := hw _ (List.mem_of_getElem? (i := 118) rfl)
theorem w119 (hw : HW a0 Z) : Jvm.Cond.before (Jvm.Cond.methodLink "com/example/libinvariant/libinvariant/aiger/LineFieldsNextPinLaw" (34 : Nat) ({ cls := "com/example/libinvariant/libinvariant/aiger/LineFields", name := "hasNext", desc := "()Z" } : Jvm.MethodName)) a0 Z = true := hw _ (List.mem_of_getElem? (i := 119) rfl)
theorem w120 (hw : HW a0 Z) : Jvm.Cond.before (Jvm.Cond.declares ({ cls := "com/example/libinvariant/libinvariant/aiger/LineFields", name := "hasNext", desc := "()Z" } : Jvm.MethodName)) a0 Z = true := hw _ (List.mem_of_getElem? (i := 120) rfl)
theorem w121 (hw : HW a0 Z) : Jvm.Cond.before (Jvm.Cond.instanceMethod ({ cls := "com/example/libinvariant/libinvariant/aiger/LineFields", name := "hasNext", desc := "()Z" } : Jvm.MethodName)) a0 Z = true := hw _ (List.mem_of_getElem? (i := 121) rfl)
theorem w122 (hw : HW a0 Z) : Jvm.Cond.before (Jvm.Cond.selects "com/example/libinvariant/libinvariant/aiger/LineFields" ({ cls := "com/example/libinvariant/libinvariant/aiger/LineFields", name := "hasNext", desc := "()Z" } : Jvm.MethodName) ({ cls := "com/example/libinvariant/libinvariant/aiger/LineFields", name := "hasNext", desc := "()Z" } : Jvm.MethodName)) a0 Z = true := hw _ (List.mem_of_getElem? (i := 122) rfl)
theorem w123 (hw : HW a0 Z) : Jvm.Cond.before (Jvm.Cond.code ({ cls := "com/example/libinvariant/libinvariant/aiger/LineFields", name := "hasNext", desc := "()Z" } : Jvm.MethodName) prog_13_method_2_code (1 : Nat) (Option.some Jvm.ClassFile.FieldType.boolean)) a0 Z = true := hw _ (List.mem_of_getElem? (i := 123) rfl)
theorem w124 (hw : HW a0 Z) : Jvm.Cond.before (Jvm.Cond.methodLink "com/example/libinvariant/libinvariant/aiger/LineFields" (17 : Nat) ({ cls := "java/lang/String", name := "length", desc := "()I" } : Jvm.MethodName)) a0 Z = true := hw _ (List.mem_of_getElem? (i := 124) rfl)
end Wds
theorem strAtoms {a0 : Array Value} {Z : State} (hw : HW a0 Z) : ∀ a ∈ Bundle.stringAtoms, a.before a0 Z = true := by
  intro d hd
  simp only [Bundle.stringAtoms, List.mem_cons, List.not_mem_nil, or_false] at hd
  rcases hd with rfl | rfl | rfl | rfl | rfl | rfl | rfl
  · exact hw _ (List.mem_of_getElem? (i := 18) rfl)
  · exact hw _ (List.mem_of_getElem? (i := 17) rfl)
  · exact hw _ (List.mem_of_getElem? (i := 34) rfl)
  · exact hw _ (List.mem_of_getElem? (i := 44) rfl)
  · exact hw _ (List.mem_of_getElem? (i := 42) rfl)
  · exact hw _ (List.mem_of_getElem? (i := 57) rfl)
  · exact hw _ (List.mem_of_getElem? (i := 58) rfl)
theorem d1_0 : decode method_4_code 0 = .ok (.iload_n 0, 1) := by decide +kernel
theorem d1_1 : decode method_4_code 1 = .ok (.iload_n 1, 1) := by decide +kernel
theorem d1_2 : decode method_4_code 2 = .ok (.if_icmp .lt 10, 3) := by decide +kernel
theorem d1_5 : decode method_4_code 5 = .ok (.iload_n 0, 1) := by decide +kernel
theorem d1_6 : decode method_4_code 6 = .ok (.iload_n 1, 1) := by decide +kernel
theorem d1_7 : decode method_4_code 7 = .ok (.iload_n 2, 1) := by decide +kernel
theorem d1_8 : decode method_4_code 8 = .ok (.iadd, 1) := by decide +kernel
theorem d1_9 : decode method_4_code 9 = .ok (.if_icmp .le 17, 3) := by decide +kernel
theorem d1_12 : decode method_4_code 12 = .ok (.lload 4, 2) := by decide +kernel
theorem d1_14 : decode method_4_code 14 = .ok (.bipush 6, 2) := by decide +kernel
theorem d1_16 : decode method_4_code 16 = .ok (.iload_n 0, 1) := by decide +kernel
theorem d1_17 : decode method_4_code 17 = .ok (.imul, 1) := by decide +kernel
theorem d1_18 : decode method_4_code 18 = .ok (.lushr, 1) := by decide +kernel
theorem d1_19 : decode method_4_code 19 = .ok (.ldc2_w 43, 3) := by decide +kernel
theorem d1_22 : decode method_4_code 22 = .ok (.land, 1) := by decide +kernel
theorem d1_23 : decode method_4_code 23 = .ok (.l2i, 1) := by decide +kernel
theorem d1_24 : decode method_4_code 24 = .ok (.i2c, 1) := by decide +kernel
theorem d1_25 : decode method_4_code 25 = .ok (.ireturn, 1) := by decide +kernel
theorem d1_26 : decode method_4_code 26 = .ok (.iload_n 0, 1) := by decide +kernel
theorem d1_27 : decode method_4_code 27 = .ok (.iload_n 1, 1) := by decide +kernel
theorem d1_28 : decode method_4_code 28 = .ok (.iload_n 2, 1) := by decide +kernel
theorem d1_29 : decode method_4_code 29 = .ok (.iadd, 1) := by decide +kernel
theorem d1_30 : decode method_4_code 30 = .ok (.if_icmp .ne 6, 3) := by decide +kernel
theorem d1_33 : decode method_4_code 33 = .ok (.bipush 32, 2) := by decide +kernel
theorem d1_35 : decode method_4_code 35 = .ok (.ireturn, 1) := by decide +kernel
theorem d1_36 : decode method_4_code 36 = .ok (.bipush 48, 2) := by decide +kernel
theorem d1_38 : decode method_4_code 38 = .ok (.iload_n 3, 1) := by decide +kernel
theorem d1_39 : decode method_4_code 39 = .ok (.iload_n 1, 1) := by decide +kernel
theorem d1_40 : decode method_4_code 40 = .ok (.iload_n 2, 1) := by decide +kernel
theorem d1_41 : decode method_4_code 41 = .ok (.iadd, 1) := by decide +kernel
theorem d1_42 : decode method_4_code 42 = .ok (.iconst 1, 1) := by decide +kernel
theorem d1_43 : decode method_4_code 43 = .ok (.isub, 1) := by decide +kernel
theorem d1_44 : decode method_4_code 44 = .ok (.iload_n 0, 1) := by decide +kernel
theorem d1_45 : decode method_4_code 45 = .ok (.isub, 1) := by decide +kernel
theorem d1_46 : decode method_4_code 46 = .ok (.invokestatic 30, 3) := by decide +kernel
theorem d1_49 : decode method_4_code 49 = .ok (.idiv, 1) := by decide +kernel
theorem d1_50 : decode method_4_code 50 = .ok (.bipush 10, 2) := by decide +kernel
theorem d1_52 : decode method_4_code 52 = .ok (.irem, 1) := by decide +kernel
theorem d1_53 : decode method_4_code 53 = .ok (.iadd, 1) := by decide +kernel
theorem d1_54 : decode method_4_code 54 = .ok (.i2c, 1) := by decide +kernel
theorem d1_55 : decode method_4_code 55 = .ok (.ireturn, 1) := by decide +kernel
theorem d2_0 : decode method_3_code 0 = .ok (.bipush 10, 2) := by decide +kernel
theorem d2_2 : decode method_3_code 2 = .ok (.newarray .int, 2) := by decide +kernel
theorem d2_4 : decode method_3_code 4 = .ok (.dup, 1) := by decide +kernel
theorem d2_5 : decode method_3_code 5 = .ok (.iconst 0, 1) := by decide +kernel
theorem d2_6 : decode method_3_code 6 = .ok (.iconst 1, 1) := by decide +kernel
theorem d2_7 : decode method_3_code 7 = .ok (.iastore, 1) := by decide +kernel
theorem d2_8 : decode method_3_code 8 = .ok (.dup, 1) := by decide +kernel
theorem d2_9 : decode method_3_code 9 = .ok (.iconst 1, 1) := by decide +kernel
theorem d2_10 : decode method_3_code 10 = .ok (.bipush 10, 2) := by decide +kernel
theorem d2_12 : decode method_3_code 12 = .ok (.iastore, 1) := by decide +kernel
theorem d2_13 : decode method_3_code 13 = .ok (.dup, 1) := by decide +kernel
theorem d2_14 : decode method_3_code 14 = .ok (.iconst 2, 1) := by decide +kernel
theorem d2_15 : decode method_3_code 15 = .ok (.bipush 100, 2) := by decide +kernel
theorem d2_17 : decode method_3_code 17 = .ok (.iastore, 1) := by decide +kernel
theorem d2_18 : decode method_3_code 18 = .ok (.dup, 1) := by decide +kernel
theorem d2_19 : decode method_3_code 19 = .ok (.iconst 3, 1) := by decide +kernel
theorem d2_20 : decode method_3_code 20 = .ok (.sipush 1000, 3) := by decide +kernel
theorem d2_23 : decode method_3_code 23 = .ok (.iastore, 1) := by decide +kernel
theorem d2_24 : decode method_3_code 24 = .ok (.dup, 1) := by decide +kernel
theorem d2_25 : decode method_3_code 25 = .ok (.iconst 4, 1) := by decide +kernel
theorem d2_26 : decode method_3_code 26 = .ok (.sipush 10000, 3) := by decide +kernel
theorem d2_29 : decode method_3_code 29 = .ok (.iastore, 1) := by decide +kernel
theorem d2_30 : decode method_3_code 30 = .ok (.dup, 1) := by decide +kernel
theorem d2_31 : decode method_3_code 31 = .ok (.iconst 5, 1) := by decide +kernel
theorem d2_32 : decode method_3_code 32 = .ok (.ldc 38, 2) := by decide +kernel
theorem d2_34 : decode method_3_code 34 = .ok (.iastore, 1) := by decide +kernel
theorem d2_35 : decode method_3_code 35 = .ok (.dup, 1) := by decide +kernel
theorem d2_36 : decode method_3_code 36 = .ok (.bipush 6, 2) := by decide +kernel
theorem d2_38 : decode method_3_code 38 = .ok (.ldc 39, 2) := by decide +kernel
theorem d2_40 : decode method_3_code 40 = .ok (.iastore, 1) := by decide +kernel
theorem d2_41 : decode method_3_code 41 = .ok (.dup, 1) := by decide +kernel
theorem d2_42 : decode method_3_code 42 = .ok (.bipush 7, 2) := by decide +kernel
theorem d2_44 : decode method_3_code 44 = .ok (.ldc 40, 2) := by decide +kernel
theorem d2_46 : decode method_3_code 46 = .ok (.iastore, 1) := by decide +kernel
theorem d2_47 : decode method_3_code 47 = .ok (.dup, 1) := by decide +kernel
theorem d2_48 : decode method_3_code 48 = .ok (.bipush 8, 2) := by decide +kernel
theorem d2_50 : decode method_3_code 50 = .ok (.ldc 41, 2) := by decide +kernel
theorem d2_52 : decode method_3_code 52 = .ok (.iastore, 1) := by decide +kernel
theorem d2_53 : decode method_3_code 53 = .ok (.dup, 1) := by decide +kernel
theorem d2_54 : decode method_3_code 54 = .ok (.bipush 9, 2) := by decide +kernel
theorem d2_56 : decode method_3_code 56 = .ok (.ldc 42, 2) := by decide +kernel
theorem d2_58 : decode method_3_code 58 = .ok (.iastore, 1) := by decide +kernel
theorem d2_59 : decode method_3_code 59 = .ok (.astore_n 1, 1) := by decide +kernel
theorem d2_60 : decode method_3_code 60 = .ok (.aload_n 1, 1) := by decide +kernel
theorem d2_61 : decode method_3_code 61 = .ok (.iload_n 0, 1) := by decide +kernel
theorem d2_62 : decode method_3_code 62 = .ok (.iaload, 1) := by decide +kernel
theorem d2_63 : decode method_3_code 63 = .ok (.ireturn, 1) := by decide +kernel
theorem d3_0 : decode jdk_42_method_3_code 0 = .ok (.aload_n 0, 1) := by decide +kernel
theorem d3_1 : decode jdk_42_method_3_code 1 = .ok (.aload_n 1, 1) := by decide +kernel
theorem d3_2 : decode jdk_42_method_3_code 2 = .ok (.iconst 0, 1) := by decide +kernel
theorem d3_3 : decode jdk_42_method_3_code 3 = .ok (.aload_n 1, 1) := by decide +kernel
theorem d3_4 : decode jdk_42_method_3_code 4 = .ok (.arraylength, 1) := by decide +kernel
theorem d3_5 : decode jdk_42_method_3_code 5 = .ok (.aconst_null, 1) := by decide +kernel
theorem d3_6 : decode jdk_42_method_3_code 6 = .ok (.invokespecial 27, 3) := by decide +kernel
theorem d3_9 : decode jdk_42_method_3_code 9 = .ok (.return_, 1) := by decide +kernel
theorem d4_0 : decode jdk_42_method_149_code 0 = .ok (.aload_n 0, 1) := by decide +kernel
theorem d4_1 : decode jdk_42_method_149_code 1 = .ok (.invokespecial 1, 3) := by decide +kernel
theorem d4_4 : decode jdk_42_method_149_code 4 = .ok (.iload_n 3, 1) := by decide +kernel
theorem d4_5 : decode jdk_42_method_149_code 5 = .ok (.ifCond .ne 22, 3) := by decide +kernel
theorem d4_27 : decode jdk_42_method_149_code 27 = .ok (.getstatic 38, 3) := by decide +kernel
theorem d4_30 : decode jdk_42_method_149_code 30 = .ok (.ifCond .eq 28, 3) := by decide +kernel
theorem d4_33 : decode jdk_42_method_149_code 33 = .ok (.aload_n 1, 1) := by decide +kernel
theorem d4_34 : decode jdk_42_method_149_code 34 = .ok (.iload_n 2, 1) := by decide +kernel
theorem d4_35 : decode jdk_42_method_149_code 35 = .ok (.iload_n 3, 1) := by decide +kernel
theorem d4_36 : decode jdk_42_method_149_code 36 = .ok (.invokestatic 177, 3) := by decide +kernel
theorem d4_39 : decode jdk_42_method_149_code 39 = .ok (.astore 5, 2) := by decide +kernel
theorem d4_41 : decode jdk_42_method_149_code 41 = .ok (.aload_n 0, 1) := by decide +kernel
theorem d4_42 : decode jdk_42_method_149_code 42 = .ok (.aload 5, 2) := by decide +kernel
theorem d4_44 : decode jdk_42_method_149_code 44 = .ok (.iload_n 3, 1) := by decide +kernel
theorem d4_45 : decode jdk_42_method_149_code 45 = .ok (.invokestatic 47, 3) := by decide +kernel
theorem d4_48 : decode jdk_42_method_149_code 48 = .ok (.putfield 15, 3) := by decide +kernel
theorem d4_51 : decode jdk_42_method_149_code 51 = .ok (.aload_n 0, 1) := by decide +kernel
theorem d4_52 : decode jdk_42_method_149_code 52 = .ok (.aload 5, 2) := by decide +kernel
theorem d4_54 : decode jdk_42_method_149_code 54 = .ok (.putfield 9, 3) := by decide +kernel
theorem d4_57 : decode jdk_42_method_149_code 57 = .ok (.return_, 1) := by decide +kernel
theorem d6_0 : decode jdk_52_method_16_code 0 = .ok (.iload_n 2, 1) := by decide +kernel
theorem d6_1 : decode jdk_52_method_16_code 1 = .ok (.newarray .byte, 2) := by decide +kernel
theorem d6_3 : decode jdk_52_method_16_code 3 = .ok (.astore_n 3, 1) := by decide +kernel
theorem d6_4 : decode jdk_52_method_16_code 4 = .ok (.aload_n 0, 1) := by decide +kernel
theorem d6_5 : decode jdk_52_method_16_code 5 = .ok (.iload_n 1, 1) := by decide +kernel
theorem d6_6 : decode jdk_52_method_16_code 6 = .ok (.aload_n 3, 1) := by decide +kernel
theorem d6_7 : decode jdk_52_method_16_code 7 = .ok (.iconst 0, 1) := by decide +kernel
theorem d6_8 : decode jdk_52_method_16_code 8 = .ok (.iload_n 2, 1) := by decide +kernel
theorem d6_9 : decode jdk_52_method_16_code 9 = .ok (.invokestatic 115, 3) := by decide +kernel
theorem d6_12 : decode jdk_52_method_16_code 12 = .ok (.istore 4, 2) := by decide +kernel
theorem d6_14 : decode jdk_52_method_16_code 14 = .ok (.iload 4, 2) := by decide +kernel
theorem d6_16 : decode jdk_52_method_16_code 16 = .ok (.iload_n 2, 1) := by decide +kernel
theorem d6_17 : decode jdk_52_method_16_code 17 = .ok (.if_icmp .eq 40, 3) := by decide +kernel
theorem d6_57 : decode jdk_52_method_16_code 57 = .ok (.aload_n 3, 1) := by decide +kernel
theorem d6_58 : decode jdk_52_method_16_code 58 = .ok (.areturn, 1) := by decide +kernel
theorem d7_0 : decode jdk_52_method_21_code 0 = .ok (.iconst 0, 1) := by decide +kernel
theorem d7_1 : decode jdk_52_method_21_code 1 = .ok (.istore 5, 2) := by decide +kernel
theorem d7_3 : decode jdk_52_method_21_code 3 = .ok (.iload 5, 2) := by decide +kernel
theorem d7_5 : decode jdk_52_method_21_code 5 = .ok (.iload 4, 2) := by decide +kernel
theorem d7_7 : decode jdk_52_method_21_code 7 = .ok (.if_icmp .ge 37, 3) := by decide +kernel
theorem d7_10 : decode jdk_52_method_21_code 10 = .ok (.aload_n 0, 1) := by decide +kernel
theorem d7_11 : decode jdk_52_method_21_code 11 = .ok (.iload_n 1, 1) := by decide +kernel
theorem d7_12 : decode jdk_52_method_21_code 12 = .ok (.caload, 1) := by decide +kernel
theorem d7_13 : decode jdk_52_method_21_code 13 = .ok (.istore 6, 2) := by decide +kernel
theorem d7_15 : decode jdk_52_method_21_code 15 = .ok (.iload 6, 2) := by decide +kernel
theorem d7_17 : decode jdk_52_method_21_code 17 = .ok (.sipush 255, 3) := by decide +kernel
theorem d7_20 : decode jdk_52_method_21_code 20 = .ok (.if_icmp .le 6, 3) := by decide +kernel
theorem d7_26 : decode jdk_52_method_21_code 26 = .ok (.aload_n 2, 1) := by decide +kernel
theorem d7_27 : decode jdk_52_method_21_code 27 = .ok (.iload_n 3, 1) := by decide +kernel
theorem d7_28 : decode jdk_52_method_21_code 28 = .ok (.iload 6, 2) := by decide +kernel
theorem d7_30 : decode jdk_52_method_21_code 30 = .ok (.i2b, 1) := by decide +kernel
theorem d7_31 : decode jdk_52_method_21_code 31 = .ok (.bastore, 1) := by decide +kernel
theorem d7_32 : decode jdk_52_method_21_code 32 = .ok (.iinc 1 1, 3) := by decide +kernel
theorem d7_35 : decode jdk_52_method_21_code 35 = .ok (.iinc 3 1, 3) := by decide +kernel
theorem d7_38 : decode jdk_52_method_21_code 38 = .ok (.iinc 5 1, 3) := by decide +kernel
theorem d7_41 : decode jdk_52_method_21_code 41 = .ok (.goto (-38), 3) := by decide +kernel
theorem d7_44 : decode jdk_52_method_21_code 44 = .ok (.iload 4, 2) := by decide +kernel
theorem d7_46 : decode jdk_52_method_21_code 46 = .ok (.ireturn, 1) := by decide +kernel
theorem d8_0 : decode jdk_52_method_15_code 0 = .ok (.iload_n 1, 1) := by decide +kernel
theorem d8_1 : decode jdk_52_method_15_code 1 = .ok (.aload_n 0, 1) := by decide +kernel
theorem d8_2 : decode jdk_52_method_15_code 2 = .ok (.arraylength, 1) := by decide +kernel
theorem d8_3 : decode jdk_52_method_15_code 3 = .ok (.isub, 1) := by decide +kernel
theorem d8_4 : decode jdk_52_method_15_code 4 = .ok (.bipush 31, 2) := by decide +kernel
theorem d8_6 : decode jdk_52_method_15_code 6 = .ok (.iushr, 1) := by decide +kernel
theorem d8_7 : decode jdk_52_method_15_code 7 = .ok (.i2b, 1) := by decide +kernel
theorem d8_8 : decode jdk_52_method_15_code 8 = .ok (.ireturn, 1) := by decide +kernel
theorem d9_0 : decode prog_13_method_1_code 0 = .ok (.aload_n 0, 1) := by decide +kernel
theorem d9_1 : decode prog_13_method_1_code 1 = .ok (.invokespecial 1, 3) := by decide +kernel
theorem d9_4 : decode prog_13_method_1_code 4 = .ok (.aload_n 0, 1) := by decide +kernel
theorem d9_5 : decode prog_13_method_1_code 5 = .ok (.aload_n 1, 1) := by decide +kernel
theorem d9_6 : decode prog_13_method_1_code 6 = .ok (.putfield 7, 3) := by decide +kernel
theorem d9_9 : decode prog_13_method_1_code 9 = .ok (.aload_n 0, 1) := by decide +kernel
theorem d9_10 : decode prog_13_method_1_code 10 = .ok (.iload_n 2, 1) := by decide +kernel
theorem d9_11 : decode prog_13_method_1_code 11 = .ok (.iconst 1, 1) := by decide +kernel
theorem d9_12 : decode prog_13_method_1_code 12 = .ok (.isub, 1) := by decide +kernel
theorem d9_13 : decode prog_13_method_1_code 13 = .ok (.putfield 13, 3) := by decide +kernel
theorem d9_16 : decode prog_13_method_1_code 16 = .ok (.return_, 1) := by decide +kernel
theorem d10_0 : decode prog_13_method_3_code 0 = .ok (.aload_n 0, 1) := by decide +kernel
theorem d10_1 : decode prog_13_method_3_code 1 = .ok (.getfield 13, 3) := by decide +kernel
theorem d10_4 : decode prog_13_method_3_code 4 = .ok (.iconst 1, 1) := by decide +kernel
theorem d10_5 : decode prog_13_method_3_code 5 = .ok (.iadd, 1) := by decide +kernel
theorem d10_6 : decode prog_13_method_3_code 6 = .ok (.istore_n 2, 1) := by decide +kernel
theorem d10_7 : decode prog_13_method_3_code 7 = .ok (.aload_n 0, 1) := by decide +kernel
theorem d10_8 : decode prog_13_method_3_code 8 = .ok (.getfield 7, 3) := by decide +kernel
theorem d10_11 : decode prog_13_method_3_code 11 = .ok (.bipush 32, 2) := by decide +kernel
theorem d10_13 : decode prog_13_method_3_code 13 = .ok (.iload_n 2, 1) := by decide +kernel
theorem d10_14 : decode prog_13_method_3_code 14 = .ok (.invokevirtual 23, 3) := by decide +kernel
theorem d10_17 : decode prog_13_method_3_code 17 = .ok (.istore_n 3, 1) := by decide +kernel
theorem d10_18 : decode prog_13_method_3_code 18 = .ok (.iload_n 3, 1) := by decide +kernel
theorem d10_19 : decode prog_13_method_3_code 19 = .ok (.ifCond .ge 11, 3) := by decide +kernel
theorem d10_22 : decode prog_13_method_3_code 22 = .ok (.aload_n 0, 1) := by decide +kernel
theorem d10_23 : decode prog_13_method_3_code 23 = .ok (.getfield 7, 3) := by decide +kernel
theorem d10_26 : decode prog_13_method_3_code 26 = .ok (.invokevirtual 17, 3) := by decide +kernel
theorem d10_29 : decode prog_13_method_3_code 29 = .ok (.istore_n 3, 1) := by decide +kernel
theorem d10_30 : decode prog_13_method_3_code 30 = .ok (.aload_n 0, 1) := by decide +kernel
theorem d10_31 : decode prog_13_method_3_code 31 = .ok (.iload_n 3, 1) := by decide +kernel
theorem d10_32 : decode prog_13_method_3_code 32 = .ok (.putfield 13, 3) := by decide +kernel
theorem d10_35 : decode prog_13_method_3_code 35 = .ok (.iload_n 2, 1) := by decide +kernel
theorem d10_36 : decode prog_13_method_3_code 36 = .ok (.iload_n 3, 1) := by decide +kernel
theorem d10_37 : decode prog_13_method_3_code 37 = .ok (.if_icmp .ne 17, 3) := by decide +kernel
theorem d10_54 : decode prog_13_method_3_code 54 = .ok (.lconst 0, 1) := by decide +kernel
theorem d10_55 : decode prog_13_method_3_code 55 = .ok (.lstore 4, 2) := by decide +kernel
theorem d10_57 : decode prog_13_method_3_code 57 = .ok (.iload_n 2, 1) := by decide +kernel
theorem d10_58 : decode prog_13_method_3_code 58 = .ok (.istore 6, 2) := by decide +kernel
theorem d10_60 : decode prog_13_method_3_code 60 = .ok (.iload 6, 2) := by decide +kernel
theorem d10_62 : decode prog_13_method_3_code 62 = .ok (.iload_n 3, 1) := by decide +kernel
theorem d10_63 : decode prog_13_method_3_code 63 = .ok (.if_icmp .ge 86, 3) := by decide +kernel
theorem d10_66 : decode prog_13_method_3_code 66 = .ok (.aload_n 0, 1) := by decide +kernel
theorem d10_67 : decode prog_13_method_3_code 67 = .ok (.getfield 7, 3) := by decide +kernel
theorem d10_70 : decode prog_13_method_3_code 70 = .ok (.iload 6, 2) := by decide +kernel
theorem d10_72 : decode prog_13_method_3_code 72 = .ok (.invokevirtual 36, 3) := by decide +kernel
theorem d10_75 : decode prog_13_method_3_code 75 = .ok (.istore 7, 2) := by decide +kernel
theorem d10_77 : decode prog_13_method_3_code 77 = .ok (.iload 7, 2) := by decide +kernel
theorem d10_79 : decode prog_13_method_3_code 79 = .ok (.bipush 48, 2) := by decide +kernel
theorem d10_81 : decode prog_13_method_3_code 81 = .ok (.if_icmp .lt 10, 3) := by decide +kernel
theorem d10_84 : decode prog_13_method_3_code 84 = .ok (.iload 7, 2) := by decide +kernel
theorem d10_86 : decode prog_13_method_3_code 86 = .ok (.bipush 57, 2) := by decide +kernel
theorem d10_88 : decode prog_13_method_3_code 88 = .ok (.if_icmp .le 17, 3) := by decide +kernel
theorem d10_105 : decode prog_13_method_3_code 105 = .ok (.lload 4, 2) := by decide +kernel
theorem d10_107 : decode prog_13_method_3_code 107 = .ok (.ldc2_w 41, 3) := by decide +kernel
theorem d10_110 : decode prog_13_method_3_code 110 = .ok (.lmul, 1) := by decide +kernel
theorem d10_111 : decode prog_13_method_3_code 111 = .ok (.iload 7, 2) := by decide +kernel
theorem d10_113 : decode prog_13_method_3_code 113 = .ok (.bipush 48, 2) := by decide +kernel
theorem d10_115 : decode prog_13_method_3_code 115 = .ok (.isub, 1) := by decide +kernel
theorem d10_116 : decode prog_13_method_3_code 116 = .ok (.i2l, 1) := by decide +kernel
theorem d10_117 : decode prog_13_method_3_code 117 = .ok (.ladd, 1) := by decide +kernel
theorem d10_118 : decode prog_13_method_3_code 118 = .ok (.lstore 4, 2) := by decide +kernel
theorem d10_120 : decode prog_13_method_3_code 120 = .ok (.lload 4, 2) := by decide +kernel
theorem d10_122 : decode prog_13_method_3_code 122 = .ok (.ldc2_w 45, 3) := by decide +kernel
theorem d10_125 : decode prog_13_method_3_code 125 = .ok (.lcmp, 1) := by decide +kernel
theorem d10_126 : decode prog_13_method_3_code 126 = .ok (.ifCond .le 17, 3) := by decide +kernel
theorem d10_143 : decode prog_13_method_3_code 143 = .ok (.iinc 6 1, 3) := by decide +kernel
theorem d10_146 : decode prog_13_method_3_code 146 = .ok (.goto (-86), 3) := by decide +kernel
theorem d10_149 : decode prog_13_method_3_code 149 = .ok (.lload 4, 2) := by decide +kernel
theorem d10_151 : decode prog_13_method_3_code 151 = .ok (.l2i, 1) := by decide +kernel
theorem d10_152 : decode prog_13_method_3_code 152 = .ok (.ireturn, 1) := by decide +kernel
theorem d11_0 : decode jdk_42_method_80_code 0 = .ok (.aload_n 0, 1) := by decide +kernel
theorem d11_1 : decode jdk_42_method_80_code 1 = .ok (.invokevirtual 492, 3) := by decide +kernel
theorem d11_4 : decode jdk_42_method_80_code 4 = .ok (.ifCond .eq 19, 3) := by decide +kernel
theorem d11_7 : decode jdk_42_method_80_code 7 = .ok (.aload_n 0, 1) := by decide +kernel
theorem d11_8 : decode jdk_42_method_80_code 8 = .ok (.getfield 9, 3) := by decide +kernel
theorem d11_11 : decode jdk_42_method_80_code 11 = .ok (.iload_n 1, 1) := by decide +kernel
theorem d11_12 : decode jdk_42_method_80_code 12 = .ok (.iload_n 2, 1) := by decide +kernel
theorem d11_13 : decode jdk_42_method_80_code 13 = .ok (.aload_n 0, 1) := by decide +kernel
theorem d11_14 : decode jdk_42_method_80_code 14 = .ok (.invokevirtual 505, 3) := by decide +kernel
theorem d11_17 : decode jdk_42_method_80_code 17 = .ok (.invokestatic 637, 3) := by decide +kernel
theorem d11_20 : decode jdk_42_method_80_code 20 = .ok (.goto 16, 3) := by decide +kernel
theorem d11_36 : decode jdk_42_method_80_code 36 = .ok (.ireturn, 1) := by decide +kernel
theorem d12_0 : decode jdk_42_method_154_code 0 = .ok (.getstatic 38, 3) := by decide +kernel
theorem d12_3 : decode jdk_42_method_154_code 3 = .ok (.ifCond .eq 14, 3) := by decide +kernel
theorem d12_6 : decode jdk_42_method_154_code 6 = .ok (.aload_n 0, 1) := by decide +kernel
theorem d12_7 : decode jdk_42_method_154_code 7 = .ok (.getfield 15, 3) := by decide +kernel
theorem d12_10 : decode jdk_42_method_154_code 10 = .ok (.ifCond .ne 7, 3) := by decide +kernel
theorem d12_13 : decode jdk_42_method_154_code 13 = .ok (.iconst 1, 1) := by decide +kernel
theorem d12_14 : decode jdk_42_method_154_code 14 = .ok (.goto 4, 3) := by decide +kernel
theorem d12_18 : decode jdk_42_method_154_code 18 = .ok (.ireturn, 1) := by decide +kernel
theorem d13_0 : decode jdk_42_method_54_code 0 = .ok (.aload_n 0, 1) := by decide +kernel
theorem d13_1 : decode jdk_42_method_54_code 1 = .ok (.getfield 9, 3) := by decide +kernel
theorem d13_4 : decode jdk_42_method_54_code 4 = .ok (.arraylength, 1) := by decide +kernel
theorem d13_5 : decode jdk_42_method_54_code 5 = .ok (.aload_n 0, 1) := by decide +kernel
theorem d13_6 : decode jdk_42_method_54_code 6 = .ok (.invokevirtual 335, 3) := by decide +kernel
theorem d13_9 : decode jdk_42_method_54_code 9 = .ok (.ishr, 1) := by decide +kernel
theorem d13_10 : decode jdk_42_method_54_code 10 = .ok (.ireturn, 1) := by decide +kernel
theorem d14_0 : decode jdk_42_method_152_code 0 = .ok (.getstatic 38, 3) := by decide +kernel
theorem d14_3 : decode jdk_42_method_152_code 3 = .ok (.ifCond .eq 10, 3) := by decide +kernel
theorem d14_6 : decode jdk_42_method_152_code 6 = .ok (.aload_n 0, 1) := by decide +kernel
theorem d14_7 : decode jdk_42_method_152_code 7 = .ok (.getfield 15, 3) := by decide +kernel
theorem d14_10 : decode jdk_42_method_152_code 10 = .ok (.goto 4, 3) := by decide +kernel
theorem d14_14 : decode jdk_42_method_152_code 14 = .ok (.ireturn, 1) := by decide +kernel
theorem d15_0 : decode jdk_43_method_22_code 0 = .ok (.iload_n 1, 1) := by decide +kernel
theorem d15_1 : decode jdk_43_method_22_code 1 = .ok (.invokestatic 88, 3) := by decide +kernel
theorem d15_4 : decode jdk_43_method_22_code 4 = .ok (.ifCond .ne 5, 3) := by decide +kernel
theorem d15_9 : decode jdk_43_method_22_code 9 = .ok (.iload_n 2, 1) := by decide +kernel
theorem d15_10 : decode jdk_43_method_22_code 10 = .ok (.iconst 0, 1) := by decide +kernel
theorem d15_11 : decode jdk_43_method_22_code 11 = .ok (.invokestatic 92, 3) := by decide +kernel
theorem d15_14 : decode jdk_43_method_22_code 14 = .ok (.istore_n 2, 1) := by decide +kernel
theorem d15_15 : decode jdk_43_method_22_code 15 = .ok (.iload_n 3, 1) := by decide +kernel
theorem d15_16 : decode jdk_43_method_22_code 16 = .ok (.aload_n 0, 1) := by decide +kernel
theorem d15_17 : decode jdk_43_method_22_code 17 = .ok (.arraylength, 1) := by decide +kernel
theorem d15_18 : decode jdk_43_method_22_code 18 = .ok (.invokestatic 38, 3) := by decide +kernel
theorem d15_21 : decode jdk_43_method_22_code 21 = .ok (.istore_n 3, 1) := by decide +kernel
theorem d15_22 : decode jdk_43_method_22_code 22 = .ok (.iload_n 2, 1) := by decide +kernel
theorem d15_23 : decode jdk_43_method_22_code 23 = .ok (.iload_n 3, 1) := by decide +kernel
theorem d15_24 : decode jdk_43_method_22_code 24 = .ok (.if_icmp .lt 5, 3) := by decide +kernel
theorem d15_29 : decode jdk_43_method_22_code 29 = .ok (.aload_n 0, 1) := by decide +kernel
theorem d15_30 : decode jdk_43_method_22_code 30 = .ok (.iload_n 1, 1) := by decide +kernel
theorem d15_31 : decode jdk_43_method_22_code 31 = .ok (.iload_n 2, 1) := by decide +kernel
theorem d15_32 : decode jdk_43_method_22_code 32 = .ok (.iload_n 3, 1) := by decide +kernel
theorem d15_33 : decode jdk_43_method_22_code 33 = .ok (.invokestatic 95, 3) := by decide +kernel
theorem d15_36 : decode jdk_43_method_22_code 36 = .ok (.ireturn, 1) := by decide +kernel
theorem d16_0 : decode jdk_43_method_4_code 0 = .ok (.iload_n 0, 1) := by decide +kernel
theorem d16_1 : decode jdk_43_method_4_code 1 = .ok (.ifCond .lt 14, 3) := by decide +kernel
theorem d16_4 : decode jdk_43_method_4_code 4 = .ok (.iload_n 0, 1) := by decide +kernel
theorem d16_5 : decode jdk_43_method_4_code 5 = .ok (.sipush 255, 3) := by decide +kernel
theorem d16_8 : decode jdk_43_method_4_code 8 = .ok (.if_icmp .gt 7, 3) := by decide +kernel
theorem d16_11 : decode jdk_43_method_4_code 11 = .ok (.iconst 1, 1) := by decide +kernel
theorem d16_12 : decode jdk_43_method_4_code 12 = .ok (.goto 4, 3) := by decide +kernel
theorem d16_16 : decode jdk_43_method_4_code 16 = .ok (.ireturn, 1) := by decide +kernel
theorem d17_0 : decode jdk_29_method_65_code 0 = .ok (.iload_n 0, 1) := by decide +kernel
theorem d17_1 : decode jdk_29_method_65_code 1 = .ok (.iload_n 1, 1) := by decide +kernel
theorem d17_2 : decode jdk_29_method_65_code 2 = .ok (.if_icmp .lt 7, 3) := by decide +kernel
theorem d17_5 : decode jdk_29_method_65_code 5 = .ok (.iload_n 0, 1) := by decide +kernel
theorem d17_6 : decode jdk_29_method_65_code 6 = .ok (.goto 4, 3) := by decide +kernel
theorem d17_9 : decode jdk_29_method_65_code 9 = .ok (.iload_n 1, 1) := by decide +kernel
theorem d17_10 : decode jdk_29_method_65_code 10 = .ok (.ireturn, 1) := by decide +kernel
theorem d18_0 : decode jdk_29_method_69_code 0 = .ok (.iload_n 0, 1) := by decide +kernel
theorem d18_1 : decode jdk_29_method_69_code 1 = .ok (.iload_n 1, 1) := by decide +kernel
theorem d18_2 : decode jdk_29_method_69_code 2 = .ok (.if_icmp .gt 7, 3) := by decide +kernel
theorem d18_5 : decode jdk_29_method_69_code 5 = .ok (.iload_n 0, 1) := by decide +kernel
theorem d18_6 : decode jdk_29_method_69_code 6 = .ok (.goto 4, 3) := by decide +kernel
theorem d18_9 : decode jdk_29_method_69_code 9 = .ok (.iload_n 1, 1) := by decide +kernel
theorem d18_10 : decode jdk_29_method_69_code 10 = .ok (.ireturn, 1) := by decide +kernel
theorem d19_0 : decode jdk_43_method_23_code 0 = .ok (.iload_n 1, 1) := by decide +kernel
theorem d19_1 : decode jdk_43_method_23_code 1 = .ok (.i2b, 1) := by decide +kernel
theorem d19_2 : decode jdk_43_method_23_code 2 = .ok (.istore 4, 2) := by decide +kernel
theorem d19_4 : decode jdk_43_method_23_code 4 = .ok (.iload_n 2, 1) := by decide +kernel
theorem d19_5 : decode jdk_43_method_23_code 5 = .ok (.istore 5, 2) := by decide +kernel
theorem d19_7 : decode jdk_43_method_23_code 7 = .ok (.iload 5, 2) := by decide +kernel
theorem d19_9 : decode jdk_43_method_23_code 9 = .ok (.iload_n 3, 1) := by decide +kernel
theorem d19_10 : decode jdk_43_method_23_code 10 = .ok (.if_icmp .ge 21, 3) := by decide +kernel
theorem d19_13 : decode jdk_43_method_23_code 13 = .ok (.aload_n 0, 1) := by decide +kernel
theorem d19_14 : decode jdk_43_method_23_code 14 = .ok (.iload 5, 2) := by decide +kernel
theorem d19_16 : decode jdk_43_method_23_code 16 = .ok (.baload, 1) := by decide +kernel
theorem d19_17 : decode jdk_43_method_23_code 17 = .ok (.iload 4, 2) := by decide +kernel
theorem d19_19 : decode jdk_43_method_23_code 19 = .ok (.if_icmp .ne 6, 3) := by decide +kernel
theorem d19_22 : decode jdk_43_method_23_code 22 = .ok (.iload 5, 2) := by decide +kernel
theorem d19_24 : decode jdk_43_method_23_code 24 = .ok (.ireturn, 1) := by decide +kernel
theorem d19_25 : decode jdk_43_method_23_code 25 = .ok (.iinc 5 1, 3) := by decide +kernel
theorem d19_28 : decode jdk_43_method_23_code 28 = .ok (.goto (-21), 3) := by decide +kernel
theorem d19_31 : decode jdk_43_method_23_code 31 = .ok (.iconst (-1), 1) := by decide +kernel
theorem d19_32 : decode jdk_43_method_23_code 32 = .ok (.ireturn, 1) := by decide +kernel
theorem d20_0 : decode jdk_42_method_56_code 0 = .ok (.aload_n 0, 1) := by decide +kernel
theorem d20_1 : decode jdk_42_method_56_code 1 = .ok (.invokevirtual 492, 3) := by decide +kernel
theorem d20_4 : decode jdk_42_method_56_code 4 = .ok (.ifCond .eq 12, 3) := by decide +kernel
theorem d20_7 : decode jdk_42_method_56_code 7 = .ok (.aload_n 0, 1) := by decide +kernel
theorem d20_8 : decode jdk_42_method_56_code 8 = .ok (.getfield 9, 3) := by decide +kernel
theorem d20_11 : decode jdk_42_method_56_code 11 = .ok (.iload_n 1, 1) := by decide +kernel
theorem d20_12 : decode jdk_42_method_56_code 12 = .ok (.invokestatic 495, 3) := by decide +kernel
theorem d20_15 : decode jdk_42_method_56_code 15 = .ok (.ireturn, 1) := by decide +kernel
theorem d21_0 : decode jdk_43_method_2_code 0 = .ok (.iload_n 1, 1) := by decide +kernel
theorem d21_1 : decode jdk_43_method_2_code 1 = .ok (.aload_n 0, 1) := by decide +kernel
theorem d21_2 : decode jdk_43_method_2_code 2 = .ok (.arraylength, 1) := by decide +kernel
theorem d21_3 : decode jdk_43_method_2_code 3 = .ok (.invokestatic 9, 3) := by decide +kernel
theorem d21_6 : decode jdk_43_method_2_code 6 = .ok (.aload_n 0, 1) := by decide +kernel
theorem d21_7 : decode jdk_43_method_2_code 7 = .ok (.iload_n 1, 1) := by decide +kernel
theorem d21_8 : decode jdk_43_method_2_code 8 = .ok (.baload, 1) := by decide +kernel
theorem d21_9 : decode jdk_43_method_2_code 9 = .ok (.sipush 255, 3) := by decide +kernel
theorem d21_12 : decode jdk_43_method_2_code 12 = .ok (.iand, 1) := by decide +kernel
theorem d21_13 : decode jdk_43_method_2_code 13 = .ok (.i2c, 1) := by decide +kernel
theorem d21_14 : decode jdk_43_method_2_code 14 = .ok (.ireturn, 1) := by decide +kernel
theorem d22_0 : decode jdk_42_method_155_code 0 = .ok (.iload_n 0, 1) := by decide +kernel
theorem d22_1 : decode jdk_42_method_155_code 1 = .ok (.iload_n 1, 1) := by decide +kernel
theorem d22_2 : decode jdk_42_method_155_code 2 = .ok (.getstatic 1053, 3) := by decide +kernel
theorem d22_5 : decode jdk_42_method_155_code 5 = .ok (.invokestatic 1059, 3) := by decide +kernel
theorem d22_8 : decode jdk_42_method_155_code 8 = .ok (.pop, 1) := by decide +kernel
theorem d22_9 : decode jdk_42_method_155_code 9 = .ok (.return_, 1) := by decide +kernel
theorem d23_0 : decode jdk_41_method_11_code 0 = .ok (.iload_n 0, 1) := by decide +kernel
theorem d23_1 : decode jdk_41_method_11_code 1 = .ok (.ifCond .lt 8, 3) := by decide +kernel
theorem d23_4 : decode jdk_41_method_11_code 4 = .ok (.iload_n 0, 1) := by decide +kernel
theorem d23_5 : decode jdk_41_method_11_code 5 = .ok (.iload_n 1, 1) := by decide +kernel
theorem d23_6 : decode jdk_41_method_11_code 6 = .ok (.if_icmp .lt 10, 3) := by decide +kernel
theorem d23_16 : decode jdk_41_method_11_code 16 = .ok (.iload_n 0, 1) := by decide +kernel
theorem d23_17 : decode jdk_41_method_11_code 17 = .ok (.ireturn, 1) := by decide +kernel
theorem d24_0 : decode prog_13_method_2_code 0 = .ok (.aload_n 0, 1) := by decide +kernel
theorem d24_1 : decode prog_13_method_2_code 1 = .ok (.getfield 13, 3) := by decide +kernel
theorem d24_4 : decode prog_13_method_2_code 4 = .ok (.aload_n 0, 1) := by decide +kernel
theorem d24_5 : decode prog_13_method_2_code 5 = .ok (.getfield 7, 3) := by decide +kernel
theorem d24_8 : decode prog_13_method_2_code 8 = .ok (.invokevirtual 17, 3) := by decide +kernel
theorem d24_11 : decode prog_13_method_2_code 11 = .ok (.if_icmp .ge 7, 3) := by decide +kernel
theorem d24_14 : decode prog_13_method_2_code 14 = .ok (.iconst 1, 1) := by decide +kernel
theorem d24_15 : decode prog_13_method_2_code 15 = .ok (.goto 4, 3) := by decide +kernel
theorem d24_18 : decode prog_13_method_2_code 18 = .ok (.iconst 0, 1) := by decide +kernel
theorem d24_19 : decode prog_13_method_2_code 19 = .ok (.ireturn, 1) := by decide +kernel
theorem pd0 : parseMethodDescriptor "(I)I" = some ⟨[.int], some .int⟩ := by decide +kernel
theorem pd1 : parseMethodDescriptor "()B" = some ⟨[], some .byte⟩ := by decide +kernel
theorem pd2 : parseMethodDescriptor "(IILjava/util/function/BiFunction;)I" = some ⟨[.int, .int, (.object "java/util/function/BiFunction")], some .int⟩ := by decide +kernel
theorem pd3 : parseMethodDescriptor "(II)V" = some ⟨[.int, .int], none⟩ := by decide +kernel
theorem pd4 : parseMethodDescriptor "()Z" = some ⟨[], some .boolean⟩ := by decide +kernel
theorem pd5 : parseMethodDescriptor "([BI)C" = some ⟨[(.array .byte), .int], some .char⟩ := by decide +kernel
theorem pd6 : parseMethodDescriptor "(I)Z" = some ⟨[.int], some .boolean⟩ := by decide +kernel
theorem pd7 : parseMethodDescriptor "(II)I" = some ⟨[.int, .int], some .int⟩ := by decide +kernel
theorem pd8 : parseMethodDescriptor "([BIII)I" = some ⟨[(.array .byte), .int, .int, .int], some .int⟩ := by decide +kernel
theorem pd9 : parseMethodDescriptor "()I" = some ⟨[], some .int⟩ := by decide +kernel
theorem pd10 : parseMethodDescriptor "([CI[BII)I" = some ⟨[(.array .char), .int, (.array .byte), .int, .int], some .int⟩ := by decide +kernel
theorem pd11 : parseMethodDescriptor "([CII)[B" = some ⟨[(.array .char), .int, .int], some (.array .byte)⟩ := by decide +kernel
theorem pd12 : parseMethodDescriptor "([BI)B" = some ⟨[(.array .byte), .int], some .byte⟩ := by decide +kernel
theorem pd13 : parseMethodDescriptor "([CIILjava/lang/Void;)V" = some ⟨[(.array .char), .int, .int, (.object "java/lang/Void")], none⟩ := by decide +kernel
theorem pd14 : parseMethodDescriptor "(I)C" = some ⟨[.int], some .char⟩ := by decide +kernel
theorem pd15 : parseMethodDescriptor "(IIIIJ)C" = some ⟨[.int, .int, .int, .int, .long], some .char⟩ := by decide +kernel
theorem pd16 : parseMethodDescriptor "([C)V" = some ⟨[(.array .char)], none⟩ := by decide +kernel
theorem pd17 : parseMethodDescriptor "(Ljava/lang/String;I)V" = some ⟨[(.object "java/lang/String"), .int], none⟩ := by decide +kernel
theorem pd18 : parseMethodDescriptor "(Ljava/lang/String;)I" = some ⟨[(.object "java/lang/String")], some .int⟩ := by decide +kernel

/-- a String of n chars, each 0 to 255: its byte array at b spells them -/
def Str (Z : State) (h : Heap) (s b : Addr) (k : ClassId) (n : Nat) (f : Nat → Int32) : Prop :=
  Exa Z h s "java/lang/String" ∧ Fld Z h s "java/lang/String" "coder" "B" (.int 0) ∧ Fld Z h s "java/lang/String" "value" "[B" (.ref b) ∧ Arf Z h b k .byte n (fun i => .int (f i))
section StrS
variable {Z : State} {h h' : Heap} {s b a : Addr} {k : ClassId} {n sl : Nat} {f : Nat → Int32} {v : Value} {ws : List Addr}
theorem Str.ext (F : Str Z h s b k n f) (E : Ext h h') : Str Z h' s b k n f := ⟨F.1.ext E, F.2.1.ext E, F.2.2.1.ext E, F.2.2.2.ext E⟩
theorem Str.other (F : Str Z h s b k n f) (W : Wr h h' a sl v) (q : s ≠ a) (q' : b ≠ a) : Str Z h' s b k n f := ⟨F.1.wr W, F.2.1.other W (Or.inl q), F.2.2.1.other W (Or.inl q), F.2.2.2.other W q'⟩
theorem Str.keep (F : Str Z h s b k n f) (K : Keep h h' ws) (q : s ∉ ws) (q' : b ∉ ws) : Str Z h' s b k n f := ⟨F.1.keep K, F.2.1.keep K q, F.2.2.1.keep K q, F.2.2.2.keep K q'⟩
theorem Str.lt (F : Str Z h s b k n f) : s < h.size := F.1.lt
theorem Str.lt' (F : Str Z h s b k n f) : b < h.size := F.2.2.2.lt
end StrS
theorem step_set {α : Type} {g : Nat → α} {f : Nat → α} (x : Nat) (j : Int) (h : 0 ≤ j) : (if x = j.toNat then f j.toNat else if x < j.toNat then f x else g x) = if x < (j + 1).toNat then f x else g x := by
  rcases Nat.lt_trichotomy x j.toNat with q | q | q
  · rw [if_neg (by omega), if_pos q, if_pos (by omega)]
  · rw [if_pos q, if_pos (by omega), q]
  · rw [if_neg (by omega), if_neg (by omega), if_neg (by omega)]
theorem byte_inj {x y : Int32} (h1 : 0 ≤ x.toInt) (h2 : x.toInt ≤ 255) (h3 : 0 ≤ y.toInt) (h4 : y.toInt ≤ 255) (e : x.toInt8.toInt32 = y.toInt8.toInt32) : x = y := by
  have a := c_i2b x; have b := c_i2b y; rw [e] at a; exact of_toInt (by omega)

theorem shr0 (z : Int32) : z >>> ((0 : Int32) &&& 31) = z := of_toInt (by rw [c_ishr z 0 0 (by decide)]; simp)
theorem chr_of (b : Int32) : ((b &&& 255).toUInt32.toUInt16.toUInt32.toInt32).toInt = b.toInt % 256 := by
  have h1 := c_mask b 255 8 (by decide) (by decide)
  have h2 := c_i2c (b &&& 255)
  omega
theorem nr_char {r : Int32} (h1 : 0 ≤ r.toInt) (h2 : r.toInt < 65536) : narrow .char (.int r) = .int r := congrArg Value.int (of_toInt (by have := c_i2c r; omega))
theorem nr_i2c (x : Int32) : narrow .char (.int (x.toUInt32.toUInt16.toUInt32.toInt32)) = .int (x.toUInt32.toUInt16.toUInt32.toInt32) := nr_char (c_i2c x).2.1 (c_i2c x).2.2
theorem chr_byte {x : Int32} (h1 : 0 ≤ x.toInt) (h2 : x.toInt ≤ 255) : (x.toInt8.toInt32).toInt % 256 = x.toInt := by have := c_i2b x; omega
theorem s_isRef {s : State} {args : Array Value} {CC n d : String} (h0 : (Cond.initializedFor CC n d).before args s = true) (h1 : (Cond.isRef (Term.static CC n d)).before args s = true) : ∃ v : Value, Sta s s.heap CC n d v ∧ v.isRef = true := by
  obtain ⟨x, ev, hr⟩ := Cond.isRef_spec h1
  exact ⟨x, Sta.start ev (Or.inl h0), hr⟩

theorem pw_pos (k : Nat) : 0 < 10 ^ k := Nat.pow_pos (by decide)
theorem digit_step (V a k : Nat) : (V / 10 ^ (a + 1) % 10 ^ k) * 10 + V / 10 ^ a % 10 = V / 10 ^ a % 10 ^ (k + 1) := by
  rw [show 10 ^ (k + 1) = 10 * 10 ^ k by rw [Nat.pow_succ, Nat.mul_comm], Nat.mod_mul, Nat.pow_succ, ← Nat.div_div_eq_div_mul]
  omega
theorem val_le (V a k : Nat) : V / 10 ^ a % 10 ^ k ≤ V := Nat.le_trans (Nat.mod_le _ _) (Nat.div_le_self _ _)
theorem lmul_toInt {x y : Int64} (h1 : -9223372036854775808 ≤ x.toInt * y.toInt) (h2 : x.toInt * y.toInt < 9223372036854775808) : (x * y).toInt = x.toInt * y.toInt := by
  have := c_lmul x y; have := rgL (x * y); omega
theorem dig_int (v r : Int32) (V P : Nat) (hv : v.toInt = V) (hr : r.toInt = P) (hP : 0 < P) : ((48 : Int32) + (v / r) % 10).toUInt32.toUInt16.toUInt32.toInt32.toInt = ((48 + V / P % 10 : Nat) : Int) := by
  have e1 := (c_idiv v r P hr (by intro q; rw [q] at hr; rw [show (-1 : Int32).toInt = -1 from rfl] at hr; omega)).1 (by omega)
  have e2 := (c_irem (v / r) 10 10 rfl).1 (by rw [e1, hv]; exact Int.ofNat_nonneg _)
  rw [e1, hv] at e2
  have e3 : ((v / r) % 10).toInt = ((V / P % 10 : Nat) : Int) := by rw [e2]; simp
  have e4 : (48 : Int32).toInt = 48 := rfl
  have e5 := Nat.mod_lt (V / P) (show 0 < 10 by decide)
  have e6 : ((48 : Int32) + (v / r) % 10).toInt = 48 + ((V / P % 10 : Nat) : Int) := by rw [iadd_toInt (by omega) (by omega), e3, e4]
  have e7 := c_i2c ((48 : Int32) + (v / r) % 10)
  omega

theorem pn_2 : plainFor (⟨"com/example/libinvariant/libinvariant/aiger/LineFieldsNextPinLaw", "pow10", "(I)I"⟩ : MethodName) = true := plainFor_of_name (by first | (simp [plainName, overriddenIn]; done) | decide +kernel)
set_option maxRecDepth 65536 in
set_option maxHeartbeats 40000000 in
theorem pow10 {Z : State} {a0 : Array Value} (hw : HW a0 Z) (z : Int32) (k : Nat) (h0 : Heap) (n0 : Nat) (hz : z.toInt = k) (hk : k ≤ 9) (O : Old Z n0 h0) :
    MetW Z (⟨"com/example/libinvariant/libinvariant/aiger/LineFieldsNextPinLaw", "pow10", "(I)I"⟩ : MethodName) method_3_code 2 (some .int) [] ({ frames := 0, cells := 1, slots := 10, locals := 0 } : Room) #[(.int z)] h0 n0 (fun v h => ∃ r : Int32, v = some (.int r) ∧ Keep h0 h [] ∧ r.toInt = ((10 ^ k : Nat) : Int)) := by
  refine k_body (f := (fun m => mkF m 0 #[.val (.int z), .unset] [])) pn_2 (fun m => by first | (simp [entryFrame, mkF, argsToLocals, Value.category, maxLocals]; done) | rfl) ?_
  intro Γ T G X
  have KP := Keep.refl h0 []
  show Go Γ n0 _ T (mkF Γ.m 0 #[.val (.int z), .unset] [])
  refine k_bipush G X d2_0 (pc' := 2) rfl (z := (10 : Int32)) (by decide) ?_
  refine k_newP G X (aty := .int) (n := 10) (cap := 10) (w9 hw) d2_2 (pc' := 4) rfl rfl (by decide) (by decide) (by decide) (by decide) (fun T h2 b2 k2 s_b2 E2 A_b2 X => ?_)
  have ge_b2 : n0 ≤ b2 := Nat.le_trans (Jvm.OwnK.Old_le O) (Nat.le_of_eq s_b2)
  have sz_b2 : h0.size ≤ b2 := Nat.le_trans KP.1 (Nat.le_of_eq s_b2)
  replace O := O.ext E2
  replace KP := KP.ext E2
  replace A_b2 : Arf Z h2 b2 k2 .int 10 (fun _ => (.int (0 : Int32))) := A_b2
  refine k_dup G X d2_4 (pc' := 5) rfl rfl ?_
  refine k_iconst G X d2_5 (pc' := 6) rfl (z := (0 : Int32)) (by decide) ?_
  refine k_iconst G X d2_6 (pc' := 7) rfl (z := (1 : Int32)) (by decide) ?_
  refine k_iastore G X (i := 0) (z := (1 : Int32)) A_b2 rfl (by decide) rfl ge_b2 d2_7 (pc' := 8) rfl (fun T h7 W7 A_b2 X => ?_)
  replace O := O.wr W7 ge_b2
  replace KP := KP.wr W7 (Or.inr sz_b2)
  refine k_dup G X d2_8 (pc' := 9) rfl rfl ?_
  refine k_iconst G X d2_9 (pc' := 10) rfl (z := (1 : Int32)) (by decide) ?_
  refine k_bipush G X d2_10 (pc' := 12) rfl (z := (10 : Int32)) (by decide) ?_
  refine k_iastore G X (i := 1) (z := (10 : Int32)) A_b2 rfl (by decide) rfl ge_b2 d2_12 (pc' := 13) rfl (fun T h12 W12 A_b2 X => ?_)
  replace O := O.wr W12 ge_b2
  replace KP := KP.wr W12 (Or.inr sz_b2)
  refine k_dup G X d2_13 (pc' := 14) rfl rfl ?_
  refine k_iconst G X d2_14 (pc' := 15) rfl (z := (2 : Int32)) (by decide) ?_
  refine k_bipush G X d2_15 (pc' := 17) rfl (z := (100 : Int32)) (by decide) ?_
  refine k_iastore G X (i := 2) (z := (100 : Int32)) A_b2 rfl (by decide) rfl ge_b2 d2_17 (pc' := 18) rfl (fun T h17 W17 A_b2 X => ?_)
  replace O := O.wr W17 ge_b2
  replace KP := KP.wr W17 (Or.inr sz_b2)
  refine k_dup G X d2_18 (pc' := 19) rfl rfl ?_
  refine k_iconst G X d2_19 (pc' := 20) rfl (z := (3 : Int32)) (by decide) ?_
  refine k_sipush G X d2_20 (pc' := 23) rfl (z := (1000 : Int32)) (by decide) ?_
  refine k_iastore G X (i := 3) (z := (1000 : Int32)) A_b2 rfl (by decide) rfl ge_b2 d2_23 (pc' := 24) rfl (fun T h23 W23 A_b2 X => ?_)
  replace O := O.wr W23 ge_b2
  replace KP := KP.wr W23 (Or.inr sz_b2)
  refine k_dup G X d2_24 (pc' := 25) rfl rfl ?_
  refine k_iconst G X d2_25 (pc' := 26) rfl (z := (4 : Int32)) (by decide) ?_
  refine k_sipush G X d2_26 (pc' := 29) rfl (z := (10000 : Int32)) (by decide) ?_
  refine k_iastore G X (i := 4) (z := (10000 : Int32)) A_b2 rfl (by decide) rfl ge_b2 d2_29 (pc' := 30) rfl (fun T h29 W29 A_b2 X => ?_)
  replace O := O.wr W29 ge_b2
  replace KP := KP.wr W29 (Or.inr sz_b2)
  refine k_dup G X d2_30 (pc' := 31) rfl rfl ?_
  refine k_iconst G X d2_31 (pc' := 32) rfl (z := (5 : Int32)) (by decide) ?_
  refine k_ldcI G X (w10 hw) d2_32 (pc' := 34) rfl ?_
  refine k_iastore G X (i := 5) (z := (100000 : Int32)) A_b2 rfl (by decide) rfl ge_b2 d2_34 (pc' := 35) rfl (fun T h34 W34 A_b2 X => ?_)
  replace O := O.wr W34 ge_b2
  replace KP := KP.wr W34 (Or.inr sz_b2)
  refine k_dup G X d2_35 (pc' := 36) rfl rfl ?_
  refine k_bipush G X d2_36 (pc' := 38) rfl (z := (6 : Int32)) (by decide) ?_
  refine k_ldcI G X (w11 hw) d2_38 (pc' := 40) rfl ?_
  refine k_iastore G X (i := 6) (z := (1000000 : Int32)) A_b2 rfl (by decide) rfl ge_b2 d2_40 (pc' := 41) rfl (fun T h40 W40 A_b2 X => ?_)
  replace O := O.wr W40 ge_b2
  replace KP := KP.wr W40 (Or.inr sz_b2)
  refine k_dup G X d2_41 (pc' := 42) rfl rfl ?_
  refine k_bipush G X d2_42 (pc' := 44) rfl (z := (7 : Int32)) (by decide) ?_
  refine k_ldcI G X (w12 hw) d2_44 (pc' := 46) rfl ?_
  refine k_iastore G X (i := 7) (z := (10000000 : Int32)) A_b2 rfl (by decide) rfl ge_b2 d2_46 (pc' := 47) rfl (fun T h46 W46 A_b2 X => ?_)
  replace O := O.wr W46 ge_b2
  replace KP := KP.wr W46 (Or.inr sz_b2)
  refine k_dup G X d2_47 (pc' := 48) rfl rfl ?_
  refine k_bipush G X d2_48 (pc' := 50) rfl (z := (8 : Int32)) (by decide) ?_
  refine k_ldcI G X (w13 hw) d2_50 (pc' := 52) rfl ?_
  refine k_iastore G X (i := 8) (z := (100000000 : Int32)) A_b2 rfl (by decide) rfl ge_b2 d2_52 (pc' := 53) rfl (fun T h52 W52 A_b2 X => ?_)
  replace O := O.wr W52 ge_b2
  replace KP := KP.wr W52 (Or.inr sz_b2)
  refine k_dup G X d2_53 (pc' := 54) rfl rfl ?_
  refine k_bipush G X d2_54 (pc' := 56) rfl (z := (9 : Int32)) (by decide) ?_
  refine k_ldcI G X (w14 hw) d2_56 (pc' := 58) rfl ?_
  refine k_iastore G X (i := 9) (z := (1000000000 : Int32)) A_b2 rfl (by decide) rfl ge_b2 d2_58 (pc' := 59) rfl (fun T h58 W58 A_b2 X => ?_)
  replace O := O.wr W58 ge_b2
  replace KP := KP.wr W58 (Or.inr sz_b2)
  refine k_astoreN G X d2_59 (pc' := 60) rfl rfl (l' := #[.val (.int z), .val (.ref b2)]) rfl ?_
  refine k_aloadN G X d2_60 (pc' := 61) rfl rfl rfl ?_
  refine k_iloadN G X d2_61 (pc' := 62) rfl rfl ?_
  obtain ⟨r, hr, hr10⟩ : ∃ r : Int32, ((fun x => if x = 9 then (.int (1000000000 : Int32)) else (fun x => if x = 8 then (.int (100000000 : Int32)) else (fun x => if x = 7 then (.int (10000000 : Int32)) else (fun x => if x = 6 then (.int (1000000 : Int32)) else (fun x => if x = 5 then (.int (100000 : Int32)) else (fun x => if x = 4 then (.int (10000 : Int32)) else (fun x => if x = 3 then (.int (1000 : Int32)) else (fun x => if x = 2 then (.int (100 : Int32)) else (fun x => if x = 1 then (.int (10 : Int32)) else (fun x => if x = 0 then (.int (1 : Int32)) else (fun _ => (.int (0 : Int32))) x) x) x) x) x) x) x) x) x) x) : Nat → Value) k = .int r ∧ r.toInt = ((10 ^ k : Nat) : Int) := by
    obtain rfl | rfl | rfl | rfl | rfl | rfl | rfl | rfl | rfl | rfl : k = 0 ∨ k = 1 ∨ k = 2 ∨ k = 3 ∨ k = 4 ∨ k = 5 ∨ k = 6 ∨ k = 7 ∨ k = 8 ∨ k = 9 := by omega
    all_goals exact ⟨_, rfl, by decide⟩
  refine k_iaload G X (i := k) (v := (.int r)) A_b2 hz (by omega) hr d2_62 (pc' := 63) rfl ?_
  refine k_reti G X d2_63 rfl ?_ (by decide) (by decide)
  exact ⟨r, rfl, KP, hr10⟩
theorem pn_1 : plainFor (⟨"com/example/libinvariant/libinvariant/aiger/LineFieldsNextPinLaw", "ch", "(IIIIJ)C"⟩ : MethodName) = true := plainFor_of_name (by first | (simp [plainName, overriddenIn]; done) | decide +kernel)
set_option maxRecDepth 65536 in
set_option maxHeartbeats 40000000 in
theorem chr {Z : State} {a0 : Array Value} (hw : HW a0 Z) (zi zo zl zv : Int32) (q : Int64) (i o len V : Nat) (h0 : Heap) (n0 : Nat) (hi : zi.toInt = i) (ho : zo.toInt = o) (hl : zl.toInt = len) (hv : zv.toInt = V) (hi9 : i ≤ 10) (ho9 : o ≤ 1) (hl1 : 1 ≤ len) (hl9 : len ≤ 10) (O : Old Z n0 h0) :
    MetW Z (⟨"com/example/libinvariant/libinvariant/aiger/LineFieldsNextPinLaw", "ch", "(IIIIJ)C"⟩ : MethodName) method_4_code 6 (some .char) [] ({ frames := 1, cells := 1, slots := 10, locals := 15 } : Room) #[(.int zi), (.int zo), (.int zl), (.int zv), (.long q)] h0 n0 (fun v h => ∃ r : Int32, v = some (.int r) ∧ Keep h0 h [] ∧ 0 ≤ r.toInt ∧ r.toInt ≤ 255 ∧ (o ≤ i → i < o + len → r.toInt = ((48 + V / 10 ^ (o + len - 1 - i) % 10 : Nat) : Int)) ∧ (i = o + len → r.toInt = 32)) := by
  refine k_body (f := (fun m => mkF m 0 #[.val (.int zi), .val (.int zo), .val (.int zl), .val (.int zv), .val (.long q), .second] [])) pn_1 (fun m => by first | (simp [entryFrame, mkF, argsToLocals, Value.category, maxLocals]; done) | rfl) ?_
  intro Γ T G X
  have KP := Keep.refl h0 []
  have e1 : (1 : Int32).toInt = 1 := rfl
  have hol : (zo + zl).toInt = (o + len : Nat) := by rw [iadd_toInt (by omega) (by omega)]; omega
  have hol1 : ((zo + zl) - (1 : Int32)).toInt = o + len - 1 := by rw [isub_toInt (by omega) (by omega)]; omega
  have hk_ : (((zo + zl) - (1 : Int32)) - zi).toInt = o + len - 1 - i := by rw [isub_toInt (by omega) (by omega)]; omega
  show Go Γ n0 _ T (mkF Γ.m 0 #[.val (.int zi), .val (.int zo), .val (.int zl), .val (.int zv), .val (.long q), .second] [])
  refine k_iloadN G X d1_0 (pc' := 1) rfl rfl ?_
  refine k_iloadN G X d1_1 (pc' := 2) rfl rfl ?_
  refine k_icmp_lt G X d1_2 (pc' := 12) rfl (by decide) (pc'' := 5) rfl (fun c2 => ?_) (fun c2 => ?_)
  · refine k_lload G X d1_12 (pc' := 14) rfl rfl ?_
    refine k_bipush G X d1_14 (pc' := 16) rfl (z := (6 : Int32)) (by decide) ?_
    refine k_iloadN G X d1_16 (pc' := 17) rfl rfl ?_
    refine k_imul G X d1_17 (pc' := 18) rfl rfl ?_
    refine k_lushr G X d1_18 (pc' := 19) rfl rfl ?_
    refine k_ldcL G X (w15 hw) d1_19 (pc' := 22) rfl ?_
    refine k_land G X d1_22 (pc' := 23) rfl rfl ?_
    refine k_l2i G X d1_23 (pc' := 24) rfl rfl ?_
    refine k_i2c G X d1_24 (pc' := 25) rfl rfl ?_
    refine k_retb G X d1_25 (t := .char) rfl (by simp) (nr_i2c _) ?_ (by decide) (by decide)
    have m1 := c_maskL ((q.toUInt64 >>> (((6 : Int32) * zi) &&& 0x3f).toInt64.toUInt64).toInt64) 255 8 (by decide) (by decide)
    have m2 := c_l2i (((q.toUInt64 >>> (((6 : Int32) * zi) &&& 0x3f).toInt64.toUInt64).toInt64) &&& 255)
    have m3 := c_i2c ((((q.toUInt64 >>> (((6 : Int32) * zi) &&& 0x3f).toInt64.toUInt64).toInt64) &&& 255).toInt32)
    have m4 := rgI ((((q.toUInt64 >>> (((6 : Int32) * zi) &&& 0x3f).toInt64.toUInt64).toInt64) &&& 255).toInt32)
    exact ⟨_, rfl, KP, by omega, by omega, fun _ _ => by omega, fun _ => by omega⟩
  · refine k_iloadN G X d1_5 (pc' := 6) rfl rfl ?_
    refine k_iloadN G X d1_6 (pc' := 7) rfl rfl ?_
    refine k_iloadN G X d1_7 (pc' := 8) rfl rfl ?_
    refine k_iadd G X d1_8 (pc' := 9) rfl rfl ?_
    refine k_icmp_le G X d1_9 (pc' := 26) rfl (by decide) (pc'' := 12) rfl (fun c9 => ?_) (fun c9 => ?_)
    · refine k_iloadN G X d1_26 (pc' := 27) rfl rfl ?_
      refine k_iloadN G X d1_27 (pc' := 28) rfl rfl ?_
      refine k_iloadN G X d1_28 (pc' := 29) rfl rfl ?_
      refine k_iadd G X d1_29 (pc' := 30) rfl rfl ?_
      refine k_icmp_ne G X d1_30 (pc' := 36) rfl (by decide) (pc'' := 33) rfl (fun c30 => ?_) (fun c30 => ?_)
      · have hne : i ≠ o + len := fun q => c30 (of_toInt (by rw [hol]; omega))
        refine k_bipush G X d1_36 (pc' := 38) rfl (z := (48 : Int32)) (by decide) ?_
        refine k_iloadN G X d1_38 (pc' := 39) rfl rfl ?_
        refine k_iloadN G X d1_39 (pc' := 40) rfl rfl ?_
        refine k_iloadN G X d1_40 (pc' := 41) rfl rfl ?_
        refine k_iadd G X d1_41 (pc' := 42) rfl rfl ?_
        refine k_iconst G X d1_42 (pc' := 43) rfl (z := (1 : Int32)) (by decide) ?_
        refine k_isub G X d1_43 (pc' := 44) rfl rfl ?_
        refine k_iloadN G X d1_44 (pc' := 45) rfl rfl ?_
        refine k_isub G X d1_45 (pc' := 46) rfl rfl ?_
        refine k_callS G X (argsL := [(.int (((zo + zl) - (1 : Int32)) - zi))]) (rest := [(.int zv), (.int (48 : Int32))]) rfl (w6 hw) (w7 hw) (w4 hw) (w8 hw) (by decide) (pow10 hw (((zo + zl) - (1 : Int32)) - zi) (o + len - 1 - i) h0 n0 (by omega) (by omega) O) d1_46 pd0 rfl (pc' := 49) rfl rfl (wd := 2) rfl (by decide) (by decide) (by decide) (by decide) (fun T h46 v X q => ?_)
        obtain ⟨p10, rfl, K46, hp10⟩ := q
        replace O := O.keep K46 (all0)
        replace KP := KP.trans K46 (all0)
        show Go Γ n0 _ T (mkF Γ.m 49 #[.val (.int zi), .val (.int zo), .val (.int zl), .val (.int zv), .val (.long q), .second] [(.int p10), (.int zv), (.int (48 : Int32))])
        refine k_idiv G X d1_49 (pc' := 50) rfl (by intro q; rw [q] at hp10; rw [z32] at hp10; have := pw_pos (o + len - 1 - i); omega) rfl ?_
        refine k_bipush G X d1_50 (pc' := 52) rfl (z := (10 : Int32)) (by decide) ?_
        refine k_irem G X d1_52 (pc' := 53) rfl (by decide) rfl ?_
        refine k_iadd G X d1_53 (pc' := 54) rfl rfl ?_
        refine k_i2c G X d1_54 (pc' := 55) rfl rfl ?_
        refine k_retb G X d1_55 (t := .char) rfl (by simp) (nr_i2c _) ?_ (by decide) (by decide)
        have m1 := dig_int zv p10 V _ hv hp10 (pw_pos _)
        have m2 := Nat.mod_lt (V / 10 ^ (o + len - 1 - i)) (show 0 < 10 by decide)
        exact ⟨_, rfl, KP, by omega, by omega, fun _ _ => m1, fun q => absurd (of_toInt (by rw [hol]; omega)) c30⟩
      · refine k_bipush G X d1_33 (pc' := 35) rfl (z := (32 : Int32)) (by decide) ?_
        refine k_retb G X d1_35 (t := .char) rfl (by simp) rfl ?_ (by decide) (by decide)
        exact ⟨_, rfl, KP, by decide, by decide, fun _ q => by have := congrArg Int32.toInt c30; omega, fun _ => by rfl⟩
    · refine k_lload G X d1_12 (pc' := 14) rfl rfl ?_
      refine k_bipush G X d1_14 (pc' := 16) rfl (z := (6 : Int32)) (by decide) ?_
      refine k_iloadN G X d1_16 (pc' := 17) rfl rfl ?_
      refine k_imul G X d1_17 (pc' := 18) rfl rfl ?_
      refine k_lushr G X d1_18 (pc' := 19) rfl rfl ?_
      refine k_ldcL G X (w15 hw) d1_19 (pc' := 22) rfl ?_
      refine k_land G X d1_22 (pc' := 23) rfl rfl ?_
      refine k_l2i G X d1_23 (pc' := 24) rfl rfl ?_
      refine k_i2c G X d1_24 (pc' := 25) rfl rfl ?_
      refine k_retb G X d1_25 (t := .char) rfl (by simp) (nr_i2c _) ?_ (by decide) (by decide)
      have m1 := c_maskL ((q.toUInt64 >>> (((6 : Int32) * zi) &&& 0x3f).toInt64.toUInt64).toInt64) 255 8 (by decide) (by decide)
      have m2 := c_l2i (((q.toUInt64 >>> (((6 : Int32) * zi) &&& 0x3f).toInt64.toUInt64).toInt64) &&& 255)
      have m3 := c_i2c ((((q.toUInt64 >>> (((6 : Int32) * zi) &&& 0x3f).toInt64.toUInt64).toInt64) &&& 255).toInt32)
      have m4 := rgI ((((q.toUInt64 >>> (((6 : Int32) * zi) &&& 0x3f).toInt64.toUInt64).toInt64) &&& 255).toInt32)
      exact ⟨_, rfl, KP, by omega, by omega, fun _ _ => by omega, fun _ => by omega⟩
theorem pn_12 : plainFor (⟨"java/lang/String", "isLatin1", "()Z"⟩ : MethodName) = true := plainFor_of_name (by first | (simp [plainName, overriddenIn]; done) | decide +kernel)
set_option maxRecDepth 65536 in
set_option maxHeartbeats 40000000 in
theorem str_lat {Z : State} {a0 : Array Value} (hw : HW a0 Z) (s b : Addr) (k : ClassId) (n : Nat) (z cs : Int32) (f : Nat → Int32) (h0 : Heap) (n0 : Nat) (SS : Str Z h0 s b k n f) (hz : z.toInt = n) (S_CS : Sta Z h0 "java/lang/String" "COMPACT_STRINGS" "Z" (.int cs)) (hcs : cs ≠ 0) :
    MetW Z (⟨"java/lang/String", "isLatin1", "()Z"⟩ : MethodName) jdk_42_method_154_code 1 (some .boolean) [] ({ frames := 0, cells := 0, slots := 0, locals := 0 } : Room) #[(.ref s)] h0 n0 (fun v h => v = some (.int 1) ∧ h = h0) := by
  refine k_body (f := (fun m => mkF m 0 #[.val (.ref s)] [])) pn_12 (fun m => by first | (simp [entryFrame, mkF, argsToLocals, Value.category, maxLocals]; done) | rfl) ?_
  intro Γ T G X
  obtain ⟨SE, SC, SV, SA⟩ := id SS
  show Go Γ n0 _ T (mkF Γ.m 0 #[.val (.ref s)] [])
  refine k_getS G X (host := "") (Or.inl (w29 hw)) Via.refl S_CS d12_0 (pc' := 3) rfl (fun T X => ?_)
  refine k_if_eq G X d12_3 (pc' := 17) rfl (by decide) (pc'' := 6) rfl (fun c3 => (absurd c3 hcs)) (fun c3 => ?_)
  refine k_aloadN G X d12_6 (pc' := 7) rfl rfl rfl ?_
  refine k_getF G X (host := "") (Or.inl (w41 hw)) Via.refl SC d12_7 (pc' := 10) rfl (fun T X => ?_)
  refine k_if_ne G X d12_10 (pc' := 17) rfl (by decide) (pc'' := 13) rfl (fun c10 => (absurd c10 (by decide))) (fun c10 => ?_)
  refine k_iconst G X d12_13 (pc' := 14) rfl (z := (1 : Int32)) (by decide) ?_
  refine k_goto G X d12_14 (by decide) (pc' := 18) rfl ?_
  refine k_retb G X d12_18 (t := .boolean) rfl (by simp) rfl ?_ (by decide) (by decide)
  exact ⟨rfl, rfl⟩
theorem pn_14 : plainFor (⟨"java/lang/String", "coder", "()B"⟩ : MethodName) = true := plainFor_of_name (by first | (simp [plainName, overriddenIn]; done) | decide +kernel)
set_option maxRecDepth 65536 in
set_option maxHeartbeats 40000000 in
theorem str_cod1 {Z : State} {a0 : Array Value} (hw : HW a0 Z) (s b : Addr) (k : ClassId) (n : Nat) (z cs : Int32) (f : Nat → Int32) (h0 : Heap) (n0 : Nat) (SS : Str Z h0 s b k n f) (hz : z.toInt = n) (S_CS : Sta Z h0 "java/lang/String" "COMPACT_STRINGS" "Z" (.int cs)) (hcs : cs ≠ 0) :
    MetW Z (⟨"java/lang/String", "coder", "()B"⟩ : MethodName) jdk_42_method_152_code 1 (some .byte) [] ({ frames := 0, cells := 0, slots := 0, locals := 0 } : Room) #[(.ref s)] h0 n0 (fun v h => v = some (.int 0) ∧ h = h0) := by
  refine k_body (f := (fun m => mkF m 0 #[.val (.ref s)] [])) pn_14 (fun m => by first | (simp [entryFrame, mkF, argsToLocals, Value.category, maxLocals]; done) | rfl) ?_
  intro Γ T G X
  obtain ⟨SE, SC, SV, SA⟩ := id SS
  show Go Γ n0 _ T (mkF Γ.m 0 #[.val (.ref s)] [])
  refine k_getS G X (host := "") (Or.inl (w29 hw)) Via.refl S_CS d14_0 (pc' := 3) rfl (fun T X => ?_)
  refine k_if_eq G X d14_3 (pc' := 13) rfl (by decide) (pc'' := 6) rfl (fun c3 => (absurd c3 hcs)) (fun c3 => ?_)
  refine k_aloadN G X d14_6 (pc' := 7) rfl rfl rfl ?_
  refine k_getF G X (host := "") (Or.inl (w41 hw)) Via.refl SC d14_7 (pc' := 10) rfl (fun T X => ?_)
  refine k_goto G X d14_10 (by decide) (pc' := 14) rfl ?_
  refine k_retb G X d14_14 (t := .byte) rfl (by simp) rfl ?_ (by decide) (by decide)
  exact ⟨rfl, rfl⟩
theorem pn_13 : plainFor (⟨"java/lang/String", "length", "()I"⟩ : MethodName) = true := plainFor_of_name (by first | (simp [plainName, overriddenIn]; done) | decide +kernel)
set_option maxRecDepth 65536 in
set_option maxHeartbeats 40000000 in
theorem str_len {Z : State} {a0 : Array Value} (hw : HW a0 Z) (s b : Addr) (k : ClassId) (n : Nat) (z cs : Int32) (f : Nat → Int32) (h0 : Heap) (n0 : Nat) (SS : Str Z h0 s b k n f) (hz : z.toInt = n) (S_CS : Sta Z h0 "java/lang/String" "COMPACT_STRINGS" "Z" (.int cs)) (hcs : cs ≠ 0) :
    MetW Z (⟨"java/lang/String", "length", "()I"⟩ : MethodName) jdk_42_method_54_code 1 (some .int) [] ({ frames := 1, cells := 0, slots := 0, locals := 13 } : Room) #[(.ref s)] h0 n0 (fun v h => v = some (.int z) ∧ h = h0) := by
  refine k_body (f := (fun m => mkF m 0 #[.val (.ref s)] [])) pn_13 (fun m => by first | (simp [entryFrame, mkF, argsToLocals, Value.category, maxLocals]; done) | rfl) ?_
  intro Γ T G X
  obtain ⟨SE, SC, SV, SA⟩ := id SS
  show Go Γ n0 _ T (mkF Γ.m 0 #[.val (.ref s)] [])
  refine k_aloadN G X d13_0 (pc' := 1) rfl rfl rfl ?_
  refine k_getF G X (host := "") (Or.inl (w43 hw)) Via.refl SV d13_1 (pc' := 4) rfl (fun T X => ?_)
  refine k_alen G X (z := z) SA hz d13_4 (pc' := 5) rfl ?_
  refine k_aloadN G X d13_5 (pc' := 6) rfl rfl rfl ?_
  refine k_callV G X (argsL := []) (rest := [(.int z)]) rfl SE (w79 hw) (w80 hw) (nf_sel (w82 hw)) (w82 hw) (w81 hw) (w18 hw) (w83 hw) (by decide) (str_cod1 hw s b k n z cs f h0 n0 SS hz S_CS hcs) d13_6 pd1 rfl (pc' := 9) rfl rfl (wd := 1) rfl (by decide) (by decide) (by decide) (by decide) (fun T h6 v X q => ?_)
  obtain ⟨rfl, e6⟩ := q
  replace X := X.eq e6
  show Go Γ n0 _ T (mkF Γ.m 9 #[.val (.ref s)] [(.int (0 : Int32)), (.int z)])
  refine k_ishr G X d13_9 (pc' := 10) rfl rfl ?_
  rw [shr0 z]
  refine k_reti G X d13_10 rfl ?_ (by decide) (by decide)
  exact ⟨rfl, rfl⟩
theorem pn_23 : plainFor (⟨"jdk/internal/util/Preconditions", "checkIndex", "(IILjava/util/function/BiFunction;)I"⟩ : MethodName) = true := plainFor_of_name (by first | (simp [plainName, overriddenIn]; done) | decide +kernel)
set_option maxRecDepth 65536 in
set_option maxHeartbeats 40000000 in
theorem pre_idx {Z : State} {a0 : Array Value} (hw : HW a0 Z) (j z : Int32) (fm : Value) (h0 : Heap) (n0 : Nat) (hj : 0 ≤ j.toInt) (hjz : j.toInt < z.toInt) (hfm : fm.isRef = true) :
    MetW Z (⟨"jdk/internal/util/Preconditions", "checkIndex", "(IILjava/util/function/BiFunction;)I"⟩ : MethodName) jdk_41_method_11_code 3 (some .int) [] ({ frames := 0, cells := 0, slots := 0, locals := 0 } : Room) #[(.int j), (.int z), fm] h0 n0 (fun v h => v = some (.int j) ∧ h = h0) := by
  refine k_body (f := (fun m => mkF m 0 #[.val (.int j), .val (.int z), .val fm] [])) pn_23 (fun m => by rcases ref_cases hfm with rfl | ⟨a, rfl⟩ <;> first | (simp [entryFrame, mkF, argsToLocals, Value.category, maxLocals]; done) | rfl) ?_
  intro Γ T G X
  show Go Γ n0 _ T (mkF Γ.m 0 #[.val (.int j), .val (.int z), .val fm] [])
  refine k_iloadN G X d23_0 (pc' := 1) rfl rfl ?_
  refine k_if_lt G X d23_1 (pc' := 9) rfl (by decide) (pc'' := 4) rfl (fun c1 => (absurd c1 (by omega))) (fun c1 => ?_)
  refine k_iloadN G X d23_4 (pc' := 5) rfl rfl ?_
  refine k_iloadN G X d23_5 (pc' := 6) rfl rfl ?_
  refine k_icmp_lt G X d23_6 (pc' := 16) rfl (by decide) (pc'' := 9) rfl (fun c6 => ?_) (fun c6 => (absurd c6 (by omega)))
  refine k_iloadN G X d23_16 (pc' := 17) rfl rfl ?_
  refine k_reti G X d23_17 rfl ?_ (by decide) (by decide)
  exact ⟨rfl, rfl⟩
theorem pn_22 : plainFor (⟨"java/lang/String", "checkIndex", "(II)V"⟩ : MethodName) = true := plainFor_of_name (by first | (simp [plainName, overriddenIn]; done) | decide +kernel)
set_option maxRecDepth 65536 in
set_option maxHeartbeats 40000000 in
theorem str_chk {Z : State} {a0 : Array Value} (hw : HW a0 Z) (j z : Int32) (fm : Value) (h0 : Heap) (n0 : Nat) (hj : 0 ≤ j.toInt) (hjz : j.toInt < z.toInt) (S_FM : Sta Z h0 "jdk/internal/util/Preconditions" "SIOOBE_FORMATTER" "Ljava/util/function/BiFunction;" fm) (hfm : fm.isRef = true) :
    MetW Z (⟨"java/lang/String", "checkIndex", "(II)V"⟩ : MethodName) jdk_42_method_155_code 2 none [] ({ frames := 1, cells := 0, slots := 0, locals := 14 } : Room) #[(.int j), (.int z)] h0 n0 (fun v h => v = none ∧ h = h0) := by
  refine k_body (f := (fun m => mkF m 0 #[.val (.int j), .val (.int z)] [])) pn_22 (fun m => by first | (simp [entryFrame, mkF, argsToLocals, Value.category, maxLocals]; done) | rfl) ?_
  intro Γ T G X
  show Go Γ n0 _ T (mkF Γ.m 0 #[.val (.int j), .val (.int z)] [])
  refine k_iloadN G X d22_0 (pc' := 1) rfl rfl ?_
  refine k_iloadN G X d22_1 (pc' := 2) rfl rfl ?_
  refine k_getS G X (host := "") (Or.inl (w112 hw)) Via.refl S_FM d22_2 (pc' := 5) rfl (fun T X => ?_)
  refine k_callS G X (argsL := [(.int j), (.int z), fm]) (rest := []) rfl (w114 hw) (w115 hw) (w113 hw) (w116 hw) (by decide) (pre_idx hw j z fm h0 n0 hj hjz hfm) d22_5 pd2 rfl (pc' := 8) rfl rfl (wd := 0) rfl (by decide) (by decide) (by decide) (by decide) (fun T h5 v X q => ?_)
  obtain ⟨rfl, e5⟩ := q
  replace X := X.eq e5
  show Go Γ n0 _ T (mkF Γ.m 8 #[.val (.int j), .val (.int z)] [(.int j)])
  refine k_pop G X d22_8 (pc' := 9) rfl rfl ?_
  refine k_retv G X d22_9 rfl ?_ (by decide) (by decide)
  exact ⟨rfl, rfl⟩
theorem pn_21 : plainFor (⟨"java/lang/StringLatin1", "charAt", "([BI)C"⟩ : MethodName) = true := plainFor_of_name (by first | (simp [plainName, overriddenIn]; done) | decide +kernel)
set_option maxRecDepth 65536 in
set_option maxHeartbeats 40000000 in
theorem str_lch {Z : State} {a0 : Array Value} (hw : HW a0 Z) (b : Addr) (k : ClassId) (n i : Nat) (z j : Int32) (f : Nat → Int32) (fm : Value) (h0 : Heap) (n0 : Nat) (SA : Arf Z h0 b k .byte n (fun i => .int (f i))) (hz : z.toInt = n) (hji : j.toInt = i) (hin : i < n) (S_FM : Sta Z h0 "jdk/internal/util/Preconditions" "SIOOBE_FORMATTER" "Ljava/util/function/BiFunction;" fm) (hfm : fm.isRef = true) :
    MetW Z (⟨"java/lang/StringLatin1", "charAt", "([BI)C"⟩ : MethodName) jdk_43_method_2_code 2 (some .char) [] ({ frames := 2, cells := 0, slots := 0, locals := 27 } : Room) #[(.ref b), (.int j)] h0 n0 (fun v h => ∃ r : Int32, v = some (.int r) ∧ r.toInt = (f i).toInt % 256 ∧ h = h0) := by
  refine k_body (f := (fun m => mkF m 0 #[.val (.ref b), .val (.int j)] [])) pn_21 (fun m => by first | (simp [entryFrame, mkF, argsToLocals, Value.category, maxLocals]; done) | rfl) ?_
  intro Γ T G X
  have hj : 0 ≤ j.toInt := by omega
  have hjz : j.toInt < z.toInt := by omega
  show Go Γ n0 _ T (mkF Γ.m 0 #[.val (.ref b), .val (.int j)] [])
  refine k_iloadN G X d21_0 (pc' := 1) rfl rfl ?_
  refine k_aloadN G X d21_1 (pc' := 2) rfl rfl rfl ?_
  refine k_alen G X (z := z) SA hz d21_2 (pc' := 3) rfl ?_
  refine k_callS G X (argsL := [(.int j), (.int z)]) (rest := []) rfl (w109 hw) (w110 hw) (w18 hw) (w111 hw) (by decide) (str_chk hw j z fm h0 n0 hj hjz S_FM hfm) d21_3 pd3 rfl (pc' := 6) rfl rfl (wd := 0) rfl (by decide) (by decide) (by decide) (by decide) (fun T h3 v X q => ?_)
  obtain ⟨rfl, e3⟩ := q
  replace X := X.eq e3
  show Go Γ n0 _ T (mkF Γ.m 6 #[.val (.ref b), .val (.int j)] [])
  refine k_aloadN G X d21_6 (pc' := 7) rfl rfl rfl ?_
  refine k_iloadN G X d21_7 (pc' := 8) rfl rfl ?_
  refine k_baload G X (i := i) (v := (.int (f i))) SA hji hin rfl d21_8 (pc' := 9) rfl ?_
  refine k_sipush G X d21_9 (pc' := 12) rfl (z := (255 : Int32)) (by decide) ?_
  refine k_iand G X d21_12 (pc' := 13) rfl rfl ?_
  refine k_i2c G X d21_13 (pc' := 14) rfl rfl ?_
  refine k_retb G X d21_14 (t := .char) rfl (by simp) (nr_i2c _) ?_ (by decide) (by decide)
  exact ⟨_, rfl, chr_of _, rfl⟩
theorem pn_20 : plainFor (⟨"java/lang/String", "charAt", "(I)C"⟩ : MethodName) = true := plainFor_of_name (by first | (simp [plainName, overriddenIn]; done) | decide +kernel)
set_option maxRecDepth 65536 in
set_option maxHeartbeats 40000000 in
theorem str_at {Z : State} {a0 : Array Value} (hw : HW a0 Z) (s b : Addr) (k : ClassId) (n i : Nat) (z cs j : Int32) (f : Nat → Int32) (fm : Value) (h0 : Heap) (n0 : Nat) (SS : Str Z h0 s b k n f) (hz : z.toInt = n) (S_CS : Sta Z h0 "java/lang/String" "COMPACT_STRINGS" "Z" (.int cs)) (hcs : cs ≠ 0) (hji : j.toInt = i) (hin : i < n) (S_FM : Sta Z h0 "jdk/internal/util/Preconditions" "SIOOBE_FORMATTER" "Ljava/util/function/BiFunction;" fm) (hfm : fm.isRef = true) :
    MetW Z (⟨"java/lang/String", "charAt", "(I)C"⟩ : MethodName) jdk_42_method_56_code 2 (some .char) [] ({ frames := 3, cells := 0, slots := 0, locals := 40 } : Room) #[(.ref s), (.int j)] h0 n0 (fun v h => ∃ r : Int32, v = some (.int r) ∧ r.toInt = (f i).toInt % 256 ∧ h = h0) := by
  refine k_body (f := (fun m => mkF m 0 #[.val (.ref s), .val (.int j)] [])) pn_20 (fun m => by first | (simp [entryFrame, mkF, argsToLocals, Value.category, maxLocals]; done) | rfl) ?_
  intro Γ T G X
  obtain ⟨SE, SC, SV, SA⟩ := id SS
  show Go Γ n0 _ T (mkF Γ.m 0 #[.val (.ref s), .val (.int j)] [])
  refine k_aloadN G X d20_0 (pc' := 1) rfl rfl rfl ?_
  refine k_callV G X (argsL := []) (rest := []) rfl SE (w69 hw) (w70 hw) (nf_sel (w72 hw)) (w72 hw) (w71 hw) (w18 hw) (w73 hw) (by decide) (str_lat hw s b k n z cs f h0 n0 SS hz S_CS hcs) d20_1 pd4 rfl (pc' := 4) rfl rfl (wd := 0) rfl (by decide) (by decide) (by decide) (by decide) (fun T h1 v X q => ?_)
  obtain ⟨rfl, e1⟩ := q
  replace X := X.eq e1
  show Go Γ n0 _ T (mkF Γ.m 4 #[.val (.ref s), .val (.int j)] [(.int (1 : Int32))])
  refine k_if_eq G X d20_4 (pc' := 16) rfl (by decide) (pc'' := 7) rfl (fun c4 => (absurd c4 (by decide))) (fun c4 => ?_)
  refine k_aloadN G X d20_7 (pc' := 8) rfl rfl rfl ?_
  refine k_getF G X (host := "") (Or.inl (w43 hw)) Via.refl SV d20_8 (pc' := 11) rfl (fun T X => ?_)
  refine k_iloadN G X d20_11 (pc' := 12) rfl rfl ?_
  refine k_callS G X (argsL := [(.ref b), (.int j)]) (rest := []) rfl (w106 hw) (w107 hw) (w86 hw) (w108 hw) (by decide) (str_lch hw b k n i z j f fm h0 n0 SS.2.2.2 hz hji hin S_FM hfm) d20_12 pd5 rfl (pc' := 15) rfl rfl (wd := 0) rfl (by decide) (by decide) (by decide) (by decide) (fun T h12 v X q => ?_)
  obtain ⟨r, rfl, hr, e12⟩ := q
  replace X := X.eq e12
  show Go Γ n0 _ T (mkF Γ.m 15 #[.val (.ref s), .val (.int j)] [(.int r)])
  have hnr : narrow .char (.int r) = .int r := nr_char (by omega) (by omega)
  refine k_retb G X d20_15 (t := .char) rfl (by simp) hnr ?_ (by decide) (by decide)
  exact ⟨_, rfl, hr, rfl⟩
theorem pn_19 : plainFor (⟨"java/lang/StringLatin1", "indexOfChar", "([BIII)I"⟩ : MethodName) = true := plainFor_of_name (by first | (simp [plainName, overriddenIn]; done) | decide +kernel)
set_option maxRecDepth 65536 in
set_option maxHeartbeats 40000000 in
theorem str_ixc {Z : State} {a0 : Array Value} (hw : HW a0 Z) (b : Addr) (k : ClassId) (n o : Nat) (z zo ch : Int32) (f : Nat → Int32) (h0 : Heap) (n0 : Nat) (SA : Arf Z h0 b k .byte n (fun i => .int (f i))) (hz : z.toInt = n) (ho : zo.toInt = o) (hon : o < n) (hc0 : 0 ≤ ch.toInt) (hc1 : ch.toInt ≤ 127) :
    MetW Z (⟨"java/lang/StringLatin1", "indexOfChar", "([BIII)I"⟩ : MethodName) jdk_43_method_23_code 6 (some .int) [] ({ frames := 0, cells := 0, slots := 0, locals := 0 } : Room) #[(.ref b), (.int ch), (.int zo), (.int z)] h0 n0 (fun v h => ∃ r : Int32, v = some (.int r) ∧ h = h0 ∧ ((∃ j : Nat, r.toInt = j ∧ o ≤ j ∧ j < n ∧ f j = ch ∧ ∀ i, o ≤ i → i < j → f i ≠ ch) ∨ (r.toInt = -1 ∧ ∀ i, o ≤ i → i < n → f i ≠ ch))) := by
  refine k_body (f := (fun m => mkF m 0 #[.val (.ref b), .val (.int ch), .val (.int zo), .val (.int z), .unset, .unset] [])) pn_19 (fun m => by first | (simp [entryFrame, mkF, argsToLocals, Value.category, maxLocals]; done) | rfl) ?_
  intro Γ T G X
  show Go Γ n0 _ T (mkF Γ.m 0 #[.val (.ref b), .val (.int ch), .val (.int zo), .val (.int z), .unset, .unset] [])
  refine k_iloadN G X d19_0 (pc' := 1) rfl rfl ?_
  refine k_i2b G X d19_1 (pc' := 2) rfl rfl ?_
  rw [show ch.toInt8.toInt32 = ch from of_toInt (by have := c_i2b ch; omega)]
  refine k_istore G X d19_2 (pc' := 4) rfl (l' := #[.val (.ref b), .val (.int ch), .val (.int zo), .val (.int z), .val (.int ch), .unset]) rfl ?_
  refine k_iloadN G X d19_4 (pc' := 5) rfl rfl ?_
  refine k_istore G X d19_5 (pc' := 7) rfl (l' := #[.val (.ref b), .val (.int ch), .val (.int zo), .val (.int z), .val (.int ch), .val (.int zo)]) rfl ?_
  have LOOP : ∀ (k : Nat) (T : State) (i : Int32), (o ≤ i.toInt.toNat ∧ 0 ≤ i.toInt) → (i.toInt ≤ n) → (∀ x, o ≤ x → x < i.toInt.toNat → f x ≠ ch) → n - i.toInt.toNat = k → W Γ n0 T h0 0 0 → Go Γ n0 (fun v h => ∃ r : Int32, v = some (.int r) ∧ h = h0 ∧ ((∃ j : Nat, r.toInt = j ∧ o ≤ j ∧ j < n ∧ f j = ch ∧ ∀ i, o ≤ i → i < j → f i ≠ ch) ∨ (r.toInt = -1 ∧ ∀ i, o ≤ i → i < n → f i ≠ ch))) T (mkF Γ.m 7 #[.val (.ref b), .val (.int ch), .val (.int zo), .val (.int z), .val (.int ch), .val (.int i)] []) := by
    intro k
    induction k using Nat.strongRecOn with
    | _ k ih =>
      intro T i hi0 hin hall hk X
      refine k_iload G X d19_7 (pc' := 9) rfl rfl ?_
      refine k_iloadN G X d19_9 (pc' := 10) rfl rfl ?_
      refine k_icmp_ge G X d19_10 (pc' := 31) rfl (by decide) (pc'' := 13) rfl (fun c10 => ?_) (fun c10 => ?_)
      · refine k_iconst G X d19_31 (pc' := 32) rfl (z := (-1 : Int32)) (by decide) ?_
        refine k_reti G X d19_32 rfl ?_ (by decide) (by decide)
        exact ⟨_, rfl, rfl, Or.inr ⟨rfl, fun x h1 h2 => hall x h1 (by omega)⟩⟩
      · have hlt : i.toInt < n := by omega
        have hi1 : (i + (1 : Int32)).toInt = i.toInt + 1 := iadd_toInt (by rw [show (1 : Int32).toInt = 1 from rfl]; omega) (by rw [show (1 : Int32).toInt = 1 from rfl]; have := SA.size_lt; omega)
        refine k_aloadN G X d19_13 (pc' := 14) rfl rfl rfl ?_
        refine k_iload G X d19_14 (pc' := 16) rfl rfl ?_
        refine k_baload G X (i := i.toInt.toNat) (v := (.int (f i.toInt.toNat))) SA (by omega) (by omega) rfl d19_16 (pc' := 17) rfl ?_
        refine k_iload G X d19_17 (pc' := 19) rfl rfl ?_
        refine k_icmp_ne G X d19_19 (pc' := 25) rfl (by decide) (pc'' := 22) rfl (fun c19 => ?_) (fun c19 => ?_)
        · refine k_iinc G X d19_25 (pc' := 28) rfl rfl (z := (i + (1 : Int32))) rfl (l' := #[.val (.ref b), .val (.int ch), .val (.int zo), .val (.int z), .val (.int ch), .val (.int (i + (1 : Int32)))]) rfl ?_
          refine k_goto G X d19_28 (by decide) (pc' := 7) rfl ?_
          exact ih _ (by rw [hi1]; omega) T (i + (1 : Int32)) (by omega) (by omega) (fun x h1 h2 => by rcases Nat.lt_or_ge x i.toInt.toNat with q | q; exact hall x h1 q; rw [show x = i.toInt.toNat by omega]; exact c19) rfl X
        · refine k_iload G X d19_22 (pc' := 24) rfl rfl ?_
          refine k_reti G X d19_24 rfl ?_ (by decide) (by decide)
          exact ⟨_, rfl, rfl, Or.inl ⟨i.toInt.toNat, by omega, by omega, by omega, c19, fun x h1 h2 => hall x h1 h2⟩⟩
  exact LOOP _ T zo (by omega) (by omega) (fun x h1 h2 => absurd h1 (by omega)) rfl X
theorem pn_16 : plainFor (⟨"java/lang/StringLatin1", "canEncode", "(I)Z"⟩ : MethodName) = true := plainFor_of_name (by first | (simp [plainName, overriddenIn]; done) | decide +kernel)
set_option maxRecDepth 65536 in
set_option maxHeartbeats 40000000 in
theorem str_can {Z : State} {a0 : Array Value} (hw : HW a0 Z) (ch : Int32) (h0 : Heap) (n0 : Nat) (hc0 : 0 ≤ ch.toInt) (hc1 : ch.toInt ≤ 127) :
    MetW Z (⟨"java/lang/StringLatin1", "canEncode", "(I)Z"⟩ : MethodName) jdk_43_method_4_code 1 (some .boolean) [] ({ frames := 0, cells := 0, slots := 0, locals := 0 } : Room) #[(.int ch)] h0 n0 (fun v h => v = some (.int 1) ∧ h = h0) := by
  refine k_body (f := (fun m => mkF m 0 #[.val (.int ch)] [])) pn_16 (fun m => by first | (simp [entryFrame, mkF, argsToLocals, Value.category, maxLocals]; done) | rfl) ?_
  intro Γ T G X
  have e255 : (255 : Int32).toInt = 255 := rfl
  show Go Γ n0 _ T (mkF Γ.m 0 #[.val (.int ch)] [])
  refine k_iloadN G X d16_0 (pc' := 1) rfl rfl ?_
  refine k_if_lt G X d16_1 (pc' := 15) rfl (by decide) (pc'' := 4) rfl (fun c1 => (absurd c1 (by omega))) (fun c1 => ?_)
  refine k_iloadN G X d16_4 (pc' := 5) rfl rfl ?_
  refine k_sipush G X d16_5 (pc' := 8) rfl (z := (255 : Int32)) (by decide) ?_
  refine k_icmp_gt G X d16_8 (pc' := 15) rfl (by decide) (pc'' := 11) rfl (fun c8 => (absurd c8 (by omega))) (fun c8 => ?_)
  refine k_iconst G X d16_11 (pc' := 12) rfl (z := (1 : Int32)) (by decide) ?_
  refine k_goto G X d16_12 (by decide) (pc' := 16) rfl ?_
  refine k_retb G X d16_16 (t := .boolean) rfl (by simp) rfl ?_ (by decide) (by decide)
  exact ⟨rfl, rfl⟩
theorem pn_17 : plainFor (⟨"java/lang/Math", "max", "(II)I"⟩ : MethodName) = true := Jvm.Free.JP.mathPlain rfl (by decide +kernel)
set_option maxRecDepth 65536 in
set_option maxHeartbeats 40000000 in
theorem m_max {Z : State} {a0 : Array Value} (hw : HW a0 Z) (a b : Int32) (h0 : Heap) (n0 : Nat) :
    MetW Z (⟨"java/lang/Math", "max", "(II)I"⟩ : MethodName) jdk_29_method_65_code 2 (some .int) [] ({ frames := 0, cells := 0, slots := 0, locals := 0 } : Room) #[(.int a), (.int b)] h0 n0 (fun v h => ∃ r : Int32, v = some (.int r) ∧ (b.toInt ≤ a.toInt → r.toInt = a.toInt) ∧ (a.toInt < b.toInt → r.toInt = b.toInt) ∧ h = h0) := by
  refine k_body (f := (fun m => mkF m 0 #[.val (.int a), .val (.int b)] [])) pn_17 (fun m => by first | (simp [entryFrame, mkF, argsToLocals, Value.category, maxLocals]; done) | rfl) ?_
  intro Γ T G X
  show Go Γ n0 _ T (mkF Γ.m 0 #[.val (.int a), .val (.int b)] [])
  refine k_iloadN G X d17_0 (pc' := 1) rfl rfl ?_
  refine k_iloadN G X d17_1 (pc' := 2) rfl rfl ?_
  refine k_icmp_lt G X d17_2 (pc' := 9) rfl (by decide) (pc'' := 5) rfl (fun c2 => ?_) (fun c2 => ?_)
  · refine k_iloadN G X d17_9 (pc' := 10) rfl rfl ?_
    refine k_reti G X d17_10 rfl ?_ (by decide) (by decide)
    exact ⟨_, rfl, by intros; first | rfl | omega, by intros; first | rfl | omega, rfl⟩
  · refine k_iloadN G X d17_5 (pc' := 6) rfl rfl ?_
    refine k_goto G X d17_6 (by decide) (pc' := 10) rfl ?_
    refine k_reti G X d17_10 rfl ?_ (by decide) (by decide)
    exact ⟨_, rfl, by intros; first | rfl | omega, by intros; first | rfl | omega, rfl⟩
theorem pn_18 : plainFor (⟨"java/lang/Math", "min", "(II)I"⟩ : MethodName) = true := Jvm.Free.JP.mathPlain rfl (by decide +kernel)
set_option maxRecDepth 65536 in
set_option maxHeartbeats 40000000 in
theorem m_min {Z : State} {a0 : Array Value} (hw : HW a0 Z) (a b : Int32) (h0 : Heap) (n0 : Nat) :
    MetW Z (⟨"java/lang/Math", "min", "(II)I"⟩ : MethodName) jdk_29_method_69_code 2 (some .int) [] ({ frames := 0, cells := 0, slots := 0, locals := 0 } : Room) #[(.int a), (.int b)] h0 n0 (fun v h => ∃ r : Int32, v = some (.int r) ∧ (b.toInt ≤ a.toInt → r.toInt = b.toInt) ∧ (a.toInt < b.toInt → r.toInt = a.toInt) ∧ h = h0) := by
  refine k_body (f := (fun m => mkF m 0 #[.val (.int a), .val (.int b)] [])) pn_18 (fun m => by first | (simp [entryFrame, mkF, argsToLocals, Value.category, maxLocals]; done) | rfl) ?_
  intro Γ T G X
  show Go Γ n0 _ T (mkF Γ.m 0 #[.val (.int a), .val (.int b)] [])
  refine k_iloadN G X d18_0 (pc' := 1) rfl rfl ?_
  refine k_iloadN G X d18_1 (pc' := 2) rfl rfl ?_
  refine k_icmp_gt G X d18_2 (pc' := 9) rfl (by decide) (pc'' := 5) rfl (fun c2 => ?_) (fun c2 => ?_)
  · refine k_iloadN G X d18_9 (pc' := 10) rfl rfl ?_
    refine k_reti G X d18_10 rfl ?_ (by decide) (by decide)
    exact ⟨_, rfl, by intros; first | rfl | omega, by intros; first | rfl | omega, rfl⟩
  · refine k_iloadN G X d18_5 (pc' := 6) rfl rfl ?_
    refine k_goto G X d18_6 (by decide) (pc' := 10) rfl ?_
    refine k_reti G X d18_10 rfl ?_ (by decide) (by decide)
    exact ⟨_, rfl, by intros; first | rfl | omega, by intros; first | rfl | omega, rfl⟩
theorem pn_15 : plainFor (⟨"java/lang/StringLatin1", "indexOf", "([BIII)I"⟩ : MethodName) = true := plainFor_of_name (by first | (simp [plainName, overriddenIn]; done) | decide +kernel)
set_option maxRecDepth 65536 in
set_option maxHeartbeats 40000000 in
theorem str_lix {Z : State} {a0 : Array Value} (hw : HW a0 Z) (b : Addr) (k : ClassId) (n o : Nat) (z zo ch : Int32) (f : Nat → Int32) (h0 : Heap) (n0 : Nat) (SA : Arf Z h0 b k .byte n (fun i => .int (f i))) (hz : z.toInt = n) (ho : zo.toInt = o) (hon : o < n) (hc0 : 0 ≤ ch.toInt) (hc1 : ch.toInt ≤ 127) :
    MetW Z (⟨"java/lang/StringLatin1", "indexOf", "([BIII)I"⟩ : MethodName) jdk_43_method_22_code 4 (some .int) [] ({ frames := 1, cells := 0, slots := 0, locals := 17 } : Room) #[(.ref b), (.int ch), (.int zo), (.int z)] h0 n0 (fun v h => ∃ r : Int32, v = some (.int r) ∧ h = h0 ∧ ((∃ j : Nat, r.toInt = j ∧ o ≤ j ∧ j < n ∧ f j = ch ∧ ∀ i, o ≤ i → i < j → f i ≠ ch) ∨ (r.toInt = -1 ∧ ∀ i, o ≤ i → i < n → f i ≠ ch))) := by
  refine k_body (f := (fun m => mkF m 0 #[.val (.ref b), .val (.int ch), .val (.int zo), .val (.int z)] [])) pn_15 (fun m => by first | (simp [entryFrame, mkF, argsToLocals, Value.category, maxLocals]; done) | rfl) ?_
  intro Γ T G X
  show Go Γ n0 _ T (mkF Γ.m 0 #[.val (.ref b), .val (.int ch), .val (.int zo), .val (.int z)] [])
  refine k_iloadN G X d15_0 (pc' := 1) rfl rfl ?_
  refine k_callS G X (argsL := [(.int ch)]) (rest := []) rfl (w88 hw) (w89 hw) (w86 hw) (w90 hw) (by decide) (str_can hw ch h0 n0 hc0 hc1) d15_1 pd6 rfl (pc' := 4) rfl rfl (wd := 0) rfl (by decide) (by decide) (by decide) (by decide) (fun T h1 v X q => ?_)
  obtain ⟨rfl, e1⟩ := q
  replace X := X.eq e1
  show Go Γ n0 _ T (mkF Γ.m 4 #[.val (.ref b), .val (.int ch), .val (.int zo), .val (.int z)] [(.int (1 : Int32))])
  refine k_if_ne G X d15_4 (pc' := 9) rfl (by decide) (pc'' := 7) rfl (fun c4 => ?_) (fun c4 => (absurd c4 (by decide)))
  refine k_iloadN G X d15_9 (pc' := 10) rfl rfl ?_
  refine k_iconst G X d15_10 (pc' := 11) rfl (z := (0 : Int32)) (by decide) ?_
  refine k_callS G X (argsL := [(.int zo), (.int (0 : Int32))]) (rest := []) rfl (w91 hw) (w92 hw) (w93 hw) (w94 hw) (by decide) (m_max hw zo (0 : Int32) h0 n0) d15_11 pd7 rfl (pc' := 14) rfl rfl (wd := 0) rfl (by decide) (by decide) (by decide) (by decide) (fun T h11 v X q => ?_)
  obtain ⟨r11, rfl, q1_11, q2_11, e11⟩ := q
  replace X := X.eq e11
  obtain rfl : zo = r11 := of_toInt (by have := z32; omega)
  show Go Γ n0 _ T (mkF Γ.m 14 #[.val (.ref b), .val (.int ch), .val (.int zo), .val (.int z)] [(.int zo)])
  refine k_istoreN G X d15_14 (pc' := 15) rfl (l' := #[.val (.ref b), .val (.int ch), .val (.int zo), .val (.int z)]) rfl ?_
  refine k_iloadN G X d15_15 (pc' := 16) rfl rfl ?_
  refine k_aloadN G X d15_16 (pc' := 17) rfl rfl rfl ?_
  refine k_alen G X (z := z) SA hz d15_17 (pc' := 18) rfl ?_
  refine k_callS G X (argsL := [(.int z), (.int z)]) (rest := []) rfl (w95 hw) (w96 hw) (w93 hw) (w97 hw) (by decide) (m_min hw z z h0 n0) d15_18 pd7 rfl (pc' := 21) rfl rfl (wd := 0) rfl (by decide) (by decide) (by decide) (by decide) (fun T h18 v X q => ?_)
  obtain ⟨r18, rfl, q1_18, q2_18, e18⟩ := q
  replace X := X.eq e18
  obtain rfl : z = r18 := of_toInt (by have := z32; omega)
  show Go Γ n0 _ T (mkF Γ.m 21 #[.val (.ref b), .val (.int ch), .val (.int zo), .val (.int z)] [(.int z)])
  refine k_istoreN G X d15_21 (pc' := 22) rfl (l' := #[.val (.ref b), .val (.int ch), .val (.int zo), .val (.int z)]) rfl ?_
  refine k_iloadN G X d15_22 (pc' := 23) rfl rfl ?_
  refine k_iloadN G X d15_23 (pc' := 24) rfl rfl ?_
  refine k_icmp_lt G X d15_24 (pc' := 29) rfl (by decide) (pc'' := 27) rfl (fun c24 => ?_) (fun c24 => (absurd c24 (by omega)))
  refine k_aloadN G X d15_29 (pc' := 30) rfl rfl rfl ?_
  refine k_iloadN G X d15_30 (pc' := 31) rfl rfl ?_
  refine k_iloadN G X d15_31 (pc' := 32) rfl rfl ?_
  refine k_iloadN G X d15_32 (pc' := 33) rfl rfl ?_
  refine k_callS G X (argsL := [(.ref b), (.int ch), (.int zo), (.int z)]) (rest := []) rfl (w98 hw) (w99 hw) (w86 hw) (w100 hw) (by decide) (str_ixc hw b k n o z zo ch f h0 n0 SA hz ho hon hc0 hc1) d15_33 pd8 rfl (pc' := 36) rfl rfl (wd := 0) rfl (by decide) (by decide) (by decide) (by decide) (fun T h33 v X q => ?_)
  obtain ⟨r, rfl, e33, hr⟩ := q
  replace X := X.eq e33
  show Go Γ n0 _ T (mkF Γ.m 36 #[.val (.ref b), .val (.int ch), .val (.int zo), .val (.int z)] [(.int r)])
  refine k_reti G X d15_36 rfl ?_ (by decide) (by decide)
  exact ⟨_, rfl, rfl, hr⟩
theorem pn_11 : plainFor (⟨"java/lang/String", "indexOf", "(II)I"⟩ : MethodName) = true := plainFor_of_name (by first | (simp [plainName, overriddenIn]; done) | decide +kernel)
set_option maxRecDepth 65536 in
set_option maxHeartbeats 40000000 in
theorem str_ix {Z : State} {a0 : Array Value} (hw : HW a0 Z) (s b : Addr) (k : ClassId) (n o : Nat) (z zo ch cs : Int32) (f : Nat → Int32) (h0 : Heap) (n0 : Nat) (SS : Str Z h0 s b k n f) (hz : z.toInt = n) (S_CS : Sta Z h0 "java/lang/String" "COMPACT_STRINGS" "Z" (.int cs)) (hcs : cs ≠ 0) (ho : zo.toInt = o) (hon : o < n) (hc0 : 0 ≤ ch.toInt) (hc1 : ch.toInt ≤ 127) :
    MetW Z (⟨"java/lang/String", "indexOf", "(II)I"⟩ : MethodName) jdk_42_method_80_code 3 (some .int) [] ({ frames := 2, cells := 0, slots := 0, locals := 32 } : Room) #[(.ref s), (.int ch), (.int zo)] h0 n0 (fun v h => ∃ r : Int32, v = some (.int r) ∧ h = h0 ∧ ((∃ j : Nat, r.toInt = j ∧ o ≤ j ∧ j < n ∧ f j = ch ∧ ∀ i, o ≤ i → i < j → f i ≠ ch) ∨ (r.toInt = -1 ∧ ∀ i, o ≤ i → i < n → f i ≠ ch))) := by
  refine k_body (f := (fun m => mkF m 0 #[.val (.ref s), .val (.int ch), .val (.int zo)] [])) pn_11 (fun m => by first | (simp [entryFrame, mkF, argsToLocals, Value.category, maxLocals]; done) | rfl) ?_
  intro Γ T G X
  obtain ⟨SE, SC, SV, SA⟩ := id SS
  show Go Γ n0 _ T (mkF Γ.m 0 #[.val (.ref s), .val (.int ch), .val (.int zo)] [])
  refine k_aloadN G X d11_0 (pc' := 1) rfl rfl rfl ?_
  refine k_callV G X (argsL := []) (rest := []) rfl SE (w69 hw) (w70 hw) (nf_sel (w72 hw)) (w72 hw) (w71 hw) (w18 hw) (w73 hw) (by decide) (str_lat hw s b k n z cs f h0 n0 SS hz S_CS hcs) d11_1 pd4 rfl (pc' := 4) rfl rfl (wd := 0) rfl (by decide) (by decide) (by decide) (by decide) (fun T h1 v X q => ?_)
  obtain ⟨rfl, e1⟩ := q
  replace X := X.eq e1
  show Go Γ n0 _ T (mkF Γ.m 4 #[.val (.ref s), .val (.int ch), .val (.int zo)] [(.int (1 : Int32))])
  refine k_if_eq G X d11_4 (pc' := 23) rfl (by decide) (pc'' := 7) rfl (fun c4 => (absurd c4 (by decide))) (fun c4 => ?_)
  refine k_aloadN G X d11_7 (pc' := 8) rfl rfl rfl ?_
  refine k_getF G X (host := "") (Or.inl (w43 hw)) Via.refl SV d11_8 (pc' := 11) rfl (fun T X => ?_)
  refine k_iloadN G X d11_11 (pc' := 12) rfl rfl ?_
  refine k_iloadN G X d11_12 (pc' := 13) rfl rfl ?_
  refine k_aloadN G X d11_13 (pc' := 14) rfl rfl rfl ?_
  refine k_callV G X (argsL := []) (rest := [(.int zo), (.int ch), (.ref b)]) rfl SE (w74 hw) (w75 hw) (nf_sel (w77 hw)) (w77 hw) (w76 hw) (w18 hw) (w78 hw) (by decide) (str_len hw s b k n z cs f h0 n0 SS hz S_CS hcs) d11_14 pd9 rfl (pc' := 17) rfl rfl (wd := 3) rfl (by decide) (by decide) (by decide) (by decide) (fun T h14 v X q => ?_)
  obtain ⟨rfl, e14⟩ := q
  replace X := X.eq e14
  show Go Γ n0 _ T (mkF Γ.m 17 #[.val (.ref s), .val (.int ch), .val (.int zo)] [(.int z), (.int zo), (.int ch), (.ref b)])
  refine k_callS G X (argsL := [(.ref b), (.int ch), (.int zo), (.int z)]) (rest := []) rfl (w84 hw) (w85 hw) (w86 hw) (w87 hw) (by decide) (str_lix hw b k n o z zo ch f h0 n0 SS.2.2.2 hz ho hon hc0 hc1) d11_17 pd8 rfl (pc' := 20) rfl rfl (wd := 0) rfl (by decide) (by decide) (by decide) (by decide) (fun T h17 v X q => ?_)
  obtain ⟨r, rfl, e17, hr⟩ := q
  replace X := X.eq e17
  show Go Γ n0 _ T (mkF Γ.m 20 #[.val (.ref s), .val (.int ch), .val (.int zo)] [(.int r)])
  refine k_goto G X d11_20 (by decide) (pc' := 36) rfl ?_
  refine k_reti G X d11_36 rfl ?_ (by decide) (by decide)
  exact ⟨_, rfl, rfl, hr⟩
theorem pn_7 : plainFor (⟨"java/lang/StringUTF16", "compress", "([CI[BII)I"⟩ : MethodName) = true := plainFor_of_name (by first | (simp [plainName, overriddenIn]; done) | decide +kernel)
set_option maxRecDepth 65536 in
set_option maxHeartbeats 40000000 in
theorem str_cmp1 {Z : State} {a0 : Array Value} (hw : HW a0 Z) (a b : Addr) (ka kb : ClassId) (n : Nat) (z : Int32) (c : Nat → Int32) (g : Nat → Value) (h0 : Heap) (n0 : Nat) (hz : z.toInt = n) (A : Arf Z h0 a ka .char n (fun i => .int (c i))) (B : Arf Z h0 b kb .byte n g) (ne_a_b : a ≠ b) (ge_b : n0 ≤ b) (hc : ∀ i, i < n → 0 ≤ (c i).toInt ∧ (c i).toInt ≤ 255) :
    MetW Z (⟨"java/lang/StringUTF16", "compress", "([CI[BII)I"⟩ : MethodName) jdk_52_method_21_code 7 (some .int) [] ({ frames := 0, cells := 0, slots := 0, locals := 0 } : Room) #[(.ref a), (.int (0 : Int32)), (.ref b), (.int (0 : Int32)), (.int z)] h0 n0 (fun v h => v = some (.int z) ∧ Keep h0 h [b] ∧ Arf Z h b kb .byte n (fun i => .int (c i).toInt8.toInt32)) := by
  refine k_body (f := (fun m => mkF m 0 #[.val (.ref a), .val (.int (0 : Int32)), .val (.ref b), .val (.int (0 : Int32)), .val (.int z), .unset, .unset] [])) pn_7 (fun m => by first | (simp [entryFrame, mkF, argsToLocals, Value.category, maxLocals]; done) | rfl) ?_
  intro Γ T G X
  show Go Γ n0 _ T (mkF Γ.m 0 #[.val (.ref a), .val (.int (0 : Int32)), .val (.ref b), .val (.int (0 : Int32)), .val (.int z), .unset, .unset] [])
  refine k_iconst G X d7_0 (pc' := 1) rfl (z := (0 : Int32)) (by decide) ?_
  refine k_istore G X d7_1 (pc' := 3) rfl (l' := #[.val (.ref a), .val (.int (0 : Int32)), .val (.ref b), .val (.int (0 : Int32)), .val (.int z), .val (.int (0 : Int32)), .unset]) rfl ?_
  have LOOP : ∀ (k : Nat) (T : State) (h1 : Heap) (i : Int32) (s6 : Slot), ((s6 = .unset ∨ ∃ w, s6 = .val w ∧ w.category = 1)) → (Arf Z h1 a ka .char n (fun i => .int (c i))) → (Arf Z h1 b kb .byte n (fun x => if x < i.toInt.toNat then .int (c x).toInt8.toInt32 else g x)) → (Keep h0 h1 [b]) → (0 ≤ i.toInt) → (i.toInt ≤ n) → n - i.toInt.toNat = k → W Γ n0 T h1 0 0 → Go Γ n0 (fun v h => v = some (.int z) ∧ Keep h0 h [b] ∧ Arf Z h b kb .byte n (fun i => .int (c i).toInt8.toInt32)) T (mkF Γ.m 3 #[.val (.ref a), .val (.int i), .val (.ref b), .val (.int i), .val (.int z), .val (.int i), s6] []) := by
    intro k
    induction k using Nat.strongRecOn with
    | _ k ih =>
      intro T h1 i s6 h_s6 A B KP hi0 hin hk X
      refine k_iload G X d7_3 (pc' := 5) rfl rfl ?_
      refine k_iload G X d7_5 (pc' := 7) rfl rfl ?_
      refine k_icmp_ge G X d7_7 (pc' := 44) rfl (by decide) (pc'' := 10) rfl (fun c7 => ?_) (fun c7 => ?_)
      · refine k_iload G X d7_44 (pc' := 46) rfl rfl ?_
        refine k_reti G X d7_46 rfl ?_ (by decide) (by decide)
        refine ⟨rfl, KP, B.congr fun x hx => ?_⟩
        rw [if_pos (by omega)]
      · have hlt : i.toInt < n := by omega
        have hi1 : (i + (1 : Int32)).toInt = i.toInt + 1 := iadd_toInt (by rw [show (1 : Int32).toInt = 1 from rfl]; omega) (by rw [show (1 : Int32).toInt = 1 from rfl]; have := A.size_lt; omega)
        have hci := hc i.toInt.toNat (by omega)
        refine k_aloadN G X d7_10 (pc' := 11) rfl rfl rfl ?_
        refine k_iloadN G X d7_11 (pc' := 12) rfl rfl ?_
        refine k_caload G X (i := i.toInt.toNat) (v := (.int (c i.toInt.toNat))) A (by omega) (by omega) rfl d7_12 (pc' := 13) rfl ?_
        refine k_istoreS G X d7_13 (pc' := 15) rfl rfl h_s6 (l' := #[.val (.ref a), .val (.int i), .val (.ref b), .val (.int i), .val (.int z), .val (.int i), .val (.int (c i.toInt.toNat))]) rfl ?_
        refine k_iload G X d7_15 (pc' := 17) rfl rfl ?_
        refine k_sipush G X d7_17 (pc' := 20) rfl (z := (255 : Int32)) (by decide) ?_
        refine k_icmp_le G X d7_20 (pc' := 26) rfl (by decide) (pc'' := 23) rfl (fun c20 => ?_) (fun c20 => (absurd c20 (by rw [show (255 : Int32).toInt = 255 from rfl]; omega)))
        refine k_aloadN G X d7_26 (pc' := 27) rfl rfl rfl ?_
        refine k_iloadN G X d7_27 (pc' := 28) rfl rfl ?_
        refine k_iload G X d7_28 (pc' := 30) rfl rfl ?_
        refine k_i2b G X d7_30 (pc' := 31) rfl rfl ?_
        refine k_bastore G X (i := i.toInt.toNat) (z := (c i.toInt.toNat).toInt8.toInt32) B (by omega) (by omega) (by simp [nar]) ge_b d7_31 (pc' := 32) rfl (fun T h31 W31 B X => ?_)
        replace A := A.other W31 ne_a_b
        replace KP := KP.wr W31 (Or.inl (List.mem_of_getElem? (i := 0) rfl))
        refine k_iinc G X d7_32 (pc' := 35) rfl rfl (z := (i + (1 : Int32))) rfl (l' := #[.val (.ref a), .val (.int (i + (1 : Int32))), .val (.ref b), .val (.int i), .val (.int z), .val (.int i), .val (.int (c i.toInt.toNat))]) rfl ?_
        refine k_iinc G X d7_35 (pc' := 38) rfl rfl (z := (i + (1 : Int32))) rfl (l' := #[.val (.ref a), .val (.int (i + (1 : Int32))), .val (.ref b), .val (.int (i + (1 : Int32))), .val (.int z), .val (.int i), .val (.int (c i.toInt.toNat))]) rfl ?_
        refine k_iinc G X d7_38 (pc' := 41) rfl rfl (z := (i + (1 : Int32))) rfl (l' := #[.val (.ref a), .val (.int (i + (1 : Int32))), .val (.ref b), .val (.int (i + (1 : Int32))), .val (.int z), .val (.int (i + (1 : Int32))), .val (.int (c i.toInt.toNat))]) rfl ?_
        refine k_goto G X d7_41 (by decide) (pc' := 3) rfl ?_
        exact ih _ (by rw [hi1]; omega) T h31 (i + (1 : Int32)) (.val (.int (c i.toInt.toNat))) (Or.inr ⟨_, rfl, rfl⟩) A (B.congr fun x hx => by rw [hi1]; exact step_set (f := fun x => Value.int (c x).toInt8.toInt32) (g := g) x i.toInt hi0) KP (by omega) (by omega) rfl X
  exact LOOP _ T h0 (0 : Int32) (.unset) (Or.inl rfl) A (B.congr fun i _ => by simp [show (0 : Int32).toInt = 0 from rfl]) (Keep.refl h0 [b]) (by decide) (by rw [z32]; omega) rfl X
theorem pn_6 : plainFor (⟨"java/lang/StringUTF16", "compress", "([CII)[B"⟩ : MethodName) = true := plainFor_of_name (by first | (simp [plainName, overriddenIn]; done) | decide +kernel)
set_option maxRecDepth 65536 in
set_option maxHeartbeats 40000000 in
theorem str_cmp2 {Z : State} {a0 : Array Value} (hw : HW a0 Z) (a : Addr) (ka : ClassId) (n : Nat) (z : Int32) (c : Nat → Int32) (h0 : Heap) (n0 : Nat) (hz : z.toInt = n) (hn : n ≤ 11) (A : Arf Z h0 a ka .char n (fun i => .int (c i))) (O : Old Z n0 h0) (hc : ∀ i, i < n → 0 ≤ (c i).toInt ∧ (c i).toInt ≤ 255) :
    MetW Z (⟨"java/lang/StringUTF16", "compress", "([CII)[B"⟩ : MethodName) jdk_52_method_16_code 6 (some (.array .byte)) [] ({ frames := 1, cells := 1, slots := 11, locals := 18 } : Room) #[(.ref a), (.int (0 : Int32)), (.int z)] h0 n0 (fun v h => ∃ b kb, v = some (.ref b) ∧ h0.size ≤ b ∧ Keep h0 h [] ∧ Arf Z h b kb .byte n (fun i => .int (c i).toInt8.toInt32)) := by
  refine k_body (f := (fun m => mkF m 0 #[.val (.ref a), .val (.int (0 : Int32)), .val (.int z), .unset, .unset, .unset] [])) pn_6 (fun m => by first | (simp [entryFrame, mkF, argsToLocals, Value.category, maxLocals]; done) | rfl) ?_
  intro Γ T G X
  have KP := Keep.refl h0 []
  show Go Γ n0 _ T (mkF Γ.m 0 #[.val (.ref a), .val (.int (0 : Int32)), .val (.int z), .unset, .unset, .unset] [])
  refine k_iloadN G X d6_0 (pc' := 1) rfl rfl ?_
  refine k_newP G X (aty := .byte) (n := n) (cap := 11) (w34 hw) d6_1 (pc' := 3) rfl hz hn (by decide) (by decide) (by decide) (fun T h1 b1 k1 s_b1 E1 A_b1 X => ?_)
  have ne_a_b1 : a ≠ b1 := Nat.ne_of_lt (Nat.lt_of_lt_of_eq A.lt s_b1)
  have ge_b1 : n0 ≤ b1 := Nat.le_trans (Jvm.OwnK.Old_le O) (Nat.le_of_eq s_b1)
  have sz_b1 : h0.size ≤ b1 := Nat.le_trans KP.1 (Nat.le_of_eq s_b1)
  replace A := A.ext E1
  replace O := O.ext E1
  replace KP := KP.ext E1
  replace A_b1 : Arf Z h1 b1 k1 .byte n (fun _ => (.int (0 : Int32))) := A_b1
  refine k_astoreN G X d6_3 (pc' := 4) rfl rfl (l' := #[.val (.ref a), .val (.int (0 : Int32)), .val (.int z), .val (.ref b1), .unset, .unset]) rfl ?_
  refine k_aloadN G X d6_4 (pc' := 5) rfl rfl rfl ?_
  refine k_iloadN G X d6_5 (pc' := 6) rfl rfl ?_
  refine k_aloadN G X d6_6 (pc' := 7) rfl rfl rfl ?_
  refine k_iconst G X d6_7 (pc' := 8) rfl (z := (0 : Int32)) (by decide) ?_
  refine k_iloadN G X d6_8 (pc' := 9) rfl rfl ?_
  refine k_callS G X (argsL := [(.ref a), (.int (0 : Int32)), (.ref b1), (.int (0 : Int32)), (.int z)]) (rest := []) rfl (w35 hw) (w36 hw) (w32 hw) (w37 hw) (by decide) (str_cmp1 hw a b1 ka k1 n z c _ h1 n0 hz A A_b1 ne_a_b1 ge_b1 hc) d6_9 pd10 rfl (pc' := 12) rfl rfl (wd := 0) rfl (by decide) (by decide) (by decide) (by decide) (fun T h9 v X q => ?_)
  obtain ⟨rfl, K9, A_b1⟩ := q
  replace A := A.keep K9 (by simp only [List.mem_cons, List.not_mem_nil, or_false, not_or]; exact ne_a_b1)
  replace O := O.keep K9 (allS ge_b1 (all0))
  replace KP := KP.trans K9 (allS (Or.inr sz_b1) (all0))
  show Go Γ n0 _ T (mkF Γ.m 12 #[.val (.ref a), .val (.int (0 : Int32)), .val (.int z), .val (.ref b1), .unset, .unset] [(.int z)])
  refine k_istore G X d6_12 (pc' := 14) rfl (l' := #[.val (.ref a), .val (.int (0 : Int32)), .val (.int z), .val (.ref b1), .val (.int z), .unset]) rfl ?_
  refine k_iload G X d6_14 (pc' := 16) rfl rfl ?_
  refine k_iloadN G X d6_16 (pc' := 17) rfl rfl ?_
  refine k_icmp_eq G X d6_17 (pc' := 57) rfl (by decide) (pc'' := 20) rfl (fun c17 => ?_) (fun c17 => (absurd c17 (by simp)))
  refine k_aloadN G X d6_57 (pc' := 58) rfl rfl rfl ?_
  refine k_reta G X d6_58 (t := (.array .byte)) rfl rfl rfl ?_ (by decide) (by decide)
  exact ⟨b1, k1, rfl, sz_b1, KP, A_b1⟩
theorem pn_8 : plainFor (⟨"java/lang/StringUTF16", "coderFromArrayLen", "([BI)B"⟩ : MethodName) = true := plainFor_of_name (by first | (simp [plainName, overriddenIn]; done) | decide +kernel)
set_option maxRecDepth 65536 in
set_option maxHeartbeats 40000000 in
theorem str_cod {Z : State} {a0 : Array Value} (hw : HW a0 Z) (b : Addr) (kb : ClassId) (n : Nat) (z : Int32) (f : Nat → Value) (h0 : Heap) (n0 : Nat) (hz : z.toInt = n) (B : Arf Z h0 b kb .byte n f) :
    MetW Z (⟨"java/lang/StringUTF16", "coderFromArrayLen", "([BI)B"⟩ : MethodName) jdk_52_method_15_code 2 (some .byte) [] ({ frames := 0, cells := 0, slots := 0, locals := 0 } : Room) #[(.ref b), (.int z)] h0 n0 (fun v h => v = some (.int 0) ∧ h = h0) := by
  refine k_body (f := (fun m => mkF m 0 #[.val (.ref b), .val (.int z)] [])) pn_8 (fun m => by first | (simp [entryFrame, mkF, argsToLocals, Value.category, maxLocals]; done) | rfl) ?_
  intro Γ T G X
  show Go Γ n0 _ T (mkF Γ.m 0 #[.val (.ref b), .val (.int z)] [])
  refine k_iloadN G X d8_0 (pc' := 1) rfl rfl ?_
  refine k_aloadN G X d8_1 (pc' := 2) rfl rfl rfl ?_
  refine k_alen G X (z := z) B hz d8_2 (pc' := 3) rfl ?_
  refine k_isub G X d8_3 (pc' := 4) rfl rfl ?_
  rw [show z - z = (0 : Int32) from Int32.sub_self z]
  refine k_bipush G X d8_4 (pc' := 6) rfl (z := (31 : Int32)) (by decide) ?_
  refine k_iushr G X d8_6 (pc' := 7) rfl (z := (0 : Int32)) (by decide) ?_
  refine k_i2b G X d8_7 (pc' := 8) rfl (z := (0 : Int32)) (by decide) ?_
  refine k_retb G X d8_8 (t := .byte) rfl (by simp) rfl ?_ (by decide) (by decide)
  exact ⟨rfl, rfl⟩
theorem pn_4 : plainFor (⟨"java/lang/String", "<init>", "([CIILjava/lang/Void;)V"⟩ : MethodName) = true := plainFor_of_name (by first | (simp [plainName, overriddenIn]; done) | decide +kernel)
set_option maxRecDepth 65536 in
set_option maxHeartbeats 40000000 in
theorem str_init4 {Z : State} {a0 : Array Value} (hw : HW a0 Z) (s a : Addr) (ka : ClassId) (n : Nat) (z cs : Int32) (c : Nat → Int32) (h0 : Heap) (n0 : Nat) (hz : z.toInt = n) (hn : n ≤ 11) (hn1 : 1 ≤ n) (E : Exa Z h0 s "java/lang/String") (FV : Fld Z h0 s "java/lang/String" "value" "[B" .null) (FC : Fld Z h0 s "java/lang/String" "coder" "B" (.int 0)) (A : Arf Z h0 a ka .char n (fun i => .int (c i))) (ne_s_a : s ≠ a) (ge_s : n0 ≤ s) (O : Old Z n0 h0) (S_CS : Sta Z h0 "java/lang/String" "COMPACT_STRINGS" "Z" (.int cs)) (hcs : cs ≠ 0) (hc : ∀ i, i < n → 0 ≤ (c i).toInt ∧ (c i).toInt ≤ 255) :
    MetW Z (⟨"java/lang/String", "<init>", "([CIILjava/lang/Void;)V"⟩ : MethodName) jdk_42_method_149_code 6 none [] ({ frames := 2, cells := 1, slots := 11, locals := 37 } : Room) #[(.ref s), (.ref a), (.int (0 : Int32)), (.int z), .null] h0 n0 (fun v h => v = none ∧ Keep h0 h [s] ∧ ∃ b kb, h0.size ≤ b ∧ Str Z h s b kb n (fun i => (c i).toInt8.toInt32)) := by
  refine k_body (f := (fun m => mkF m 0 #[.val (.ref s), .val (.ref a), .val (.int (0 : Int32)), .val (.int z), .val .null, .unset] [])) pn_4 (fun m => by first | (simp [entryFrame, mkF, argsToLocals, Value.category, maxLocals]; done) | rfl) ?_
  intro Γ T G X
  have KP := Keep.refl h0 [s]
  have E0 := E; have A0 := A
  show Go Γ n0 _ T (mkF Γ.m 0 #[.val (.ref s), .val (.ref a), .val (.int (0 : Int32)), .val (.int z), .val .null, .unset] [])
  refine k_aloadN G X d4_0 (pc' := 1) rfl rfl rfl ?_
  refine k_initO G X (w26 hw) (w27 hw) (w28 hw) d4_1 (pc' := 4) rfl rfl (by decide) (wd := 0) rfl (by decide) (fun T X => ?_)
  refine k_iloadN G X d4_4 (pc' := 5) rfl rfl ?_
  refine k_if_ne G X d4_5 (pc' := 27) rfl (by decide) (pc'' := 8) rfl (fun c5 => ?_) (fun c5 => (absurd c5 (by intro q; rw [q, z32] at hz; omega)))
  refine k_getS G X (host := "") (Or.inl (w29 hw)) Via.refl S_CS d4_27 (pc' := 30) rfl (fun T X => ?_)
  refine k_if_eq G X d4_30 (pc' := 58) rfl (by decide) (pc'' := 33) rfl (fun c30 => (absurd c30 hcs)) (fun c30 => ?_)
  refine k_aloadN G X d4_33 (pc' := 34) rfl rfl rfl ?_
  refine k_iloadN G X d4_34 (pc' := 35) rfl rfl ?_
  refine k_iloadN G X d4_35 (pc' := 36) rfl rfl ?_
  refine k_callS G X (argsL := [(.ref a), (.int (0 : Int32)), (.int z)]) (rest := []) rfl (w30 hw) (w31 hw) (w32 hw) (w33 hw) (by decide) (str_cmp2 hw a ka n z c h0 n0 hz hn A O hc) d4_36 pd11 rfl (pc' := 39) rfl rfl (wd := 0) rfl (by decide) (by decide) (by decide) (by decide) (fun T h36 v X q => ?_)
  obtain ⟨b, kb, rfl, sz_b, K36, B⟩ := q
  replace S_CS := Jvm.OwnK.Sta_keep S_CS K36
  replace E := E.keep K36
  replace FV := FV.keep K36 nin0
  replace FC := FC.keep K36 nin0
  replace A := A.keep K36 nin0
  replace O := O.keep K36 (all0)
  replace KP := KP.trans K36 (all0)
  show Go Γ n0 _ T (mkF Γ.m 39 #[.val (.ref s), .val (.ref a), .val (.int (0 : Int32)), .val (.int z), .val .null, .unset] [(.ref b)])
  refine k_astore G X d4_39 (pc' := 41) rfl rfl (l' := #[.val (.ref s), .val (.ref a), .val (.int (0 : Int32)), .val (.int z), .val .null, .val (.ref b)]) rfl ?_
  have ne_s_b : s ≠ b := Nat.ne_of_lt (Nat.lt_of_lt_of_le E0.lt sz_b)
  have ne_a_b : a ≠ b := Nat.ne_of_lt (Nat.lt_of_lt_of_le A0.lt sz_b)
  refine k_aloadN G X d4_41 (pc' := 42) rfl rfl rfl ?_
  refine k_aload G X d4_42 (pc' := 44) rfl rfl rfl ?_
  refine k_iloadN G X d4_44 (pc' := 45) rfl rfl ?_
  refine k_callS G X (argsL := [(.ref b), (.int z)]) (rest := [(.ref s)]) rfl (w38 hw) (w39 hw) (w32 hw) (w40 hw) (by decide) (str_cod hw b kb n z _ h36 n0 hz B) d4_45 pd12 rfl (pc' := 48) rfl rfl (wd := 1) rfl (by decide) (by decide) (by decide) (by decide) (fun T h45 v X q => ?_)
  obtain ⟨rfl, e45⟩ := q
  replace X := X.eq e45
  show Go Γ n0 _ T (mkF Γ.m 48 #[.val (.ref s), .val (.ref a), .val (.int (0 : Int32)), .val (.int z), .val .null, .val (.ref b)] [(.int (0 : Int32)), (.ref s)])
  refine k_putFN G X (w41 hw) Via.refl FC E (Or.inr ⟨(w42 hw), rfl, rfl⟩) (w17 hw) (ty := .byte) (v' := (.int (0 : Int32))) (by decide) rfl rfl ge_s d4_48 (pc' := 51) rfl (fun T h48 W48 X => ?_)
  replace E := E.wr W48
  replace FV := FV.other W48 (Or.inr (slot_ne (Or.inr (w44 hw)) (Or.inr (w42 hw)) (by decide) (t := (.array .byte)) (t' := .byte) (by decide) (by decide)))
  replace FC := FC.same W48
  replace A := A.other W48 (Ne.symm ne_s_a)
  replace O := O.wr W48 ge_s
  replace KP := KP.wr W48 (Or.inl (List.mem_of_getElem? (i := 0) rfl))
  replace S_CS := S_CS.wr W48
  replace B := B.other W48 (Ne.symm ne_s_b)
  refine k_aloadN G X d4_51 (pc' := 52) rfl rfl rfl ?_
  refine k_aload G X d4_52 (pc' := 54) rfl rfl rfl ?_
  refine k_putF G X (host := "") (Or.inl (w43 hw)) Via.refl FV E (Or.inr ⟨(w44 hw), rfl, rfl⟩) (w17 hw) (ty := (.array .byte)) (by decide) rfl rfl ge_s d4_54 (pc' := 57) rfl (fun T h54 W54 X => ?_)
  replace E := E.wr W54
  replace FV := FV.same W54
  replace FC := FC.other W54 (Or.inr (slot_ne (Or.inr (w42 hw)) (Or.inr (w44 hw)) (by decide) (t := .byte) (t' := (.array .byte)) (by decide) (by decide)))
  replace A := A.other W54 (Ne.symm ne_s_a)
  replace O := O.wr W54 ge_s
  replace KP := KP.wr W54 (Or.inl (List.mem_of_getElem? (i := 0) rfl))
  replace S_CS := S_CS.wr W54
  replace B := B.other W54 (Ne.symm ne_s_b)
  refine k_retv G X d4_57 rfl ?_ (by decide) (by decide)
  exact ⟨rfl, KP, b, kb, sz_b, E, FC, FV, B⟩
theorem pn_3 : plainFor (⟨"java/lang/String", "<init>", "([C)V"⟩ : MethodName) = true := plainFor_of_name (by first | (simp [plainName, overriddenIn]; done) | decide +kernel)
set_option maxRecDepth 65536 in
set_option maxHeartbeats 40000000 in
theorem str_init {Z : State} {a0 : Array Value} (hw : HW a0 Z) (s a : Addr) (ka : ClassId) (n : Nat) (z cs : Int32) (c : Nat → Int32) (h0 : Heap) (n0 : Nat) (hz : z.toInt = n) (hn : n ≤ 11) (hn1 : 1 ≤ n) (E : Exa Z h0 s "java/lang/String") (FV : Fld Z h0 s "java/lang/String" "value" "[B" .null) (FC : Fld Z h0 s "java/lang/String" "coder" "B" (.int 0)) (A : Arf Z h0 a ka .char n (fun i => .int (c i))) (ne_s_a : s ≠ a) (ge_s : n0 ≤ s) (O : Old Z n0 h0) (S_CS : Sta Z h0 "java/lang/String" "COMPACT_STRINGS" "Z" (.int cs)) (hcs : cs ≠ 0) (hc : ∀ i, i < n → 0 ≤ (c i).toInt ∧ (c i).toInt ≤ 255) :
    MetW Z (⟨"java/lang/String", "<init>", "([C)V"⟩ : MethodName) jdk_42_method_3_code 2 none [] ({ frames := 3, cells := 1, slots := 11, locals := 54 } : Room) #[(.ref s), (.ref a)] h0 n0 (fun v h => v = none ∧ Keep h0 h [s] ∧ ∃ b kb, h0.size ≤ b ∧ Str Z h s b kb n (fun i => (c i).toInt8.toInt32)) := by
  refine k_body (f := (fun m => mkF m 0 #[.val (.ref s), .val (.ref a)] [])) pn_3 (fun m => by first | (simp [entryFrame, mkF, argsToLocals, Value.category, maxLocals]; done) | rfl) ?_
  intro Γ T G X
  have KP := Keep.refl h0 [s]
  show Go Γ n0 _ T (mkF Γ.m 0 #[.val (.ref s), .val (.ref a)] [])
  refine k_aloadN G X d3_0 (pc' := 1) rfl rfl rfl ?_
  refine k_aloadN G X d3_1 (pc' := 2) rfl rfl rfl ?_
  refine k_iconst G X d3_2 (pc' := 3) rfl (z := (0 : Int32)) (by decide) ?_
  refine k_aloadN G X d3_3 (pc' := 4) rfl rfl rfl ?_
  refine k_alen G X (z := z) A hz d3_4 (pc' := 5) rfl ?_
  refine k_anull G X d3_5 (pc' := 6) rfl ?_
  refine k_callI G X (argsL := [(.ref a), (.int (0 : Int32)), (.int z), .null]) (rest := []) rfl rfl (w22 hw) (w23 hw) (w18 hw) (w25 hw) (by decide) (str_init4 hw s a ka n z cs c h0 n0 hz hn hn1 E FV FC A ne_s_a ge_s O S_CS hcs hc) d3_6 pd13 rfl (pc' := 9) rfl rfl (wd := 0) rfl (by decide) (by decide) (by decide) (by decide) (fun T h6 v X q => ?_)
  obtain ⟨rfl, q⟩ := q
  show Go Γ n0 _ T (mkF Γ.m 9 #[.val (.ref s), .val (.ref a)] [])
  refine k_retv G X d3_9 rfl ?_ (by decide) (by decide)
  exact ⟨rfl, q⟩
theorem pn_9 : plainFor (⟨"com/example/libinvariant/libinvariant/aiger/LineFields", "<init>", "(Ljava/lang/String;I)V"⟩ : MethodName) = true := plainFor_of_name (by first | (simp [plainName, overriddenIn]; done) | decide +kernel)
set_option maxRecDepth 65536 in
set_option maxHeartbeats 40000000 in
theorem lf_init {Z : State} {a0 : Array Value} (hw : HW a0 Z) (lf s : Addr) (zo : Int32) (h0 : Heap) (n0 : Nat) (ge_lf : n0 ≤ lf) (E : Exa Z h0 lf "com/example/libinvariant/libinvariant/aiger/LineFields") (FL : Fld Z h0 lf "com/example/libinvariant/libinvariant/aiger/LineFields" "line" "Ljava/lang/String;" .null) (FS : Fld Z h0 lf "com/example/libinvariant/libinvariant/aiger/LineFields" "space" "I" (.int (0 : Int32))) :
    MetW Z (⟨"com/example/libinvariant/libinvariant/aiger/LineFields", "<init>", "(Ljava/lang/String;I)V"⟩ : MethodName) prog_13_method_1_code 3 none [] ({ frames := 1, cells := 0, slots := 0, locals := 12 } : Room) #[(.ref lf), (.ref s), (.int zo)] h0 n0 (fun v h => v = none ∧ Keep h0 h [lf] ∧ Exa Z h lf "com/example/libinvariant/libinvariant/aiger/LineFields" ∧ Fld Z h lf "com/example/libinvariant/libinvariant/aiger/LineFields" "line" "Ljava/lang/String;" (.ref s) ∧ Fld Z h lf "com/example/libinvariant/libinvariant/aiger/LineFields" "space" "I" (.int (zo - (1 : Int32)))) := by
  refine k_body (f := (fun m => mkF m 0 #[.val (.ref lf), .val (.ref s), .val (.int zo)] [])) pn_9 (fun m => by first | (simp [entryFrame, mkF, argsToLocals, Value.category, maxLocals]; done) | rfl) ?_
  intro Γ T G X
  have KP := Keep.refl h0 [lf]
  show Go Γ n0 _ T (mkF Γ.m 0 #[.val (.ref lf), .val (.ref s), .val (.int zo)] [])
  refine k_aloadN G X d9_0 (pc' := 1) rfl rfl rfl ?_
  refine k_initO G X (w51 hw) (w27 hw) (w28 hw) d9_1 (pc' := 4) rfl rfl (by decide) (wd := 0) rfl (by decide) (fun T X => ?_)
  refine k_aloadN G X d9_4 (pc' := 5) rfl rfl rfl ?_
  refine k_aloadN G X d9_5 (pc' := 6) rfl rfl rfl ?_
  refine k_putF G X (host := "") (Or.inl (w52 hw)) Via.refl FL E (Or.inr ⟨(w53 hw), rfl, rfl⟩) (w46 hw) (ty := (.object "java/lang/String")) (by decide) rfl rfl ge_lf d9_6 (pc' := 9) rfl (fun T h6 W6 X => ?_)
  replace E := E.wr W6
  replace FL := FL.same W6
  replace FS := FS.other W6 (Or.inr (slot_ne (Or.inl (w55 hw)) (Or.inr (w53 hw)) (by decide) (t := .int) (t' := (.object "java/lang/String")) (by decide) (by decide)))
  replace KP := KP.wr W6 (Or.inl (List.mem_of_getElem? (i := 0) rfl))
  refine k_aloadN G X d9_9 (pc' := 10) rfl rfl rfl ?_
  refine k_iloadN G X d9_10 (pc' := 11) rfl rfl ?_
  refine k_iconst G X d9_11 (pc' := 12) rfl (z := (1 : Int32)) (by decide) ?_
  refine k_isub G X d9_12 (pc' := 13) rfl rfl ?_
  refine k_putF G X (host := "") (Or.inl (w54 hw)) Via.refl FS E (Or.inl (w55 hw)) (w46 hw) (ty := .int) (by decide) rfl rfl ge_lf d9_13 (pc' := 16) rfl (fun T h13 W13 X => ?_)
  replace E := E.wr W13
  replace FL := FL.other W13 (Or.inr (slot_ne (Or.inr (w53 hw)) (Or.inl (w55 hw)) (by decide) (t := (.object "java/lang/String")) (t' := .int) (by decide) (by decide)))
  replace FS := FS.same W13
  replace KP := KP.wr W13 (Or.inl (List.mem_of_getElem? (i := 0) rfl))
  refine k_retv G X d9_16 rfl ?_ (by decide) (by decide)
  exact ⟨rfl, KP, E, FL, FS⟩
theorem pn_10 : plainFor (⟨"com/example/libinvariant/libinvariant/aiger/LineFields", "next", "(Ljava/lang/String;)I"⟩ : MethodName) = true := plainFor_of_name (by first | (simp [plainName, overriddenIn]; done) | decide +kernel)
set_option maxRecDepth 65536 in
set_option maxHeartbeats 40000000 in
theorem lf_next {Z : State} {a0 : Array Value} (hw : HW a0 Z) (lf s b fl : Addr) (kb : ClassId) (zo cs : Int32) (fm : Value) (cc : Nat → Int32) (o len V : Nat) (h0 : Heap) (n0 : Nat) (ge_lf : n0 ≤ lf) (E : Exa Z h0 lf "com/example/libinvariant/libinvariant/aiger/LineFields") (FL : Fld Z h0 lf "com/example/libinvariant/libinvariant/aiger/LineFields" "line" "Ljava/lang/String;" (.ref s)) (FS : Fld Z h0 lf "com/example/libinvariant/libinvariant/aiger/LineFields" "space" "I" (.int (zo - (1 : Int32)))) (SS : Str Z h0 s b kb 11 (fun i => (cc i).toInt8.toInt32)) (ne_s_lf : s ≠ lf) (ne_b_lf : b ≠ lf) (S_CS : Sta Z h0 "java/lang/String" "COMPACT_STRINGS" "Z" (.int cs)) (hcs : cs ≠ 0) (S_FM : Sta Z h0 "jdk/internal/util/Preconditions" "SIOOBE_FORMATTER" "Ljava/util/function/BiFunction;" fm) (hfm : fm.isRef = true) (ho : zo.toInt = o) (ho9 : o ≤ 1) (hl1 : 1 ≤ len) (hl9 : len ≤ 10) (hcc : ∀ i, i < 11 → 0 ≤ (cc i).toInt ∧ (cc i).toInt ≤ 255) (hdg : ∀ i, o ≤ i → i < o + len → (cc i).toInt = ((48 + V / 10 ^ (o + len - 1 - i) % 10 : Nat) : Int)) (h32 : o + len < 11 → (cc (o + len)).toInt = 32) (hV : V < 2147483648) :
    MetW Z (⟨"com/example/libinvariant/libinvariant/aiger/LineFields", "next", "(Ljava/lang/String;)I"⟩ : MethodName) prog_13_method_3_code 8 (some .int) [] ({ frames := 4, cells := 0, slots := 0, locals := 53 } : Room) #[(.ref lf), (.ref fl)] h0 n0 (fun v h => ∃ r sp : Int32, v = some (.int r) ∧ Keep h0 h [lf] ∧ r.toInt = ((V % 10 ^ len : Nat) : Int) ∧ sp.toInt = (o + len : Nat) ∧ Exa Z h lf "com/example/libinvariant/libinvariant/aiger/LineFields" ∧ Fld Z h lf "com/example/libinvariant/libinvariant/aiger/LineFields" "line" "Ljava/lang/String;" (.ref s) ∧ Fld Z h lf "com/example/libinvariant/libinvariant/aiger/LineFields" "space" "I" (.int sp) ∧ Str Z h s b kb 11 (fun i => (cc i).toInt8.toInt32)) := by
  refine k_body (f := (fun m => mkF m 0 #[.val (.ref lf), .val (.ref fl), .unset, .unset, .unset, .unset, .unset, .unset] [])) pn_10 (fun m => by first | (simp [entryFrame, mkF, argsToLocals, Value.category, maxLocals]; done) | rfl) ?_
  intro Γ T G X
  have KP := Keep.refl h0 [lf]
  have SE := SS.1
  have hsp : o + len < 11 → (cc (o + len)).toInt8.toInt32 = (32 : Int32) := fun q => of_toInt (by have := h32 q; have := c_i2b (cc (o + len)); rw [show (32 : Int32).toInt = 32 from rfl]; omega)
  have hne : ∀ j, o ≤ j → j < o + len → (cc j).toInt8.toInt32 ≠ (32 : Int32) := fun j h1 h2 q => by have := hdg j h1 h2; have := c_i2b (cc j); rw [q, show (32 : Int32).toInt = 32 from rfl] at this; have := Nat.mod_lt (V / 10 ^ (o + len - 1 - j)) (show 0 < 10 by decide); omega
  show Go Γ n0 _ T (mkF Γ.m 0 #[.val (.ref lf), .val (.ref fl), .unset, .unset, .unset, .unset, .unset, .unset] [])
  refine k_aloadN G X d10_0 (pc' := 1) rfl rfl rfl ?_
  refine k_getF G X (host := "") (Or.inl (w54 hw)) Via.refl FS d10_1 (pc' := 4) rfl (fun T X => ?_)
  refine k_iconst G X d10_4 (pc' := 5) rfl (z := (1 : Int32)) (by decide) ?_
  refine k_iadd G X d10_5 (pc' := 6) rfl rfl ?_
  rw [show (zo - (1 : Int32)) + (1 : Int32) = zo from Int32.sub_add_cancel zo 1]
  refine k_istoreN G X d10_6 (pc' := 7) rfl (l' := #[.val (.ref lf), .val (.ref fl), .val (.int zo), .unset, .unset, .unset, .unset, .unset]) rfl ?_
  refine k_aloadN G X d10_7 (pc' := 8) rfl rfl rfl ?_
  refine k_getF G X (host := "") (Or.inl (w52 hw)) Via.refl FL d10_8 (pc' := 11) rfl (fun T X => ?_)
  refine k_bipush G X d10_11 (pc' := 13) rfl (z := (32 : Int32)) (by decide) ?_
  refine k_iloadN G X d10_13 (pc' := 14) rfl rfl ?_
  refine k_callV G X (argsL := [(.int (32 : Int32)), (.int zo)]) (rest := []) rfl SE (w64 hw) (w65 hw) (nf_sel (w67 hw)) (w67 hw) (w66 hw) (w18 hw) (w68 hw) (by decide) (str_ix hw s b kb 11 o (11 : Int32) zo (32 : Int32) cs _ h0 n0 SS rfl S_CS hcs ho (by omega) (by decide) (by decide)) d10_14 pd7 rfl (pc' := 17) rfl rfl (wd := 0) rfl (by decide) (by decide) (by decide) (by decide) (fun T h14 v X q => ?_)
  obtain ⟨e, rfl, e14, he⟩ := q
  replace X := X.eq e14
  have he3 : (0 ≤ e.toInt → e.toInt = (o + len : Nat)) ∧ (e.toInt < 0 → o + len = 11) := by
    rcases he with ⟨j, hj, h1, h2, h3, h4⟩ | ⟨hj, h4⟩
    · refine ⟨fun _ => ?_, fun _ => by omega⟩
      rcases Nat.lt_trichotomy j (o + len) with q | q | q
      · exact absurd h3 (hne j h1 q)
      · omega
      · exact absurd (hsp (by omega)) (h4 _ (by omega) q)
    · refine ⟨fun _ => by omega, fun _ => ?_⟩
      rcases Nat.lt_or_ge (o + len) 11 with q | q
      · exact absurd (hsp q) (h4 _ (by omega) q)
      · omega
  show Go Γ n0 _ T (mkF Γ.m 17 #[.val (.ref lf), .val (.ref fl), .val (.int zo), .unset, .unset, .unset, .unset, .unset] [(.int e)])
  refine k_istoreN G X d10_17 (pc' := 18) rfl (l' := #[.val (.ref lf), .val (.ref fl), .val (.int zo), .val (.int e), .unset, .unset, .unset, .unset]) rfl ?_
  have J30 : ∀ (T : State) (e3 : Int32), (e3.toInt = (o + len : Nat)) → W Γ n0 T h0 0 0 → Go Γ n0 (fun v h => ∃ r sp : Int32, v = some (.int r) ∧ Keep h0 h [lf] ∧ r.toInt = ((V % 10 ^ len : Nat) : Int) ∧ sp.toInt = (o + len : Nat) ∧ Exa Z h lf "com/example/libinvariant/libinvariant/aiger/LineFields" ∧ Fld Z h lf "com/example/libinvariant/libinvariant/aiger/LineFields" "line" "Ljava/lang/String;" (.ref s) ∧ Fld Z h lf "com/example/libinvariant/libinvariant/aiger/LineFields" "space" "I" (.int sp) ∧ Str Z h s b kb 11 (fun i => (cc i).toInt8.toInt32)) T (mkF Γ.m 30 #[.val (.ref lf), .val (.ref fl), .val (.int zo), .val (.int e3), .unset, .unset, .unset, .unset] []) := by
    intro T e3 he3' X
    refine k_aloadN G X d10_30 (pc' := 31) rfl rfl rfl ?_
    refine k_iloadN G X d10_31 (pc' := 32) rfl rfl ?_
    refine k_putF G X (host := "") (Or.inl (w54 hw)) Via.refl FS E (Or.inl (w55 hw)) (w46 hw) (ty := .int) (by decide) rfl rfl ge_lf d10_32 (pc' := 35) rfl (fun T h32 W32 X => ?_)
    replace E := E.wr W32
    replace FL := FL.other W32 (Or.inr (slot_ne (Or.inr (w53 hw)) (Or.inl (w55 hw)) (by decide) (t := (.object "java/lang/String")) (t' := .int) (by decide) (by decide)))
    replace FS := FS.same W32
    replace SS := SS.other W32 ne_s_lf ne_b_lf
    replace SE := SE.wr W32
    replace S_CS := S_CS.wr W32
    replace S_FM := S_FM.wr W32
    replace KP := KP.wr W32 (Or.inl (List.mem_of_getElem? (i := 0) rfl))
    refine k_iloadN G X d10_35 (pc' := 36) rfl rfl ?_
    refine k_iloadN G X d10_36 (pc' := 37) rfl rfl ?_
    refine k_icmp_ne G X d10_37 (pc' := 54) rfl (by decide) (pc'' := 40) rfl (fun c37 => ?_) (fun c37 => (absurd c37 (by intro q; rw [← q] at he3'; omega)))
    refine k_lconst G X d10_54 (pc' := 55) rfl (z := (0 : Int64)) (by decide) ?_
    refine k_lstore G X d10_55 (pc' := 57) rfl (l' := #[.val (.ref lf), .val (.ref fl), .val (.int zo), .val (.int e3), .val (.long (0 : Int64)), .second, .unset, .unset]) rfl ?_
    refine k_iloadN G X d10_57 (pc' := 58) rfl rfl ?_
    refine k_istore G X d10_58 (pc' := 60) rfl (l' := #[.val (.ref lf), .val (.ref fl), .val (.int zo), .val (.int e3), .val (.long (0 : Int64)), .second, .val (.int zo), .unset]) rfl ?_
    have LOOP : ∀ (k : Nat) (T : State) (va : Int64) (i : Int32) (s7 : Slot), ((s7 = .unset ∨ ∃ w, s7 = .val w ∧ w.category = 1)) → (o ≤ i.toInt.toNat ∧ 0 ≤ i.toInt) → (i.toInt.toNat ≤ o + len) → (va.toInt = ((V / 10 ^ (o + len - i.toInt.toNat) % 10 ^ (i.toInt.toNat - o) : Nat) : Int)) → o + len - i.toInt.toNat = k → W Γ n0 T h32 0 0 → Go Γ n0 (fun v h => ∃ r sp : Int32, v = some (.int r) ∧ Keep h0 h [lf] ∧ r.toInt = ((V % 10 ^ len : Nat) : Int) ∧ sp.toInt = (o + len : Nat) ∧ Exa Z h lf "com/example/libinvariant/libinvariant/aiger/LineFields" ∧ Fld Z h lf "com/example/libinvariant/libinvariant/aiger/LineFields" "line" "Ljava/lang/String;" (.ref s) ∧ Fld Z h lf "com/example/libinvariant/libinvariant/aiger/LineFields" "space" "I" (.int sp) ∧ Str Z h s b kb 11 (fun i => (cc i).toInt8.toInt32)) T (mkF Γ.m 60 #[.val (.ref lf), .val (.ref fl), .val (.int zo), .val (.int e3), .val (.long va), .second, .val (.int i), s7] []) := by
      intro k
      induction k using Nat.strongRecOn with
      | _ k ih =>
        intro T va i s7 h_s7 hi0 hin hva hk X
        refine k_iload G X d10_60 (pc' := 62) rfl rfl ?_
        refine k_iloadN G X d10_62 (pc' := 63) rfl rfl ?_
        refine k_icmp_ge G X d10_63 (pc' := 149) rfl (by decide) (pc'' := 66) rfl (fun c63 => ?_) (fun c63 => ?_)
        · refine k_lload G X d10_149 (pc' := 151) rfl rfl ?_
          refine k_l2i G X d10_151 (pc' := 152) rfl rfl ?_
          refine k_reti G X d10_152 rfl ?_ (by decide) (by decide)
          have hie : i.toInt.toNat = o + len := by omega
          rw [hie, show o + len - (o + len) = 0 by omega, show o + len - o = len by omega, Nat.pow_zero, Nat.div_one] at hva
          have m1 := c_l2i va
          have m2 := rgI va.toInt32
          have m3 := Nat.mod_le V (10 ^ len)
          exact ⟨_, e3, rfl, KP, by omega, he3', E, FL, FS, SS⟩
        · have hlt : i.toInt.toNat < o + len := by omega
          have hi1 : (i + (1 : Int32)).toInt = i.toInt + 1 := iadd_toInt (by rw [show (1 : Int32).toInt = 1 from rfl]; omega) (by rw [show (1 : Int32).toInt = 1 from rfl]; omega)
          refine k_aloadN G X d10_66 (pc' := 67) rfl rfl rfl ?_
          refine k_getF G X (host := "") (Or.inl (w52 hw)) Via.refl FL d10_67 (pc' := 70) rfl (fun T X => ?_)
          refine k_iload G X d10_70 (pc' := 72) rfl rfl ?_
          refine k_callV G X (argsL := [(.int i)]) (rest := []) rfl SE (w101 hw) (w102 hw) (nf_sel (w104 hw)) (w104 hw) (w103 hw) (w18 hw) (w105 hw) (by decide) (str_at hw s b kb 11 (i.toInt.toNat) (11 : Int32) cs i _ fm h32 n0 SS rfl S_CS hcs (by omega) (by omega) S_FM hfm) d10_72 pd14 rfl (pc' := 75) rfl rfl (wd := 0) rfl (by decide) (by decide) (by decide) (by decide) (fun T h72 v X q => ?_)
          obtain ⟨d, rfl, hd_, e72⟩ := q
          replace X := X.eq e72
          rw [chr_byte (hcc _ (by omega)).1 (hcc _ (by omega)).2, hdg _ (by omega) (by omega)] at hd_
          have hdm := Nat.mod_lt (V / 10 ^ (o + len - 1 - i.toInt.toNat)) (show 0 < 10 by decide)
          show Go Γ n0 _ T (mkF Γ.m 75 #[.val (.ref lf), .val (.ref fl), .val (.int zo), .val (.int e3), .val (.long va), .second, .val (.int i), s7] [(.int d)])
          refine k_istoreS G X d10_75 (pc' := 77) rfl rfl h_s7 (l' := #[.val (.ref lf), .val (.ref fl), .val (.int zo), .val (.int e3), .val (.long va), .second, .val (.int i), .val (.int d)]) rfl ?_
          refine k_iload G X d10_77 (pc' := 79) rfl rfl ?_
          refine k_bipush G X d10_79 (pc' := 81) rfl (z := (48 : Int32)) (by decide) ?_
          refine k_icmp_lt G X d10_81 (pc' := 91) rfl (by decide) (pc'' := 84) rfl (fun c81 => (absurd c81 (by rw [show (48 : Int32).toInt = 48 from rfl]; omega))) (fun c81 => ?_)
          refine k_iload G X d10_84 (pc' := 86) rfl rfl ?_
          refine k_bipush G X d10_86 (pc' := 88) rfl (z := (57 : Int32)) (by decide) ?_
          refine k_icmp_le G X d10_88 (pc' := 105) rfl (by decide) (pc'' := 91) rfl (fun c88 => ?_) (fun c88 => (absurd c88 (by rw [show (57 : Int32).toInt = 57 from rfl]; omega)))
          refine k_lload G X d10_105 (pc' := 107) rfl rfl ?_
          refine k_ldcL G X (w117 hw) d10_107 (pc' := 110) rfl ?_
          refine k_lmul G X d10_110 (pc' := 111) rfl rfl ?_
          refine k_iload G X d10_111 (pc' := 113) rfl rfl ?_
          refine k_bipush G X d10_113 (pc' := 115) rfl (z := (48 : Int32)) (by decide) ?_
          refine k_isub G X d10_115 (pc' := 116) rfl rfl ?_
          refine k_i2l G X d10_116 (pc' := 117) rfl rfl ?_
          refine k_ladd G X d10_117 (pc' := 118) rfl rfl ?_
          have ds := digit_step V (o + len - 1 - i.toInt.toNat) (i.toInt.toNat - o)
          have vl := val_le V (o + len - 1 - i.toInt.toNat) (i.toInt.toNat - o + 1)
          rw [show o + len - 1 - i.toInt.toNat + 1 = o + len - i.toInt.toNat by omega] at ds
          have e48 : (48 : Int32).toInt = 48 := rfl
          have e10 : (10 : Int64).toInt = 10 := rfl
          have n1 : (d - (48 : Int32)).toInt = ((V / 10 ^ (o + len - 1 - i.toInt.toNat) % 10 : Nat) : Int) := by rw [isub_toInt (by omega) (by omega)]; omega
          have n2 : (va * (10 : Int64)).toInt = va.toInt * 10 := by rw [lmul_toInt (by rw [e10, hva]; omega) (by rw [e10, hva]; omega), e10]
          have n3 := c_i2l (d - (48 : Int32))
          have n4 : ((va * (10 : Int64)) + (d - (48 : Int32)).toInt64).toInt = ((V / 10 ^ (o + len - 1 - i.toInt.toNat) % 10 ^ (i.toInt.toNat - o + 1) : Nat) : Int) := by rw [ladd_toInt (by rw [n2, n3, n1, hva]; omega) (by rw [n2, n3, n1, hva]; omega), n2, n3, n1, hva, ← ds]; omega
          obtain ⟨nv, qnv⟩ : ∃ z, (va * (10 : Int64)) + (d - (48 : Int32)).toInt64 = z := ⟨_, rfl⟩
          rw [qnv] at n4 ⊢
          have hnv : nv.toInt = ((V / 10 ^ (o + len - (i + (1 : Int32)).toInt.toNat) % 10 ^ ((i + (1 : Int32)).toInt.toNat - o) : Nat) : Int) := by rw [n4, hi1, show o + len - 1 - i.toInt.toNat = o + len - (i.toInt + 1).toNat by omega, show i.toInt.toNat - o + 1 = (i.toInt + 1).toNat - o by omega]
          refine k_lstore G X d10_118 (pc' := 120) rfl (l' := #[.val (.ref lf), .val (.ref fl), .val (.int zo), .val (.int e3), .val (.long nv), .second, .val (.int i), .val (.int d)]) rfl ?_
          refine k_lload G X d10_120 (pc' := 122) rfl rfl ?_
          refine k_ldcL G X (w118 hw) d10_122 (pc' := 125) rfl ?_
          refine k_lcmp G X d10_125 (pc' := 126) rfl rfl ?_
          refine k_if_le G X d10_126 (pc' := 143) rfl (by decide) (pc'' := 129) rfl (fun c126 => ?_) (fun c126 => (absurd c126 (by have := c_lcmp nv 2147483647; have e7 : (2147483647 : Int64).toInt = 2147483647 := rfl; have vl' := val_le V (o + len - 1 - i.toInt.toNat) (i.toInt.toNat - o + 1); have l1 := this.1; have l2 := this.2.1; simp only [lcmpW] at l1 l2; rcases Int.lt_or_le nv.toInt 2147483647 with q | q; (have := l1 (by omega); omega); (have := l2 (by omega); omega))))
          refine k_iinc G X d10_143 (pc' := 146) rfl rfl (z := (i + (1 : Int32))) rfl (l' := #[.val (.ref lf), .val (.ref fl), .val (.int zo), .val (.int e3), .val (.long nv), .second, .val (.int (i + (1 : Int32))), .val (.int d)]) rfl ?_
          refine k_goto G X d10_146 (by decide) (pc' := 60) rfl ?_
          exact ih _ (by rw [hi1]; omega) T nv (i + (1 : Int32)) (.val (.int d)) (Or.inr ⟨_, rfl, rfl⟩) (by omega) (by omega) hnv rfl X
    exact LOOP _ T (0 : Int64) zo (.unset) (Or.inl rfl) (by omega) (by omega) (by rw [show zo.toInt.toNat - o = 0 by omega, Nat.pow_zero, Nat.mod_one]; rfl) rfl X
  refine k_iloadN G X d10_18 (pc' := 19) rfl rfl ?_
  refine k_if_ge G X d10_19 (pc' := 30) rfl (by decide) (pc'' := 22) rfl (fun c19 => ?_) (fun c19 => ?_)
  · exact J30 T e (he3.1 c19) X
  · refine k_aloadN G X d10_22 (pc' := 23) rfl rfl rfl ?_
    refine k_getF G X (host := "") (Or.inl (w52 hw)) Via.refl FL d10_23 (pc' := 26) rfl (fun T X => ?_)
    refine k_callV G X (argsL := []) (rest := []) rfl SE (w124 hw) (w75 hw) (nf_sel (w77 hw)) (w77 hw) (w76 hw) (w18 hw) (w78 hw) (by decide) (str_len hw s b kb 11 (11 : Int32) cs (fun i => (cc i).toInt8.toInt32) h0 n0 SS rfl S_CS hcs) d10_26 pd9 rfl (pc' := 29) rfl rfl (wd := 0) rfl (by decide) (by decide) (by decide) (by decide) (fun T h26 v X q => ?_)
    obtain ⟨rfl, e26⟩ := q
    replace X := X.eq e26
    show Go Γ n0 _ T (mkF Γ.m 29 #[.val (.ref lf), .val (.ref fl), .val (.int zo), .val (.int e), .unset, .unset, .unset, .unset] [(.int (11 : Int32))])
    refine k_istoreN G X d10_29 (pc' := 30) rfl (l' := #[.val (.ref lf), .val (.ref fl), .val (.int zo), .val (.int (11 : Int32)), .unset, .unset, .unset, .unset]) rfl ?_
    exact J30 T (11 : Int32) (by have := he3.2 c19; rw [this]; rfl) X
theorem pn_24 : plainFor (⟨"com/example/libinvariant/libinvariant/aiger/LineFields", "hasNext", "()Z"⟩ : MethodName) = true := plainFor_of_name (by first | (simp [plainName, overriddenIn]; done) | decide +kernel)
set_option maxRecDepth 65536 in
set_option maxHeartbeats 40000000 in
theorem lf_has {Z : State} {a0 : Array Value} (hw : HW a0 Z) (lf s b : Addr) (kb : ClassId) (sp cs : Int32) (cc : Nat → Int32) (N : Nat) (h0 : Heap) (n0 : Nat) (FL : Fld Z h0 lf "com/example/libinvariant/libinvariant/aiger/LineFields" "line" "Ljava/lang/String;" (.ref s)) (FS : Fld Z h0 lf "com/example/libinvariant/libinvariant/aiger/LineFields" "space" "I" (.int sp)) (SS : Str Z h0 s b kb 11 (fun i => (cc i).toInt8.toInt32)) (S_CS : Sta Z h0 "java/lang/String" "COMPACT_STRINGS" "Z" (.int cs)) (hcs : cs ≠ 0) (hsp : sp.toInt = N) :
    MetW Z (⟨"com/example/libinvariant/libinvariant/aiger/LineFields", "hasNext", "()Z"⟩ : MethodName) prog_13_method_2_code 1 (some .boolean) [] ({ frames := 2, cells := 0, slots := 0, locals := 26 } : Room) #[(.ref lf)] h0 n0 (fun v h => ∃ r : Int32, v = some (.int r) ∧ (N < 11 → r = 1) ∧ (11 ≤ N → r = 0) ∧ h = h0) := by
  refine k_body (f := (fun m => mkF m 0 #[.val (.ref lf)] [])) pn_24 (fun m => by first | (simp [entryFrame, mkF, argsToLocals, Value.category, maxLocals]; done) | rfl) ?_
  intro Γ T G X
  have SE := SS.1
  have e11 : (11 : Int32).toInt = 11 := rfl
  show Go Γ n0 _ T (mkF Γ.m 0 #[.val (.ref lf)] [])
  refine k_aloadN G X d24_0 (pc' := 1) rfl rfl rfl ?_
  refine k_getF G X (host := "") (Or.inl (w54 hw)) Via.refl FS d24_1 (pc' := 4) rfl (fun T X => ?_)
  refine k_aloadN G X d24_4 (pc' := 5) rfl rfl rfl ?_
  refine k_getF G X (host := "") (Or.inl (w52 hw)) Via.refl FL d24_5 (pc' := 8) rfl (fun T X => ?_)
  refine k_callV G X (argsL := []) (rest := [(.int sp)]) rfl SE (w124 hw) (w75 hw) (nf_sel (w77 hw)) (w77 hw) (w76 hw) (w18 hw) (w78 hw) (by decide) (str_len hw s b kb 11 (11 : Int32) cs (fun i => (cc i).toInt8.toInt32) h0 n0 SS rfl S_CS hcs) d24_8 pd9 rfl (pc' := 11) rfl rfl (wd := 1) rfl (by decide) (by decide) (by decide) (by decide) (fun T h8 v X q => ?_)
  obtain ⟨rfl, e8⟩ := q
  replace X := X.eq e8
  show Go Γ n0 _ T (mkF Γ.m 11 #[.val (.ref lf)] [(.int (11 : Int32)), (.int sp)])
  refine k_icmp_ge G X d24_11 (pc' := 18) rfl (by decide) (pc'' := 14) rfl (fun c11 => ?_) (fun c11 => ?_)
  · refine k_iconst G X d24_18 (pc' := 19) rfl (z := (0 : Int32)) (by decide) ?_
    refine k_retb G X d24_19 (t := .boolean) rfl (by simp) rfl ?_ (by decide) (by decide)
    exact ⟨_, rfl, by intros; first | rfl | omega, by intros; first | rfl | omega, rfl⟩
  · refine k_iconst G X d24_14 (pc' := 15) rfl (z := (1 : Int32)) (by decide) ?_
    refine k_goto G X d24_15 (by decide) (pc' := 19) rfl ?_
    refine k_retb G X d24_19 (t := .boolean) rfl (by simp) rfl ?_ (by decide) (by decide)
    exact ⟨_, rfl, by intros; first | rfl | omega, by intros; first | rfl | omega, rfl⟩

theorem nar_char {r : Int32} (h1 : 0 ≤ r.toInt) (h2 : r.toInt ≤ 255) : nar .char r = r := by
  have := c_i2c r; exact of_toInt (by simp only [nar]; omega)

theorem i11 {i : Nat} (h : i < 11) : i = 0 ∨ i = 1 ∨ i = 2 ∨ i = 3 ∨ i = 4 ∨ i = 5 ∨ i = 6 ∨ i = 7 ∨ i = 8 ∨ i = 9 ∨ i = 10 := by omega
theorem pn_0 : plainFor (⟨"com/example/libinvariant/libinvariant/aiger/LineFieldsNextPinLaw", "law", "(IIIJ)Z"⟩ : MethodName) = true := plainFor_of_name (by first | (simp [plainName, overriddenIn]; done) | decide +kernel)
set_option maxRecDepth 65536 in
set_option maxHeartbeats 40000000 in
theorem rm0 {Z : State} {a0 : Array Value} (hw : HW a0 Z) (p0 p1 p2 cs : Int32) (q3 : Int64) (fm : Value) (h0 : Heap) (n0 : Nat) (O : Old Z n0 h0) (S_CS : Sta Z h0 "java/lang/String" "COMPACT_STRINGS" "Z" (.int cs)) (hcs : cs ≠ 0) (S_FM : Sta Z h0 "jdk/internal/util/Preconditions" "SIOOBE_FORMATTER" "Ljava/util/function/BiFunction;" fm) (hfm : fm.isRef = true) :
    MetW Z x code maxLocals ret tables_1 room_1 #[(.int p0), (.int p1), (.int p2), (.long q3)] h0 n0 (fun v h => v = some (.int 1)) := by
  refine k_body (f := (fun m => mkF m 0 #[.val (.int p0), .val (.int p1), .val (.int p2), .val (.long q3), .second, .unset, .unset, .unset, .unset, .unset, .unset, .unset, .unset, .unset] [])) pn_0 (fun m => by first | (simp [entryFrame, mkF, argsToLocals, Value.category, maxLocals]; done) | rfl) ?_
  intro Γ T G X
  show Go Γ n0 _ T (mkF Γ.m 0 #[.val (.int p0), .val (.int p1), .val (.int p2), .val (.long q3), .second, .unset, .unset, .unset, .unset, .unset, .unset, .unset, .unset, .unset] [])
  refine k_iloadN G X at_0 (pc' := 1) rfl rfl ?_
  refine k_ldcI G X (w0 hw) at_1 (pc' := 3) rfl ?_
  refine k_iand G X at_3 (pc' := 4) rfl rfl ?_
  obtain ⟨zv, qv⟩ : ∃ z, (p0 &&& (2147483647 : Int32)) = z := ⟨_, rfl⟩
  have m1 := and_rng p0 (m := 2147483647) 2147483647 rfl (by decide)
  rw [qv] at m1 ⊢
  obtain ⟨V, hv⟩ : ∃ n : Nat, zv.toInt = n := ⟨zv.toInt.toNat, by omega⟩
  have hV : V < 2147483648 := by omega
  refine k_istore G X at_4 (pc' := 6) rfl (l' := #[.val (.int p0), .val (.int p1), .val (.int p2), .val (.long q3), .second, .val (.int zv), .unset, .unset, .unset, .unset, .unset, .unset, .unset, .unset]) rfl ?_
  refine k_iconst G X at_6 (pc' := 7) rfl (z := (1 : Int32)) (by decide) ?_
  refine k_iloadN G X at_7 (pc' := 8) rfl rfl ?_
  refine k_ldcI G X (w0 hw) at_8 (pc' := 10) rfl ?_
  refine k_iand G X at_10 (pc' := 11) rfl rfl ?_
  refine k_bipush G X at_11 (pc' := 13) rfl (z := (10 : Int32)) (by decide) ?_
  refine k_irem G X at_13 (pc' := 14) rfl (by decide) rfl ?_
  refine k_iadd G X at_14 (pc' := 15) rfl rfl ?_
  obtain ⟨zl, ql⟩ : ∃ z, ((1 : Int32) + ((p1 &&& (2147483647 : Int32)) % (10 : Int32))) = z := ⟨_, rfl⟩
  have m2 := rem_rng (p1 &&& (2147483647 : Int32)) (y := 10) 10 rfl (by decide) (and_rng p1 2147483647 rfl (by decide)).1
  have hl0 : zl.toInt = 1 + ((p1 &&& (2147483647 : Int32)) % (10 : Int32)).toInt := by rw [← ql]; exact iadd_toInt (by rw [show (1 : Int32).toInt = 1 from rfl]; omega) (by rw [show (1 : Int32).toInt = 1 from rfl]; omega)
  rw [ql]
  obtain ⟨len, hl⟩ : ∃ n : Nat, zl.toInt = n := ⟨zl.toInt.toNat, by omega⟩
  have hl1 : 1 ≤ len := by omega
  have hl9 : len ≤ 10 := by omega
  refine k_istore G X at_15 (pc' := 17) rfl (l' := #[.val (.int p0), .val (.int p1), .val (.int p2), .val (.long q3), .second, .val (.int zv), .val (.int zl), .unset, .unset, .unset, .unset, .unset, .unset, .unset]) rfl ?_
  refine k_iloadN G X at_17 (pc' := 18) rfl rfl ?_
  refine k_iconst G X at_18 (pc' := 19) rfl (z := (1 : Int32)) (by decide) ?_
  refine k_iand G X at_19 (pc' := 20) rfl rfl ?_
  obtain ⟨zo, qo⟩ : ∃ z, (p2 &&& (1 : Int32)) = z := ⟨_, rfl⟩
  have m3 := and_rng p2 (m := 1) 1 rfl (by decide)
  rw [qo] at m3 ⊢
  obtain ⟨o, ho⟩ : ∃ n : Nat, zo.toInt = n := ⟨zo.toInt.toNat, by omega⟩
  have ho9 : o ≤ 1 := by omega
  refine k_istore G X at_20 (pc' := 22) rfl (l' := #[.val (.int p0), .val (.int p1), .val (.int p2), .val (.long q3), .second, .val (.int zv), .val (.int zl), .val (.int zo), .unset, .unset, .unset, .unset, .unset, .unset]) rfl ?_
  refine k_bipush G X at_22 (pc' := 24) rfl (z := (11 : Int32)) (by decide) ?_
  refine k_newP G X (aty := .char) (n := 11) (cap := 11) (w1 hw) at_24 (pc' := 26) rfl rfl (by decide) (by decide) (by decide) (by decide) (fun T h24 b24 k24 s_b24 E24 A_b24 X => ?_)
  have ge_b24 : n0 ≤ b24 := Nat.le_trans (Jvm.OwnK.Old_le O) (Nat.le_of_eq s_b24)
  replace O := O.ext E24
  replace S_CS := S_CS.ext E24
  replace S_FM := S_FM.ext E24
  replace A_b24 : Arf Z h24 b24 k24 .char 11 (fun _ => (.int (0 : Int32))) := A_b24
  refine k_astore G X at_26 (pc' := 28) rfl rfl (l' := #[.val (.int p0), .val (.int p1), .val (.int p2), .val (.long q3), .second, .val (.int zv), .val (.int zl), .val (.int zo), .val (.ref b24), .unset, .unset, .unset, .unset, .unset]) rfl ?_
  refine k_aload G X at_28 (pc' := 30) rfl rfl rfl ?_
  refine k_iconst G X at_30 (pc' := 31) rfl (z := (0 : Int32)) (by decide) ?_
  refine k_iconst G X at_31 (pc' := 32) rfl (z := (0 : Int32)) (by decide) ?_
  refine k_iload G X at_32 (pc' := 34) rfl rfl ?_
  refine k_iload G X at_34 (pc' := 36) rfl rfl ?_
  refine k_iload G X at_36 (pc' := 38) rfl rfl ?_
  refine k_lloadN G X at_38 (pc' := 39) rfl rfl ?_
  refine k_callS G X (argsL := [(.int (0 : Int32)), (.int zo), (.int zl), (.int zv), (.long q3)]) (rest := [(.int (0 : Int32)), (.ref b24)]) rfl (w2 hw) (w3 hw) (w4 hw) (w5 hw) (by decide) (chr hw (0 : Int32) zo zl zv q3 0 o len V h24 n0 rfl ho hl hv (by decide) ho9 hl1 hl9 O) at_39 pd15 rfl (pc' := 42) rfl rfl (wd := 2) rfl (by decide) (by decide) (by decide) (by decide) (fun T h39 v X q => ?_)
  obtain ⟨r0, rfl, K39, a0, b0, d0, s0⟩ := q
  replace S_CS := Jvm.OwnK.Sta_keep S_CS K39
  replace S_FM := Jvm.OwnK.Sta_keep S_FM K39
  replace O := O.keep K39 (all0)
  replace A_b24 := A_b24.keep K39 nin0
  show Go Γ n0 _ T (mkF Γ.m 42 #[.val (.int p0), .val (.int p1), .val (.int p2), .val (.long q3), .second, .val (.int zv), .val (.int zl), .val (.int zo), .val (.ref b24), .unset, .unset, .unset, .unset, .unset] [(.int r0), (.int (0 : Int32)), (.ref b24)])
  refine k_castore G X (i := 0) (z := r0) A_b24 rfl (by decide) (nar_char a0 b0) ge_b24 at_42 (pc' := 43) rfl (fun T h42 W42 A_b24 X => ?_)
  replace O := O.wr W42 ge_b24
  replace S_CS := S_CS.wr W42
  replace S_FM := S_FM.wr W42
  refine k_aload G X at_43 (pc' := 45) rfl rfl rfl ?_
  refine k_iconst G X at_45 (pc' := 46) rfl (z := (1 : Int32)) (by decide) ?_
  refine k_iconst G X at_46 (pc' := 47) rfl (z := (1 : Int32)) (by decide) ?_
  refine k_iload G X at_47 (pc' := 49) rfl rfl ?_
  refine k_iload G X at_49 (pc' := 51) rfl rfl ?_
  refine k_iload G X at_51 (pc' := 53) rfl rfl ?_
  refine k_lloadN G X at_53 (pc' := 54) rfl rfl ?_
  refine k_callS G X (argsL := [(.int (1 : Int32)), (.int zo), (.int zl), (.int zv), (.long q3)]) (rest := [(.int (1 : Int32)), (.ref b24)]) rfl (w2 hw) (w3 hw) (w4 hw) (w5 hw) (by decide) (chr hw (1 : Int32) zo zl zv q3 1 o len V h42 n0 rfl ho hl hv (by decide) ho9 hl1 hl9 O) at_54 pd15 rfl (pc' := 57) rfl rfl (wd := 2) rfl (by decide) (by decide) (by decide) (by decide) (fun T h54 v X q => ?_)
  obtain ⟨r1, rfl, K54, a1, b1, d1, s1⟩ := q
  replace S_CS := Jvm.OwnK.Sta_keep S_CS K54
  replace S_FM := Jvm.OwnK.Sta_keep S_FM K54
  replace O := O.keep K54 (all0)
  replace A_b24 := A_b24.keep K54 nin0
  show Go Γ n0 _ T (mkF Γ.m 57 #[.val (.int p0), .val (.int p1), .val (.int p2), .val (.long q3), .second, .val (.int zv), .val (.int zl), .val (.int zo), .val (.ref b24), .unset, .unset, .unset, .unset, .unset] [(.int r1), (.int (1 : Int32)), (.ref b24)])
  refine k_castore G X (i := 1) (z := r1) A_b24 rfl (by decide) (nar_char a1 b1) ge_b24 at_57 (pc' := 58) rfl (fun T h57 W57 A_b24 X => ?_)
  replace O := O.wr W57 ge_b24
  replace S_CS := S_CS.wr W57
  replace S_FM := S_FM.wr W57
  refine k_aload G X at_58 (pc' := 60) rfl rfl rfl ?_
  refine k_iconst G X at_60 (pc' := 61) rfl (z := (2 : Int32)) (by decide) ?_
  refine k_iconst G X at_61 (pc' := 62) rfl (z := (2 : Int32)) (by decide) ?_
  refine k_iload G X at_62 (pc' := 64) rfl rfl ?_
  refine k_iload G X at_64 (pc' := 66) rfl rfl ?_
  refine k_iload G X at_66 (pc' := 68) rfl rfl ?_
  refine k_lloadN G X at_68 (pc' := 69) rfl rfl ?_
  refine k_callS G X (argsL := [(.int (2 : Int32)), (.int zo), (.int zl), (.int zv), (.long q3)]) (rest := [(.int (2 : Int32)), (.ref b24)]) rfl (w2 hw) (w3 hw) (w4 hw) (w5 hw) (by decide) (chr hw (2 : Int32) zo zl zv q3 2 o len V h57 n0 rfl ho hl hv (by decide) ho9 hl1 hl9 O) at_69 pd15 rfl (pc' := 72) rfl rfl (wd := 2) rfl (by decide) (by decide) (by decide) (by decide) (fun T h69 v X q => ?_)
  obtain ⟨r2, rfl, K69, a2, b2, d2, s2⟩ := q
  replace S_CS := Jvm.OwnK.Sta_keep S_CS K69
  replace S_FM := Jvm.OwnK.Sta_keep S_FM K69
  replace O := O.keep K69 (all0)
  replace A_b24 := A_b24.keep K69 nin0
  show Go Γ n0 _ T (mkF Γ.m 72 #[.val (.int p0), .val (.int p1), .val (.int p2), .val (.long q3), .second, .val (.int zv), .val (.int zl), .val (.int zo), .val (.ref b24), .unset, .unset, .unset, .unset, .unset] [(.int r2), (.int (2 : Int32)), (.ref b24)])
  refine k_castore G X (i := 2) (z := r2) A_b24 rfl (by decide) (nar_char a2 b2) ge_b24 at_72 (pc' := 73) rfl (fun T h72 W72 A_b24 X => ?_)
  replace O := O.wr W72 ge_b24
  replace S_CS := S_CS.wr W72
  replace S_FM := S_FM.wr W72
  refine k_aload G X at_73 (pc' := 75) rfl rfl rfl ?_
  refine k_iconst G X at_75 (pc' := 76) rfl (z := (3 : Int32)) (by decide) ?_
  refine k_iconst G X at_76 (pc' := 77) rfl (z := (3 : Int32)) (by decide) ?_
  refine k_iload G X at_77 (pc' := 79) rfl rfl ?_
  refine k_iload G X at_79 (pc' := 81) rfl rfl ?_
  refine k_iload G X at_81 (pc' := 83) rfl rfl ?_
  refine k_lloadN G X at_83 (pc' := 84) rfl rfl ?_
  refine k_callS G X (argsL := [(.int (3 : Int32)), (.int zo), (.int zl), (.int zv), (.long q3)]) (rest := [(.int (3 : Int32)), (.ref b24)]) rfl (w2 hw) (w3 hw) (w4 hw) (w5 hw) (by decide) (chr hw (3 : Int32) zo zl zv q3 3 o len V h72 n0 rfl ho hl hv (by decide) ho9 hl1 hl9 O) at_84 pd15 rfl (pc' := 87) rfl rfl (wd := 2) rfl (by decide) (by decide) (by decide) (by decide) (fun T h84 v X q => ?_)
  obtain ⟨r3, rfl, K84, a3, b3, d3, s3⟩ := q
  replace S_CS := Jvm.OwnK.Sta_keep S_CS K84
  replace S_FM := Jvm.OwnK.Sta_keep S_FM K84
  replace O := O.keep K84 (all0)
  replace A_b24 := A_b24.keep K84 nin0
  show Go Γ n0 _ T (mkF Γ.m 87 #[.val (.int p0), .val (.int p1), .val (.int p2), .val (.long q3), .second, .val (.int zv), .val (.int zl), .val (.int zo), .val (.ref b24), .unset, .unset, .unset, .unset, .unset] [(.int r3), (.int (3 : Int32)), (.ref b24)])
  refine k_castore G X (i := 3) (z := r3) A_b24 rfl (by decide) (nar_char a3 b3) ge_b24 at_87 (pc' := 88) rfl (fun T h87 W87 A_b24 X => ?_)
  replace O := O.wr W87 ge_b24
  replace S_CS := S_CS.wr W87
  replace S_FM := S_FM.wr W87
  refine k_aload G X at_88 (pc' := 90) rfl rfl rfl ?_
  refine k_iconst G X at_90 (pc' := 91) rfl (z := (4 : Int32)) (by decide) ?_
  refine k_iconst G X at_91 (pc' := 92) rfl (z := (4 : Int32)) (by decide) ?_
  refine k_iload G X at_92 (pc' := 94) rfl rfl ?_
  refine k_iload G X at_94 (pc' := 96) rfl rfl ?_
  refine k_iload G X at_96 (pc' := 98) rfl rfl ?_
  refine k_lloadN G X at_98 (pc' := 99) rfl rfl ?_
  refine k_callS G X (argsL := [(.int (4 : Int32)), (.int zo), (.int zl), (.int zv), (.long q3)]) (rest := [(.int (4 : Int32)), (.ref b24)]) rfl (w2 hw) (w3 hw) (w4 hw) (w5 hw) (by decide) (chr hw (4 : Int32) zo zl zv q3 4 o len V h87 n0 rfl ho hl hv (by decide) ho9 hl1 hl9 O) at_99 pd15 rfl (pc' := 102) rfl rfl (wd := 2) rfl (by decide) (by decide) (by decide) (by decide) (fun T h99 v X q => ?_)
  obtain ⟨r4, rfl, K99, a4, b4, d4, s4⟩ := q
  replace S_CS := Jvm.OwnK.Sta_keep S_CS K99
  replace S_FM := Jvm.OwnK.Sta_keep S_FM K99
  replace O := O.keep K99 (all0)
  replace A_b24 := A_b24.keep K99 nin0
  show Go Γ n0 _ T (mkF Γ.m 102 #[.val (.int p0), .val (.int p1), .val (.int p2), .val (.long q3), .second, .val (.int zv), .val (.int zl), .val (.int zo), .val (.ref b24), .unset, .unset, .unset, .unset, .unset] [(.int r4), (.int (4 : Int32)), (.ref b24)])
  refine k_castore G X (i := 4) (z := r4) A_b24 rfl (by decide) (nar_char a4 b4) ge_b24 at_102 (pc' := 103) rfl (fun T h102 W102 A_b24 X => ?_)
  replace O := O.wr W102 ge_b24
  replace S_CS := S_CS.wr W102
  replace S_FM := S_FM.wr W102
  refine k_aload G X at_103 (pc' := 105) rfl rfl rfl ?_
  refine k_iconst G X at_105 (pc' := 106) rfl (z := (5 : Int32)) (by decide) ?_
  refine k_iconst G X at_106 (pc' := 107) rfl (z := (5 : Int32)) (by decide) ?_
  refine k_iload G X at_107 (pc' := 109) rfl rfl ?_
  refine k_iload G X at_109 (pc' := 111) rfl rfl ?_
  refine k_iload G X at_111 (pc' := 113) rfl rfl ?_
  refine k_lloadN G X at_113 (pc' := 114) rfl rfl ?_
  refine k_callS G X (argsL := [(.int (5 : Int32)), (.int zo), (.int zl), (.int zv), (.long q3)]) (rest := [(.int (5 : Int32)), (.ref b24)]) rfl (w2 hw) (w3 hw) (w4 hw) (w5 hw) (by decide) (chr hw (5 : Int32) zo zl zv q3 5 o len V h102 n0 rfl ho hl hv (by decide) ho9 hl1 hl9 O) at_114 pd15 rfl (pc' := 117) rfl rfl (wd := 2) rfl (by decide) (by decide) (by decide) (by decide) (fun T h114 v X q => ?_)
  obtain ⟨r5, rfl, K114, a5, b5, d5, s5⟩ := q
  replace S_CS := Jvm.OwnK.Sta_keep S_CS K114
  replace S_FM := Jvm.OwnK.Sta_keep S_FM K114
  replace O := O.keep K114 (all0)
  replace A_b24 := A_b24.keep K114 nin0
  show Go Γ n0 _ T (mkF Γ.m 117 #[.val (.int p0), .val (.int p1), .val (.int p2), .val (.long q3), .second, .val (.int zv), .val (.int zl), .val (.int zo), .val (.ref b24), .unset, .unset, .unset, .unset, .unset] [(.int r5), (.int (5 : Int32)), (.ref b24)])
  refine k_castore G X (i := 5) (z := r5) A_b24 rfl (by decide) (nar_char a5 b5) ge_b24 at_117 (pc' := 118) rfl (fun T h117 W117 A_b24 X => ?_)
  replace O := O.wr W117 ge_b24
  replace S_CS := S_CS.wr W117
  replace S_FM := S_FM.wr W117
  refine k_aload G X at_118 (pc' := 120) rfl rfl rfl ?_
  refine k_bipush G X at_120 (pc' := 122) rfl (z := (6 : Int32)) (by decide) ?_
  refine k_bipush G X at_122 (pc' := 124) rfl (z := (6 : Int32)) (by decide) ?_
  refine k_iload G X at_124 (pc' := 126) rfl rfl ?_
  refine k_iload G X at_126 (pc' := 128) rfl rfl ?_
  refine k_iload G X at_128 (pc' := 130) rfl rfl ?_
  refine k_lloadN G X at_130 (pc' := 131) rfl rfl ?_
  refine k_callS G X (argsL := [(.int (6 : Int32)), (.int zo), (.int zl), (.int zv), (.long q3)]) (rest := [(.int (6 : Int32)), (.ref b24)]) rfl (w2 hw) (w3 hw) (w4 hw) (w5 hw) (by decide) (chr hw (6 : Int32) zo zl zv q3 6 o len V h117 n0 rfl ho hl hv (by decide) ho9 hl1 hl9 O) at_131 pd15 rfl (pc' := 134) rfl rfl (wd := 2) rfl (by decide) (by decide) (by decide) (by decide) (fun T h131 v X q => ?_)
  obtain ⟨r6, rfl, K131, a6, b6, d6, s6⟩ := q
  replace S_CS := Jvm.OwnK.Sta_keep S_CS K131
  replace S_FM := Jvm.OwnK.Sta_keep S_FM K131
  replace O := O.keep K131 (all0)
  replace A_b24 := A_b24.keep K131 nin0
  show Go Γ n0 _ T (mkF Γ.m 134 #[.val (.int p0), .val (.int p1), .val (.int p2), .val (.long q3), .second, .val (.int zv), .val (.int zl), .val (.int zo), .val (.ref b24), .unset, .unset, .unset, .unset, .unset] [(.int r6), (.int (6 : Int32)), (.ref b24)])
  refine k_castore G X (i := 6) (z := r6) A_b24 rfl (by decide) (nar_char a6 b6) ge_b24 at_134 (pc' := 135) rfl (fun T h134 W134 A_b24 X => ?_)
  replace O := O.wr W134 ge_b24
  replace S_CS := S_CS.wr W134
  replace S_FM := S_FM.wr W134
  refine k_aload G X at_135 (pc' := 137) rfl rfl rfl ?_
  refine k_bipush G X at_137 (pc' := 139) rfl (z := (7 : Int32)) (by decide) ?_
  refine k_bipush G X at_139 (pc' := 141) rfl (z := (7 : Int32)) (by decide) ?_
  refine k_iload G X at_141 (pc' := 143) rfl rfl ?_
  refine k_iload G X at_143 (pc' := 145) rfl rfl ?_
  refine k_iload G X at_145 (pc' := 147) rfl rfl ?_
  refine k_lloadN G X at_147 (pc' := 148) rfl rfl ?_
  refine k_callS G X (argsL := [(.int (7 : Int32)), (.int zo), (.int zl), (.int zv), (.long q3)]) (rest := [(.int (7 : Int32)), (.ref b24)]) rfl (w2 hw) (w3 hw) (w4 hw) (w5 hw) (by decide) (chr hw (7 : Int32) zo zl zv q3 7 o len V h134 n0 rfl ho hl hv (by decide) ho9 hl1 hl9 O) at_148 pd15 rfl (pc' := 151) rfl rfl (wd := 2) rfl (by decide) (by decide) (by decide) (by decide) (fun T h148 v X q => ?_)
  obtain ⟨r7, rfl, K148, a7, b7, d7, s7⟩ := q
  replace S_CS := Jvm.OwnK.Sta_keep S_CS K148
  replace S_FM := Jvm.OwnK.Sta_keep S_FM K148
  replace O := O.keep K148 (all0)
  replace A_b24 := A_b24.keep K148 nin0
  show Go Γ n0 _ T (mkF Γ.m 151 #[.val (.int p0), .val (.int p1), .val (.int p2), .val (.long q3), .second, .val (.int zv), .val (.int zl), .val (.int zo), .val (.ref b24), .unset, .unset, .unset, .unset, .unset] [(.int r7), (.int (7 : Int32)), (.ref b24)])
  refine k_castore G X (i := 7) (z := r7) A_b24 rfl (by decide) (nar_char a7 b7) ge_b24 at_151 (pc' := 152) rfl (fun T h151 W151 A_b24 X => ?_)
  replace O := O.wr W151 ge_b24
  replace S_CS := S_CS.wr W151
  replace S_FM := S_FM.wr W151
  refine k_aload G X at_152 (pc' := 154) rfl rfl rfl ?_
  refine k_bipush G X at_154 (pc' := 156) rfl (z := (8 : Int32)) (by decide) ?_
  refine k_bipush G X at_156 (pc' := 158) rfl (z := (8 : Int32)) (by decide) ?_
  refine k_iload G X at_158 (pc' := 160) rfl rfl ?_
  refine k_iload G X at_160 (pc' := 162) rfl rfl ?_
  refine k_iload G X at_162 (pc' := 164) rfl rfl ?_
  refine k_lloadN G X at_164 (pc' := 165) rfl rfl ?_
  refine k_callS G X (argsL := [(.int (8 : Int32)), (.int zo), (.int zl), (.int zv), (.long q3)]) (rest := [(.int (8 : Int32)), (.ref b24)]) rfl (w2 hw) (w3 hw) (w4 hw) (w5 hw) (by decide) (chr hw (8 : Int32) zo zl zv q3 8 o len V h151 n0 rfl ho hl hv (by decide) ho9 hl1 hl9 O) at_165 pd15 rfl (pc' := 168) rfl rfl (wd := 2) rfl (by decide) (by decide) (by decide) (by decide) (fun T h165 v X q => ?_)
  obtain ⟨r8, rfl, K165, a8, b8, d8, s8⟩ := q
  replace S_CS := Jvm.OwnK.Sta_keep S_CS K165
  replace S_FM := Jvm.OwnK.Sta_keep S_FM K165
  replace O := O.keep K165 (all0)
  replace A_b24 := A_b24.keep K165 nin0
  show Go Γ n0 _ T (mkF Γ.m 168 #[.val (.int p0), .val (.int p1), .val (.int p2), .val (.long q3), .second, .val (.int zv), .val (.int zl), .val (.int zo), .val (.ref b24), .unset, .unset, .unset, .unset, .unset] [(.int r8), (.int (8 : Int32)), (.ref b24)])
  refine k_castore G X (i := 8) (z := r8) A_b24 rfl (by decide) (nar_char a8 b8) ge_b24 at_168 (pc' := 169) rfl (fun T h168 W168 A_b24 X => ?_)
  replace O := O.wr W168 ge_b24
  replace S_CS := S_CS.wr W168
  replace S_FM := S_FM.wr W168
  refine k_aload G X at_169 (pc' := 171) rfl rfl rfl ?_
  refine k_bipush G X at_171 (pc' := 173) rfl (z := (9 : Int32)) (by decide) ?_
  refine k_bipush G X at_173 (pc' := 175) rfl (z := (9 : Int32)) (by decide) ?_
  refine k_iload G X at_175 (pc' := 177) rfl rfl ?_
  refine k_iload G X at_177 (pc' := 179) rfl rfl ?_
  refine k_iload G X at_179 (pc' := 181) rfl rfl ?_
  refine k_lloadN G X at_181 (pc' := 182) rfl rfl ?_
  refine k_callS G X (argsL := [(.int (9 : Int32)), (.int zo), (.int zl), (.int zv), (.long q3)]) (rest := [(.int (9 : Int32)), (.ref b24)]) rfl (w2 hw) (w3 hw) (w4 hw) (w5 hw) (by decide) (chr hw (9 : Int32) zo zl zv q3 9 o len V h168 n0 rfl ho hl hv (by decide) ho9 hl1 hl9 O) at_182 pd15 rfl (pc' := 185) rfl rfl (wd := 2) rfl (by decide) (by decide) (by decide) (by decide) (fun T h182 v X q => ?_)
  obtain ⟨r9, rfl, K182, a9, b9, d9, s9⟩ := q
  replace S_CS := Jvm.OwnK.Sta_keep S_CS K182
  replace S_FM := Jvm.OwnK.Sta_keep S_FM K182
  replace O := O.keep K182 (all0)
  replace A_b24 := A_b24.keep K182 nin0
  show Go Γ n0 _ T (mkF Γ.m 185 #[.val (.int p0), .val (.int p1), .val (.int p2), .val (.long q3), .second, .val (.int zv), .val (.int zl), .val (.int zo), .val (.ref b24), .unset, .unset, .unset, .unset, .unset] [(.int r9), (.int (9 : Int32)), (.ref b24)])
  refine k_castore G X (i := 9) (z := r9) A_b24 rfl (by decide) (nar_char a9 b9) ge_b24 at_185 (pc' := 186) rfl (fun T h185 W185 A_b24 X => ?_)
  replace O := O.wr W185 ge_b24
  replace S_CS := S_CS.wr W185
  replace S_FM := S_FM.wr W185
  refine k_aload G X at_186 (pc' := 188) rfl rfl rfl ?_
  refine k_bipush G X at_188 (pc' := 190) rfl (z := (10 : Int32)) (by decide) ?_
  refine k_bipush G X at_190 (pc' := 192) rfl (z := (10 : Int32)) (by decide) ?_
  refine k_iload G X at_192 (pc' := 194) rfl rfl ?_
  refine k_iload G X at_194 (pc' := 196) rfl rfl ?_
  refine k_iload G X at_196 (pc' := 198) rfl rfl ?_
  refine k_lloadN G X at_198 (pc' := 199) rfl rfl ?_
  refine k_callS G X (argsL := [(.int (10 : Int32)), (.int zo), (.int zl), (.int zv), (.long q3)]) (rest := [(.int (10 : Int32)), (.ref b24)]) rfl (w2 hw) (w3 hw) (w4 hw) (w5 hw) (by decide) (chr hw (10 : Int32) zo zl zv q3 10 o len V h185 n0 rfl ho hl hv (by decide) ho9 hl1 hl9 O) at_199 pd15 rfl (pc' := 202) rfl rfl (wd := 2) rfl (by decide) (by decide) (by decide) (by decide) (fun T h199 v X q => ?_)
  obtain ⟨r10, rfl, K199, a10, b10, d10, s10⟩ := q
  replace S_CS := Jvm.OwnK.Sta_keep S_CS K199
  replace S_FM := Jvm.OwnK.Sta_keep S_FM K199
  replace O := O.keep K199 (all0)
  replace A_b24 := A_b24.keep K199 nin0
  show Go Γ n0 _ T (mkF Γ.m 202 #[.val (.int p0), .val (.int p1), .val (.int p2), .val (.long q3), .second, .val (.int zv), .val (.int zl), .val (.int zo), .val (.ref b24), .unset, .unset, .unset, .unset, .unset] [(.int r10), (.int (10 : Int32)), (.ref b24)])
  refine k_castore G X (i := 10) (z := r10) A_b24 rfl (by decide) (nar_char a10 b10) ge_b24 at_202 (pc' := 203) rfl (fun T h202 W202 A_b24 X => ?_)
  replace O := O.wr W202 ge_b24
  replace S_CS := S_CS.wr W202
  replace S_FM := S_FM.wr W202
  refine k_new G X (w16 hw) (w17 hw) (w18 hw) at_203 (pc' := 206) rfl (by decide) (by decide) (fun T h203 b203 s_b203 E203 X_b203 D203 X => ?_)
  have ne_b24_b203 : b24 ≠ b203 := Nat.ne_of_lt (Nat.lt_of_lt_of_eq A_b24.lt s_b203)
  have ge_b203 : n0 ≤ b203 := Nat.le_trans (Jvm.OwnK.Old_le O) (Nat.le_of_eq s_b203)
  replace O := O.ext E203
  replace S_CS := S_CS.ext E203
  replace S_FM := S_FM.ext E203
  replace A_b24 := A_b24.ext E203
  have F_b203_coder : Fld Z h203 b203 "java/lang/String" "coder" "B" (.int (0 : Int32)) := D203 (Or.inr (w42 hw)) (ty := .byte) (by decide)
  have F_b203_value : Fld Z h203 b203 "java/lang/String" "value" "[B" .null := D203 (Or.inr (w44 hw)) (ty := (.array .byte)) (by decide)
  refine k_dup G X at_206 (pc' := 207) rfl rfl ?_
  refine k_aload G X at_207 (pc' := 209) rfl rfl rfl ?_
  obtain ⟨cc, hce⟩ : ∃ cc : Nat → Int32, cc = fun i => match i with | 0 => r0 | 1 => r1 | 2 => r2 | 3 => r3 | 4 => r4 | 5 => r5 | 6 => r6 | 7 => r7 | 8 => r8 | 9 => r9 | 10 => r10 | _ => 0 := ⟨_, rfl⟩
  have hcc : ∀ i, i < 11 → 0 ≤ (cc i).toInt ∧ (cc i).toInt ≤ 255 := by intro i hi; rw [hce]; rcases i11 hi with rfl | rfl | rfl | rfl | rfl | rfl | rfl | rfl | rfl | rfl | rfl <;> exact ⟨by assumption, by assumption⟩
  have hdg : ∀ i, o ≤ i → i < o + len → (cc i).toInt = ((48 + V / 10 ^ (o + len - 1 - i) % 10 : Nat) : Int) := by
    intro i h1 h2; rw [hce]
    rcases i11 (show i < 11 by omega) with rfl | rfl | rfl | rfl | rfl | rfl | rfl | rfl | rfl | rfl | rfl
    · exact d0 h1 h2
    · exact d1 h1 h2
    · exact d2 h1 h2
    · exact d3 h1 h2
    · exact d4 h1 h2
    · exact d5 h1 h2
    · exact d6 h1 h2
    · exact d7 h1 h2
    · exact d8 h1 h2
    · exact d9 h1 h2
    · exact d10 h1 h2
  have h32 : o + len < 11 → (cc (o + len)).toInt = 32 := by
    intro h1; obtain ⟨N, hN⟩ : ∃ N, o + len = N := ⟨_, rfl⟩
    rw [hN] at h1 ⊢; rw [hce]
    rcases i11 h1 with rfl | rfl | rfl | rfl | rfl | rfl | rfl | rfl | rfl | rfl | rfl
    · exact s0 hN.symm
    · exact s1 hN.symm
    · exact s2 hN.symm
    · exact s3 hN.symm
    · exact s4 hN.symm
    · exact s5 hN.symm
    · exact s6 hN.symm
    · exact s7 hN.symm
    · exact s8 hN.symm
    · exact s9 hN.symm
    · exact s10 hN.symm
  replace A_b24 := A_b24.congr (g := fun i => .int (cc i)) (fun i hi => by rw [hce]; rcases i11 hi with rfl | rfl | rfl | rfl | rfl | rfl | rfl | rfl | rfl | rfl | rfl <;> rfl)
  refine k_callI G X (argsL := [(.ref b24)]) (rest := [(.ref b203)]) rfl rfl (w19 hw) (w20 hw) (w18 hw) (w21 hw) (by decide) (str_init hw b203 b24 _ 11 (11 : Int32) cs cc h203 n0 rfl (by decide) (by decide) X_b203 F_b203_value F_b203_coder A_b24 ne_b24_b203.symm ge_b203 O S_CS hcs hcc) at_209 pd16 rfl (pc' := 212) rfl rfl (wd := 1) rfl (by decide) (by decide) (by decide) (by decide) (fun T h209 v X q => ?_)
  obtain ⟨rfl, KS209, b, kb, hb0, SS⟩ := q
  replace S_CS := Sta_keepL S_CS KS209 (allS (Pln_exa X_b203) (all0))
  replace S_FM := Sta_keepL S_FM KS209 (allS (Pln_exa X_b203) (all0))
  replace O := O.keep KS209 (allS ge_b203 (all0))
  replace X_b203 := X_b203.keep KS209
  show Go Γ n0 _ T (mkF Γ.m 212 #[.val (.int p0), .val (.int p1), .val (.int p2), .val (.long q3), .second, .val (.int zv), .val (.int zl), .val (.int zo), .val (.ref b24), .unset, .unset, .unset, .unset, .unset] [(.ref b203)])
  refine k_astore G X at_212 (pc' := 214) rfl rfl (l' := #[.val (.int p0), .val (.int p1), .val (.int p2), .val (.long q3), .second, .val (.int zv), .val (.int zl), .val (.int zo), .val (.ref b24), .val (.ref b203), .unset, .unset, .unset, .unset]) rfl ?_
  refine k_new G X (w45 hw) (w46 hw) (w47 hw) at_214 (pc' := 217) rfl (by decide) (by decide) (fun T h214 b214 s_b214 E214 X_b214 D214 X => ?_)
  have ne_b203_b214 : b203 ≠ b214 := Nat.ne_of_lt (Nat.lt_of_lt_of_eq X_b203.lt s_b214)
  have ne_b_b214 : b ≠ b214 := Nat.ne_of_lt (Nat.lt_of_lt_of_eq SS.lt' s_b214)
  have ge_b214 : n0 ≤ b214 := Nat.le_trans (Jvm.OwnK.Old_le O) (Nat.le_of_eq s_b214)
  replace O := O.ext E214
  replace S_CS := S_CS.ext E214
  replace S_FM := S_FM.ext E214
  replace X_b203 := X_b203.ext E214
  replace SS := SS.ext E214
  have F_b214_line : Fld Z h214 b214 "com/example/libinvariant/libinvariant/aiger/LineFields" "line" "Ljava/lang/String;" .null := D214 (Or.inr (w53 hw)) (ty := (.object "java/lang/String")) (by decide)
  have F_b214_space : Fld Z h214 b214 "com/example/libinvariant/libinvariant/aiger/LineFields" "space" "I" (.int (0 : Int32)) := D214 (Or.inl (w55 hw)) (ty := .int) (by decide)
  refine k_dup G X at_217 (pc' := 218) rfl rfl ?_
  refine k_aload G X at_218 (pc' := 220) rfl rfl rfl ?_
  refine k_iload G X at_220 (pc' := 222) rfl rfl ?_
  refine k_callI G X (argsL := [(.ref b203), (.int zo)]) (rest := [(.ref b214)]) rfl rfl (w48 hw) (w49 hw) (w47 hw) (w50 hw) (by decide) (lf_init hw b214 b203 zo h214 n0 ge_b214 X_b214 F_b214_line F_b214_space) at_222 pd17 rfl (pc' := 225) rfl rfl (wd := 1) rfl (by decide) (by decide) (by decide) (by decide) (fun T h222 v X q => ?_)
  obtain ⟨rfl, KI, E_lf, FL, FS⟩ := q
  replace S_CS := Sta_keepL S_CS KI (allS (Pln_exa X_b214) (all0))
  replace S_FM := Sta_keepL S_FM KI (allS (Pln_exa X_b214) (all0))
  replace O := O.keep KI (allS ge_b214 (all0))
  replace X_b203 := X_b203.keep KI
  replace SS := SS.keep KI (by simp only [List.mem_cons, List.not_mem_nil, or_false, not_or]; exact ne_b203_b214) (by simp only [List.mem_cons, List.not_mem_nil, or_false, not_or]; exact ne_b_b214)
  replace X_b214 := X_b214.keep KI
  show Go Γ n0 _ T (mkF Γ.m 225 #[.val (.int p0), .val (.int p1), .val (.int p2), .val (.long q3), .second, .val (.int zv), .val (.int zl), .val (.int zo), .val (.ref b24), .val (.ref b203), .unset, .unset, .unset, .unset] [(.ref b214)])
  refine k_astore G X at_225 (pc' := 227) rfl rfl (l' := #[.val (.int p0), .val (.int p1), .val (.int p2), .val (.long q3), .second, .val (.int zv), .val (.int zl), .val (.int zo), .val (.ref b24), .val (.ref b203), .val (.ref b214), .unset, .unset, .unset]) rfl ?_
  refine k_aload G X at_227 (pc' := 229) rfl rfl rfl ?_
  refine k_ldcS G X (n := 20) (w56 hw) (strAtoms hw) at_229 (pc' := 231) rfl (by decide) (by decide) (by decide) (by decide) (fun T h229 s229 E229 X => ?_)
  replace O := O.ext E229
  replace S_CS := S_CS.ext E229
  replace S_FM := S_FM.ext E229
  replace X_b203 := X_b203.ext E229
  replace SS := SS.ext E229
  replace X_b214 := X_b214.ext E229
  replace FL := FL.ext E229
  replace FS := FS.ext E229
  refine k_callV G X (argsL := [(.ref s229)]) (rest := []) rfl X_b214 (w59 hw) (w60 hw) (nf_sel (w62 hw)) (w62 hw) (w61 hw) (w47 hw) (w63 hw) (by decide) (lf_next hw b214 b203 b s229 kb zo cs fm cc o len V h229 n0 ge_b214 X_b214 FL FS SS ne_b203_b214 ne_b_b214 S_CS hcs S_FM hfm ho ho9 hl1 hl9 hcc hdg h32 hV) at_231 pd18 rfl (pc' := 234) rfl rfl (wd := 0) rfl (by decide) (by decide) (by decide) (by decide) (fun T h231 v X q => ?_)
  obtain ⟨got, sp, rfl, KN, hgot, hspp, E_lf', FL', FS', SS'⟩ := q
  replace S_CS := Sta_keepL S_CS KN (allS (Pln_exa X_b214) (all0))
  replace S_FM := Sta_keepL S_FM KN (allS (Pln_exa X_b214) (all0))
  replace O := O.keep KN (allS ge_b214 (all0))
  replace X_b203 := X_b203.keep KN
  replace X_b214 := X_b214.keep KN
  have FL := FL'
  have FS := FS'
  have SS := SS'
  show Go Γ n0 _ T (mkF Γ.m 234 #[.val (.int p0), .val (.int p1), .val (.int p2), .val (.long q3), .second, .val (.int zv), .val (.int zl), .val (.int zo), .val (.ref b24), .val (.ref b203), .val (.ref b214), .unset, .unset, .unset] [(.int got)])
  refine k_istore G X at_234 (pc' := 236) rfl (l' := #[.val (.int p0), .val (.int p1), .val (.int p2), .val (.long q3), .second, .val (.int zv), .val (.int zl), .val (.int zo), .val (.ref b24), .val (.ref b203), .val (.ref b214), .val (.int got), .unset, .unset]) rfl ?_
  refine k_iload G X at_236 (pc' := 238) rfl rfl ?_
  refine k_bipush G X at_238 (pc' := 240) rfl (z := (10 : Int32)) (by decide) ?_
  refine k_icmp_ne G X at_240 (pc' := 248) rfl (by decide) (pc'' := 243) rfl (fun c240 => ?_) (fun c240 => ?_)
  · refine k_iload G X at_248 (pc' := 250) rfl rfl ?_
    refine k_iload G X at_250 (pc' := 252) rfl rfl ?_
    refine k_callS G X (argsL := [(.int zl)]) (rest := [(.int zv)]) rfl (w6 hw) (w7 hw) (w4 hw) (w8 hw) (by decide) (pow10 hw zl len h231 n0 hl (by have : zl.toInt ≠ 10 := fun q => c240 (of_toInt (by rw [q]; rfl)); omega) O) at_252 pd0 rfl (pc' := 255) rfl rfl (wd := 1) rfl (by decide) (by decide) (by decide) (by decide) (fun T h252 v X q => ?_)
    obtain ⟨p10, rfl, K252, hp10⟩ := q
    replace S_CS := Jvm.OwnK.Sta_keep S_CS K252
    replace S_FM := Jvm.OwnK.Sta_keep S_FM K252
    replace O := O.keep K252 (all0)
    replace X_b203 := X_b203.keep K252
    replace X_b214 := X_b214.keep K252
    replace FL := FL.keep K252 nin0
    replace FS := FS.keep K252 nin0
    replace SS := SS.keep K252 nin0 nin0
    show Go Γ n0 _ T (mkF Γ.m 255 #[.val (.int p0), .val (.int p1), .val (.int p2), .val (.long q3), .second, .val (.int zv), .val (.int zl), .val (.int zo), .val (.ref b24), .val (.ref b203), .val (.ref b214), .val (.int got), .unset, .unset] [(.int p10), (.int zv)])
    refine k_irem G X at_255 (pc' := 256) rfl (by intro q; rw [q] at hp10; rw [z32] at hp10; have := pw_pos len; omega) rfl ?_
    have hex : got = (zv % p10) := of_toInt (by rw [(c_irem zv p10 _ hp10).1 (by omega), hgot, hv]; simp)
    refine k_istore G X at_256 (pc' := 258) rfl (l' := #[.val (.int p0), .val (.int p1), .val (.int p2), .val (.long q3), .second, .val (.int zv), .val (.int zl), .val (.int zo), .val (.ref b24), .val (.ref b203), .val (.ref b214), .val (.int got), .val (.int (zv % p10)), .unset]) rfl ?_
    refine k_aload G X at_258 (pc' := 260) rfl rfl rfl ?_
    refine k_callV G X (argsL := []) (rest := []) rfl X_b214 (w119 hw) (w120 hw) (nf_sel (w122 hw)) (w122 hw) (w121 hw) (w47 hw) (w123 hw) (by decide) (lf_has hw b214 b203 b kb sp cs cc (o + len) h252 n0 FL FS SS S_CS hcs hspp) at_260 pd4 rfl (pc' := 263) rfl rfl (wd := 0) rfl (by decide) (by decide) (by decide) (by decide) (fun T h260 v X q => ?_)
    obtain ⟨mo, rfl, hmo1, hmo0, e260⟩ := q
    replace X := X.eq e260
    show Go Γ n0 _ T (mkF Γ.m 263 #[.val (.int p0), .val (.int p1), .val (.int p2), .val (.long q3), .second, .val (.int zv), .val (.int zl), .val (.int zo), .val (.ref b24), .val (.ref b203), .val (.ref b214), .val (.int got), .val (.int (zv % p10)), .unset] [(.int mo)])
    refine k_istore G X at_263 (pc' := 265) rfl (l' := #[.val (.int p0), .val (.int p1), .val (.int p2), .val (.long q3), .second, .val (.int zv), .val (.int zl), .val (.int zo), .val (.ref b24), .val (.ref b203), .val (.ref b214), .val (.int got), .val (.int (zv % p10)), .val (.int mo)]) rfl ?_
    refine k_iload G X at_265 (pc' := 267) rfl rfl ?_
    refine k_iload G X at_267 (pc' := 269) rfl rfl ?_
    refine k_icmp_ne G X at_269 (pc' := 296) rfl (by decide) (pc'' := 272) rfl (fun c269 => (absurd c269 (by simp [hex]))) (fun c269 => ?_)
    refine k_iload G X at_272 (pc' := 274) rfl rfl ?_
    refine k_iload G X at_274 (pc' := 276) rfl rfl ?_
    refine k_iload G X at_276 (pc' := 278) rfl rfl ?_
    refine k_iadd G X at_278 (pc' := 279) rfl rfl ?_
    refine k_bipush G X at_279 (pc' := 281) rfl (z := (11 : Int32)) (by decide) ?_
    have hol : (zo + zl).toInt = (o + len : Nat) := by rw [iadd_toInt (by omega) (by omega)]; omega
    have e11 : (11 : Int32).toInt = 11 := rfl
    refine k_icmp_ge G X at_281 (pc' := 288) rfl (by decide) (pc'' := 284) rfl (fun c281 => ?_) (fun c281 => ?_)
    · refine k_iconst G X at_288 (pc' := 289) rfl (z := (0 : Int32)) (by decide) ?_
      refine k_icmp_ne G X at_289 (pc' := 296) rfl (by decide) (pc'' := 292) rfl (fun c289 => (absurd c289 (by first | (rw [hmo1 (by omega)]; simp) | (rw [hmo0 (by omega)]; simp)))) (fun c289 => ?_)
      refine k_iconst G X at_292 (pc' := 293) rfl (z := (1 : Int32)) (by decide) ?_
      refine k_goto G X at_293 (by decide) (pc' := 297) rfl ?_
      refine k_retb G X at_297 (t := .boolean) rfl (by simp) rfl ?_ (by decide) (by decide)
      rfl
    · refine k_iconst G X at_284 (pc' := 285) rfl (z := (1 : Int32)) (by decide) ?_
      refine k_goto G X at_285 (by decide) (pc' := 289) rfl ?_
      refine k_icmp_ne G X at_289 (pc' := 296) rfl (by decide) (pc'' := 292) rfl (fun c289 => (absurd c289 (by first | (rw [hmo1 (by omega)]; simp) | (rw [hmo0 (by omega)]; simp)))) (fun c289 => ?_)
      refine k_iconst G X at_292 (pc' := 293) rfl (z := (1 : Int32)) (by decide) ?_
      refine k_goto G X at_293 (by decide) (pc' := 297) rfl ?_
      refine k_retb G X at_297 (t := .boolean) rfl (by simp) rfl ?_ (by decide) (by decide)
      rfl
  · refine k_iload G X at_243 (pc' := 245) rfl rfl ?_
    refine k_goto G X at_245 (by decide) (pc' := 256) rfl ?_
    have hex : got = zv := of_toInt (by have e10 : zl.toInt = 10 := congrArg Int32.toInt c240; rw [hgot, hv, show len = 10 by omega, Nat.mod_eq_of_lt (by omega)])
    refine k_istore G X at_256 (pc' := 258) rfl (l' := #[.val (.int p0), .val (.int p1), .val (.int p2), .val (.long q3), .second, .val (.int zv), .val (.int zl), .val (.int zo), .val (.ref b24), .val (.ref b203), .val (.ref b214), .val (.int got), .val (.int zv), .unset]) rfl ?_
    refine k_aload G X at_258 (pc' := 260) rfl rfl rfl ?_
    refine k_callV G X (argsL := []) (rest := []) rfl X_b214 (w119 hw) (w120 hw) (nf_sel (w122 hw)) (w122 hw) (w121 hw) (w47 hw) (w123 hw) (by decide) (lf_has hw b214 b203 b kb sp cs cc (o + len) h231 n0 FL FS SS S_CS hcs hspp) at_260 pd4 rfl (pc' := 263) rfl rfl (wd := 0) rfl (by decide) (by decide) (by decide) (by decide) (fun T h260 v X q => ?_)
    obtain ⟨mo, rfl, hmo1, hmo0, e260⟩ := q
    replace X := X.eq e260
    show Go Γ n0 _ T (mkF Γ.m 263 #[.val (.int p0), .val (.int p1), .val (.int p2), .val (.long q3), .second, .val (.int zv), .val (.int zl), .val (.int zo), .val (.ref b24), .val (.ref b203), .val (.ref b214), .val (.int got), .val (.int zv), .unset] [(.int mo)])
    refine k_istore G X at_263 (pc' := 265) rfl (l' := #[.val (.int p0), .val (.int p1), .val (.int p2), .val (.long q3), .second, .val (.int zv), .val (.int zl), .val (.int zo), .val (.ref b24), .val (.ref b203), .val (.ref b214), .val (.int got), .val (.int zv), .val (.int mo)]) rfl ?_
    refine k_iload G X at_265 (pc' := 267) rfl rfl ?_
    refine k_iload G X at_267 (pc' := 269) rfl rfl ?_
    refine k_icmp_ne G X at_269 (pc' := 296) rfl (by decide) (pc'' := 272) rfl (fun c269 => (absurd c269 (by simp [hex]))) (fun c269 => ?_)
    refine k_iload G X at_272 (pc' := 274) rfl rfl ?_
    refine k_iload G X at_274 (pc' := 276) rfl rfl ?_
    refine k_iload G X at_276 (pc' := 278) rfl rfl ?_
    refine k_iadd G X at_278 (pc' := 279) rfl rfl ?_
    refine k_bipush G X at_279 (pc' := 281) rfl (z := (11 : Int32)) (by decide) ?_
    have hol : (zo + zl).toInt = (o + len : Nat) := by rw [iadd_toInt (by omega) (by omega)]; omega
    have e11 : (11 : Int32).toInt = 11 := rfl
    refine k_icmp_ge G X at_281 (pc' := 288) rfl (by decide) (pc'' := 284) rfl (fun c281 => ?_) (fun c281 => ?_)
    · refine k_iconst G X at_288 (pc' := 289) rfl (z := (0 : Int32)) (by decide) ?_
      refine k_icmp_ne G X at_289 (pc' := 296) rfl (by decide) (pc'' := 292) rfl (fun c289 => (absurd c289 (by first | (rw [hmo1 (by omega)]; simp) | (rw [hmo0 (by omega)]; simp)))) (fun c289 => ?_)
      refine k_iconst G X at_292 (pc' := 293) rfl (z := (1 : Int32)) (by decide) ?_
      refine k_goto G X at_293 (by decide) (pc' := 297) rfl ?_
      refine k_retb G X at_297 (t := .boolean) rfl (by simp) rfl ?_ (by decide) (by decide)
      rfl
    · refine k_iconst G X at_284 (pc' := 285) rfl (z := (1 : Int32)) (by decide) ?_
      refine k_goto G X at_285 (by decide) (pc' := 289) rfl ?_
      refine k_icmp_ne G X at_289 (pc' := 296) rfl (by decide) (pc'' := 292) rfl (fun c289 => (absurd c289 (by first | (rw [hmo1 (by omega)]; simp) | (rw [hmo0 (by omega)]; simp)))) (fun c289 => ?_)
      refine k_iconst G X at_292 (pc' := 293) rfl (z := (1 : Int32)) (by decide) ?_
      refine k_goto G X at_293 (by decide) (pc' := 297) rfl ?_
      refine k_retb G X at_297 (t := .boolean) rfl (by simp) rfl ?_ (by decide) (by decide)
      rfl
set_option maxRecDepth 65536 in
set_option maxHeartbeats 40000000 in
theorem comes_1 {Post : Tables → Env → Array Value → State → Outcome → State → Prop} (hpost : ∀ tb e args s v u, (limb_1_1.after args s (.returned v) u = true ∧ limb_1_2.after args s (.returned v) u = true ∧ True) → ReturnedEndW s (.returned v) u (Jvm.fieldLocs frame_1_writes args s ++ Jvm.arrayLocs frame_1_arrays args s ++ Jvm.staticLocs frame_1_statics s) 40 1408 → Post tb e args s (.returned v) u) :
    ArmFor flags0 classFile x code maxLocals ret World_1 tables_1 room_1 Calls_1 rest_1 Pre_1 Post := by
  intro l hfl _ _ p e ha hc hk s m args below hf hA hF happ hP
  obtain ⟨hcalls, hrest, hpre⟩ := hP
  obtain ⟨-, -, -, hnamed, -, -, -, hat⟩ := (Spec.applies_iff hf).mp happ
  obtain ⟨hg, hn⟩ := and_e (Cond.before_iff.mp (show (Jvm.Cond.and given_1 narrow_1).before args s = true from hpre))
  obtain ⟨hg0, hgr0⟩ := and_e hg
  obtain ⟨hg1, hgr1⟩ := and_e hgr0
  obtain ⟨hg2, hgr2⟩ := and_e hgr1
  obtain ⟨hg3, hgr3⟩ := and_e hgr2
  obtain ⟨w0', w1', w2', w3', rfl⟩ : ∃ w0' w1' w2' w3' : Value, args = #[w0', w1', w2', w3'] := by
    have hs : args.size = 4 := by simpa [Cond.value, given_1] using hg0
    obtain ⟨L⟩ := args
    match L, hs with
    | [w0', w1', w2', w3'], _ => exact ⟨w0', w1', w2', w3', rfl⟩
  have hw : HW _ s := fun d (hd : d ∈ tables_1) => atoms_spec (ws := Jvm.Cond.code x code maxLocals ret :: tables_1) hat d (List.mem_cons_of_mem _ hd)
  have hfit : Fit s := fun {y c} hc i hi => by
    obtain ⟨ha, rfl⟩ := Array.getElem?_eq_some_iff.mp hc
    have q := List.all_eq_true.mp ((Array.all_eq_true_iff_forall_mem.mp hF) _ (Array.getElem_mem ha)) i (List.mem_range.mpr hi)
    simpa [Array.getElem?_eq_getElem hi] using q
  obtain ⟨hsets, hown0⟩ := atoms_of _ (rest_1_c_eq ▸ (show rest_1_c.before _ s = true from hrest))
  have hr0 := Cond.before_iff.mp hown0
  obtain ⟨i0, ei0⟩ := is_v hg1
  obtain rfl : w0' = (.int i0) := Option.some.inj ei0
  obtain ⟨i1, ei1⟩ := is_v hg2
  obtain rfl : w1' = (.int i1) := Option.some.inj ei1
  obtain ⟨i2, ei2⟩ := is_v hg3
  obtain rfl : w2' = (.int i2) := Option.some.inj ei2
  obtain ⟨i3, ei3⟩ := isL_v hgr3
  obtain rfl : w3' = (.long i3) := Option.some.inj ei3
  obtain ⟨cs, S_CS, hcs⟩ := s_cs (hsets _ (List.mem_of_getElem? (i := 0) rfl)) (hsets _ (List.mem_of_getElem? (i := 1) rfl)) (hsets _ (List.mem_of_getElem? (i := 2) rfl))
  obtain ⟨fm, S_FM, hfm⟩ := s_isRef (hsets _ (List.mem_of_getElem? (i := 7) rfl)) (hsets _ (List.mem_of_getElem? (i := 8) rfl))
  obtain ⟨n, o, h1, h2, h3, _, L, rfl, ⟨rfl, N⟩, hq⟩ := rm0 hw i0 i1 i2 cs i3 fm s.heap s.heap.size (Old.start s) S_CS hcs S_FM hfm l p e ha hc hk s m _ below hf ((Spec.applies_iff_loose hf).mp happ).1 ⟨rfl, State.Warmed39.refl s, rfl⟩ trivial
  exact ⟨n, _, h1, h2, h3, hpost _ _ _ _ _ _ ⟨Cond.after_iff.mpr rfl, Cond.after_iff.mpr (eq_i res_at (Term.int_eval (1)) rfl), trivial⟩ ⟨hq.1, hq.2.1, hq.2.2.1, (hq.2.2.2.sift fun y hy => Or.inr (N y hy)).mono (by decide) (by decide)⟩⟩
theorem main_1_1 : Claimed_1_1 := comes_1 fun _ _ _ _ _ _ h hF => ⟨h.1, hF⟩
theorem main_1_2 : Claimed_1_2 := comes_1 fun _ _ _ _ _ _ h hF => ⟨h.2.1, hF⟩
end Jvm.Pilot.@@N@@
namespace Jvm.Pilot.@@N@@
open Jvm Jvm.ClassFile Sem Op Lib Jvm.Free Jvm.Stand Jvm.Pilot.@@N@@.Jvm.D
/-! MADE BY PROGRAM (witnessworld.py) out of the Statement's table words and the real class files: 21 classes; the members and pool entries that the words name. The judged class is class 1, her method 1. -/
namespace start1
open Jvm.ClassFile
def u (s : String) : CpInfo := .utf8 (stringToUtf16 s)
/-- a pool by its gaps: so many unusable entries, then the entry; so many at the end -/
def gap : Nat → List CpInfo → List CpInfo
  | 0, r => r
  | n + 1, r => .unusable :: gap n r
def poolList (es : List (Nat × CpInfo)) (last : Nat) : List CpInfo := es.foldr (fun e r => gap e.1 (e.2 :: r)) (gap last [])
def pool (es : List (Nat × CpInfo)) (last : Nat) : Array CpInfo := ⟨poolList es last⟩
def fileOf (pool : Array CpInfo) (this : Nat) (attrs : Array Attribute := #[]) (ms : Array MethodInfo := #[]) (fl : Nat := 33) (sup : Nat := 0) (ifs : Array Nat := #[]) (fds : Array FieldInfo := #[]) : ClassFile where
  minorVersion := 0
  majorVersion := 65
  constantPool := pool
  accessFlags := fl
  thisClass := this
  superClass := sup
  interfaces := ifs
  fields := fds
  methods := ms
  attributes := attrs
def plain (name : String) (sup : Option ClassId) : Class where
  name := name
  kind := .ordinary
  loader := none
  accessFlags := 33
  super := sup
  interfaces := #[]
  cf := none
  fields := #[]
  methods := #[]
  instanceTypes := #[]
  staticTypes := #[]
  resolved := #[]
  callSites := []
  init := .initialized
  statics := none
  mirror := none

def pool0 : Array CpInfo := pool [(5, u "<init>"), (0, u "()V"), (1, .class_ 10), (1, u "java/lang/Object")] 113

def k0c0 : Code := { maxStack := 0, maxLocals := 1, code := object_method_1_code, exceptionTable := #[], attributes := #[] }
def k0m0 : Method := { name := "<init>", desc := "()V", sig := { parameters := [], returnType := none }, accessFlags := 1, code := some k0c0 }
/-- java/lang/Object -/
def k0 : Class := { plain "java/lang/Object" none with
  accessFlags := 33
  interfaces := #[]
  cf := some (fileOf pool0 8 #[] #[{ accessFlags := 1, nameIndex := 5, descriptorIndex := 6, attributes := #[] }] 33 0 #[] #[])
  fields := #[]
  methods := #[k0m0]
  instanceTypes := #[]
  staticTypes := #[]
  resolved := Array.replicate 124 none
  statics := none }

def pool1 : Array CpInfo := pool [(2, .class_ 4), (1, u "java/lang/Object"), (0, u "<init>"), (0, u "()V"), (0, .integer 2147483647), (0, .methodref 9 10), (0, .class_ 11), (0, .nameAndType 12 13), (0, u "com/example/libinvariant/libinvariant/aiger/LineFieldsNextPinLaw"), (0, u "ch"), (0, u "(IIIIJ)C"), (0, .class_ 15), (0, u "java/lang/String"), (0, .methodref 14 17), (0, .nameAndType 5 18), (0, u "([C)V"), (0, .class_ 20), (0, u "com/example/libinvariant/libinvariant/aiger/LineFields"), (0, .methodref 19 22), (0, .nameAndType 5 23), (0, u "(Ljava/lang/String;I)V"), (0, .string 25), (0, u "field"), (0, .methodref 19 27), (0, .nameAndType 28 29), (0, u "next"), (0, u "(Ljava/lang/String;)I"), (0, .methodref 9 31), (0, .nameAndType 32 33), (0, u "pow10"), (0, u "(I)I"), (0, .methodref 19 35), (0, .nameAndType 36 37), (0, u "hasNext"), (0, u "()Z"), (0, .integer 100000), (0, .integer 1000000), (0, .integer 10000000), (0, .integer 100000000), (0, .integer 1000000000), (0, .long 255), (3, u "law"), (0, u "(IIIJ)Z")] 8

def k1m0 : Method := { name := "<init>", desc := "()V", sig := { parameters := [], returnType := none }, accessFlags := 1, code := none }
def k1c1 : Code := { maxStack := 8, maxLocals := 14, code := code, exceptionTable := #[], attributes := #[] }
def k1m1 : Method := { name := "law", desc := "(IIIJ)Z", sig := { parameters := [.int, .int, .int, .long], returnType := some .boolean }, accessFlags := 9, code := some k1c1 }
def k1c2 : Code := { maxStack := 4, maxLocals := 2, code := method_3_code, exceptionTable := #[], attributes := #[] }
def k1m2 : Method := { name := "pow10", desc := "(I)I", sig := { parameters := [.int], returnType := some .int }, accessFlags := 10, code := some k1c2 }
def k1c3 : Code := { maxStack := 4, maxLocals := 6, code := method_4_code, exceptionTable := #[], attributes := #[] }
def k1m3 : Method := { name := "ch", desc := "(IIIIJ)C", sig := { parameters := [.int, .int, .int, .int, .long], returnType := some .char }, accessFlags := 10, code := some k1c3 }
/-- com/example/libinvariant/libinvariant/aiger/LineFieldsNextPinLaw -/
def k1 : Class := { plain "com/example/libinvariant/libinvariant/aiger/LineFieldsNextPinLaw" (some 0) with
  accessFlags := 49
  interfaces := #[]
  cf := some (fileOf pool1 9 #[] #[{ accessFlags := 1, nameIndex := 5, descriptorIndex := 6, attributes := #[] }, { accessFlags := 9, nameIndex := 47, descriptorIndex := 48, attributes := #[] }, { accessFlags := 10, nameIndex := 32, descriptorIndex := 33, attributes := #[] }, { accessFlags := 10, nameIndex := 12, descriptorIndex := 13, attributes := #[] }] 49 2 #[] #[])
  fields := #[]
  methods := #[k1m0, k1m1, k1m2, k1m3]
  instanceTypes := #[]
  staticTypes := #[]
  resolved := Array.replicate 57 none
  statics := none }

def pool2 : Array CpInfo := pool [(1, .class_ 2), (0, u "java/io/Serializable"), (0, .class_ 4), (0, u "java/lang/Object")] 2

/-- java/io/Serializable -/
def k2 : Class := { plain "java/io/Serializable" (some 0) with
  accessFlags := 1537
  interfaces := #[]
  cf := some (fileOf pool2 1 #[] #[] 1537 3 #[] #[])
  fields := #[]
  methods := #[]
  instanceTypes := #[]
  staticTypes := #[]
  resolved := Array.replicate 7 none
  statics := none }

def pool3 : Array CpInfo := pool [(1, .class_ 2), (0, u "java/lang/Comparable"), (0, .class_ 4), (0, u "java/lang/Object")] 7

/-- java/lang/Comparable -/
def k3 : Class := { plain "java/lang/Comparable" (some 0) with
  accessFlags := 1537
  interfaces := #[]
  cf := some (fileOf pool3 1 #[] #[] 1537 3 #[] #[])
  fields := #[]
  methods := #[]
  instanceTypes := #[]
  staticTypes := #[]
  resolved := Array.replicate 12 none
  statics := none }

def pool4 : Array CpInfo := pool [(2, .class_ 4), (1, u "java/lang/CharSequence"), (42, .class_ 48), (0, u "java/lang/CharSequence$1CodePointIterator"), (10, .class_ 60), (0, u "java/lang/CharSequence$1CharIterator"), (5, .class_ 67), (0, u "java/lang/Object")] 63

/-- java/lang/CharSequence -/
def k4 : Class := { plain "java/lang/CharSequence" (some 0) with
  accessFlags := 1537
  interfaces := #[]
  cf := some (fileOf pool4 2 #[.nestMembers #[47, 59]] #[] 1537 66 #[] #[])
  fields := #[]
  methods := #[]
  instanceTypes := #[]
  staticTypes := #[]
  resolved := Array.replicate 131 none
  statics := none }

def pool5 : Array CpInfo := pool [(1, .class_ 2), (0, u "java/lang/constant/Constable"), (0, .class_ 4), (0, u "java/lang/Object")] 6

/-- java/lang/constant/Constable -/
def k5 : Class := { plain "java/lang/constant/Constable" (some 0) with
  accessFlags := 1537
  interfaces := #[]
  cf := some (fileOf pool5 1 #[] #[] 1537 3 #[] #[])
  fields := #[]
  methods := #[]
  instanceTypes := #[]
  staticTypes := #[]
  resolved := Array.replicate 11 none
  statics := none }

def pool6 : Array CpInfo := pool [(1, .class_ 2), (0, u "java/lang/constant/ConstantDesc"), (0, .class_ 4), (0, u "java/lang/Object")] 32

/-- java/lang/constant/ConstantDesc -/
def k6 : Class := { plain "java/lang/constant/ConstantDesc" (some 0) with
  accessFlags := 1537
  interfaces := #[]
  cf := some (fileOf pool6 1 #[] #[] 1537 3 #[] #[])
  fields := #[]
  methods := #[]
  instanceTypes := #[]
  staticTypes := #[]
  resolved := Array.replicate 37 none
  statics := none }

def pool7 : Array CpInfo := pool [(1, .methodref 2 3), (0, .class_ 4), (0, .nameAndType 5 6), (0, u "java/lang/Object"), (0, u "<init>"), (0, u "()V"), (2, .fieldref 10 11), (0, .class_ 12), (0, .nameAndType 13 14), (0, u "java/lang/String"), (0, u "value"), (0, u "[B"), (0, .fieldref 10 16), (0, .nameAndType 17 18), (0, u "coder"), (0, u "B"), (2, u "hash"), (0, u "I"), (2, u "hashIsZero"), (0, u "Z"), (0, .methodref 10 28), (0, .nameAndType 5 29), (0, u "([CIILjava/lang/Void;)V"), (8, .fieldref 10 39), (0, .nameAndType 40 26), (0, u "COMPACT_STRINGS"), (1, .class_ 44), (1, u "java/lang/StringUTF16"), (0, u "compress"), (1, .methodref 42 48), (0, .nameAndType 49 50), (0, u "coderFromArrayLen"), (0, u "([BI)B"), (56, .class_ 109), (1, u "java/lang/StringLatin1"), (32, u "()Z"), (34, .methodref 42 178), (0, .nameAndType 45 179), (0, u "([CII)[B"), (154, u "()I"), (0, .methodref 10 336), (0, .nameAndType 17 337), (0, u "()B"), (25, u "([BI)C"), (27, u "(II)V"), (35, u "(I)C"), (64, .methodref 10 493), (0, .nameAndType 494 142), (0, u "isLatin1"), (0, .methodref 107 496), (0, .nameAndType 497 363), (0, u "charAt"), (3, u "checkIndex"), (3, .methodref 10 506), (0, .nameAndType 507 334), (0, u "length"), (67, .class_ 576), (0, u "java/lang/CharSequence"), (22, u "CASE_INSENSITIVE_ORDER"), (0, u "Ljava/util/Comparator;"), (34, u "indexOf"), (0, u "(II)I"), (0, .methodref 107 638), (0, .nameAndType 635 639), (0, u "([BIII)I"), (370, u "([C)V"), (42, .fieldref 1054 1055), (0, .class_ 1056), (0, .nameAndType 1057 1058), (0, u "jdk/internal/util/Preconditions"), (0, u "SIOOBE_FORMATTER"), (0, u "Ljava/util/function/BiFunction;"), (0, .methodref 1054 1060), (0, .nameAndType 501 1061), (0, u "(IILjava/util/function/BiFunction;)I"), (39, u "serialPersistentFields"), (0, u "[Ljava/io/ObjectStreamField;"), (0, .class_ 1104), (0, u "java/lang/String$CaseInsensitiveComparator"), (1, .class_ 1107), (0, u "java/io/Serializable"), (0, .class_ 1109), (0, u "java/lang/Comparable"), (0, .class_ 1111), (0, u "java/lang/constant/Constable"), (0, .class_ 1113), (0, u "java/lang/constant/ConstantDesc"), (2, u "serialVersionUID"), (0, u "J"), (3, u "REPL"), (0, u "C"), (2, u "LATIN1"), (1, u "UTF16")] 323

def k7m0 : Method := { name := "<init>", desc := "()V", sig := { parameters := [], returnType := none }, accessFlags := 1, code := none }
def k7c1 : Code := { maxStack := 5, maxLocals := 2, code := jdk_42_method_3_code, exceptionTable := #[], attributes := #[] }
def k7m1 : Method := { name := "<init>", desc := "([C)V", sig := { parameters := [(.array .char)], returnType := none }, accessFlags := 1, code := some k7c1 }
def k7c2 : Code := { maxStack := 2, maxLocals := 1, code := jdk_42_method_54_code, exceptionTable := #[], attributes := #[] }
def k7m2 : Method := { name := "length", desc := "()I", sig := { parameters := [], returnType := some .int }, accessFlags := 1, code := some k7c2 }
def k7c3 : Code := { maxStack := 2, maxLocals := 2, code := jdk_42_method_56_code, exceptionTable := #[], attributes := #[] }
def k7m3 : Method := { name := "charAt", desc := "(I)C", sig := { parameters := [.int], returnType := some .char }, accessFlags := 1, code := some k7c3 }
def k7c4 : Code := { maxStack := 4, maxLocals := 3, code := jdk_42_method_80_code, exceptionTable := #[], attributes := #[] }
def k7m4 : Method := { name := "indexOf", desc := "(II)I", sig := { parameters := [.int, .int], returnType := some .int }, accessFlags := 1, code := some k7c4 }
def k7c5 : Code := { maxStack := 4, maxLocals := 6, code := jdk_42_method_149_code, exceptionTable := #[], attributes := #[] }
def k7m5 : Method := { name := "<init>", desc := "([CIILjava/lang/Void;)V", sig := { parameters := [(.array .char), .int, .int, (.object "java/lang/Void")], returnType := none }, accessFlags := 2, code := some k7c5 }
def k7c6 : Code := { maxStack := 1, maxLocals := 1, code := jdk_42_method_152_code, exceptionTable := #[], attributes := #[] }
def k7m6 : Method := { name := "coder", desc := "()B", sig := { parameters := [], returnType := some .byte }, accessFlags := 0, code := some k7c6 }
def k7c7 : Code := { maxStack := 1, maxLocals := 1, code := jdk_42_method_154_code, exceptionTable := #[], attributes := #[] }
def k7m7 : Method := { name := "isLatin1", desc := "()Z", sig := { parameters := [], returnType := some .boolean }, accessFlags := 0, code := some k7c7 }
def k7c8 : Code := { maxStack := 3, maxLocals := 2, code := jdk_42_method_155_code, exceptionTable := #[], attributes := #[] }
def k7m8 : Method := { name := "checkIndex", desc := "(II)V", sig := { parameters := [.int, .int], returnType := none }, accessFlags := 8, code := some k7c8 }
/-- java/lang/String -/
def k7 : Class := { plain "java/lang/String" (some 0) with
  accessFlags := 49
  interfaces := #[2, 3, 4, 5, 6]
  cf := some (fileOf pool7 10 #[.nestMembers #[1103]] #[{ accessFlags := 1, nameIndex := 5, descriptorIndex := 6, attributes := #[] }, { accessFlags := 1, nameIndex := 5, descriptorIndex := 1010, attributes := #[] }, { accessFlags := 1, nameIndex := 507, descriptorIndex := 334, attributes := #[] }, { accessFlags := 1, nameIndex := 497, descriptorIndex := 427, attributes := #[] }, { accessFlags := 1, nameIndex := 635, descriptorIndex := 636, attributes := #[] }, { accessFlags := 2, nameIndex := 5, descriptorIndex := 29, attributes := #[] }, { accessFlags := 0, nameIndex := 17, descriptorIndex := 337, attributes := #[] }, { accessFlags := 0, nameIndex := 494, descriptorIndex := 142, attributes := #[] }, { accessFlags := 8, nameIndex := 501, descriptorIndex := 391, attributes := #[] }] 49 2 #[1106, 1108, 575, 1110, 1112] #[{ accessFlags := 18, nameIndex := 13, descriptorIndex := 14, attributes := #[] }, { accessFlags := 18, nameIndex := 17, descriptorIndex := 18, attributes := #[] }, { accessFlags := 2, nameIndex := 21, descriptorIndex := 22, attributes := #[] }, { accessFlags := 2, nameIndex := 25, descriptorIndex := 26, attributes := #[] }, { accessFlags := 26, nameIndex := 1116, descriptorIndex := 1117, attributes := #[] }, { accessFlags := 24, nameIndex := 40, descriptorIndex := 26, attributes := #[] }, { accessFlags := 26, nameIndex := 1101, descriptorIndex := 1102, attributes := #[] }, { accessFlags := 26, nameIndex := 1121, descriptorIndex := 1122, attributes := #[] }, { accessFlags := 25, nameIndex := 599, descriptorIndex := 600, attributes := #[] }, { accessFlags := 24, nameIndex := 1125, descriptorIndex := 18, attributes := #[] }, { accessFlags := 24, nameIndex := 1127, descriptorIndex := 18, attributes := #[] }])
  fields := #[{ name := "value", type := (.array .byte), accessFlags := 18, slot := 0, constantValue := 0 }, { name := "coder", type := .byte, accessFlags := 18, slot := 1, constantValue := 0 }, { name := "hash", type := .int, accessFlags := 2, slot := 2, constantValue := 0 }, { name := "hashIsZero", type := .boolean, accessFlags := 2, slot := 3, constantValue := 0 }, { name := "serialVersionUID", type := .long, accessFlags := 26, slot := 0, constantValue := 0 }, { name := "COMPACT_STRINGS", type := .boolean, accessFlags := 24, slot := 1, constantValue := 0 }, { name := "serialPersistentFields", type := (.array (.object "java/io/ObjectStreamField")), accessFlags := 26, slot := 2, constantValue := 0 }, { name := "REPL", type := .char, accessFlags := 26, slot := 3, constantValue := 0 }, { name := "CASE_INSENSITIVE_ORDER", type := (.object "java/util/Comparator"), accessFlags := 25, slot := 4, constantValue := 0 }, { name := "LATIN1", type := .byte, accessFlags := 24, slot := 5, constantValue := 0 }, { name := "UTF16", type := .byte, accessFlags := 24, slot := 6, constantValue := 0 }]
  methods := #[k7m0, k7m1, k7m2, k7m3, k7m4, k7m5, k7m6, k7m7, k7m8]
  instanceTypes := #[(.array .byte), .byte, .int, .boolean]
  staticTypes := #[.long, .boolean, (.array (.object "java/io/ObjectStreamField")), .char, (.object "java/util/Comparator"), .byte, .byte]
  resolved := Array.replicate 1451 none
  statics := some 0 }

def pool8 : Array CpInfo := pool [(6, .class_ 8), (1, u "java/lang/Object"), (0, u "<init>"), (0, u "()V"), (1, .class_ 14), (1, u "java/lang/StringUTF16"), (31, u "$assertionsDisabled"), (0, u "Z"), (13, u "HI_BYTE_SHIFT"), (0, u "I"), (2, u "LO_BYTE_SHIFT"), (49, .methodref 12 116), (0, .nameAndType 117 118), (0, u "compress"), (0, u "([CI[BII)I"), (3, u "([CII)[B"), (138, u "coderFromArrayLen"), (0, u "([BI)B"), (106, .class_ 371), (1, u "java/lang/StringUTF16$LinesSpliterator"), (58, u "MAX_LENGTH"), (196, .class_ 628), (0, u "java/lang/StringUTF16$CodePointsSpliterator"), (0, .class_ 630), (0, u "java/lang/StringUTF16$CharsSpliterator")] 4

def k8m0 : Method := { name := "<init>", desc := "()V", sig := { parameters := [], returnType := none }, accessFlags := 0, code := none }
def k8c1 : Code := { maxStack := 2, maxLocals := 2, code := jdk_52_method_15_code, exceptionTable := #[], attributes := #[] }
def k8m1 : Method := { name := "coderFromArrayLen", desc := "([BI)B", sig := { parameters := [(.array .byte), .int], returnType := some .byte }, accessFlags := 8, code := some k8c1 }
def k8c2 : Code := { maxStack := 5, maxLocals := 6, code := jdk_52_method_16_code, exceptionTable := #[], attributes := #[] }
def k8m2 : Method := { name := "compress", desc := "([CII)[B", sig := { parameters := [(.array .char), .int, .int], returnType := some (.array .byte) }, accessFlags := 9, code := some k8c2 }
def k8c3 : Code := { maxStack := 3, maxLocals := 7, code := jdk_52_method_21_code, exceptionTable := #[], attributes := #[] }
def k8m3 : Method := { name := "compress", desc := "([CI[BII)I", sig := { parameters := [(.array .char), .int, (.array .byte), .int, .int], returnType := some .int }, accessFlags := 9, code := some k8c3 }
/-- java/lang/StringUTF16 -/
def k8 : Class := { plain "java/lang/StringUTF16" (some 0) with
  accessFlags := 48
  interfaces := #[]
  cf := some (fileOf pool8 12 #[.nestMembers #[627, 629, 369]] #[{ accessFlags := 0, nameIndex := 9, descriptorIndex := 10, attributes := #[] }, { accessFlags := 8, nameIndex := 261, descriptorIndex := 262, attributes := #[] }, { accessFlags := 9, nameIndex := 117, descriptorIndex := 122, attributes := #[] }, { accessFlags := 9, nameIndex := 117, descriptorIndex := 118, attributes := #[] }] 48 6 #[] #[{ accessFlags := 26, nameIndex := 61, descriptorIndex := 62, attributes := #[] }, { accessFlags := 26, nameIndex := 65, descriptorIndex := 62, attributes := #[] }, { accessFlags := 24, nameIndex := 430, descriptorIndex := 62, attributes := #[] }, { accessFlags := 4120, nameIndex := 46, descriptorIndex := 47, attributes := #[] }])
  fields := #[{ name := "HI_BYTE_SHIFT", type := .int, accessFlags := 26, slot := 0, constantValue := 0 }, { name := "LO_BYTE_SHIFT", type := .int, accessFlags := 26, slot := 1, constantValue := 0 }, { name := "MAX_LENGTH", type := .int, accessFlags := 24, slot := 2, constantValue := 0 }, { name := "$assertionsDisabled", type := .boolean, accessFlags := 4120, slot := 3, constantValue := 0 }]
  methods := #[k8m0, k8m1, k8m2, k8m3]
  instanceTypes := #[]
  staticTypes := #[.int, .int, .int, .boolean]
  resolved := Array.replicate 635 none
  statics := none }

def pool9 : Array CpInfo := pool [(1, .methodref 2 3), (0, .class_ 4), (0, .nameAndType 5 6), (0, u "java/lang/Object"), (0, u "<init>"), (0, u "()V"), (0, .fieldref 8 9), (0, .class_ 10), (0, .nameAndType 11 12), (0, u "com/example/libinvariant/libinvariant/aiger/LineFields"), (0, u "line"), (0, u "Ljava/lang/String;"), (0, .fieldref 8 14), (0, .nameAndType 15 16), (0, u "space"), (0, u "I"), (0, .methodref 18 19), (0, .class_ 20), (0, .nameAndType 21 22), (0, u "java/lang/String"), (0, u "length"), (0, u "()I"), (0, .methodref 18 24), (0, .nameAndType 25 26), (0, u "indexOf"), (0, u "(II)I"), (9, .methodref 18 37), (0, .nameAndType 38 39), (0, u "charAt"), (0, u "(I)C"), (1, .long 10), (3, .long 2147483647), (2, u "(Ljava/lang/String;I)V"), (2, u "hasNext"), (0, u "()Z"), (1, u "next"), (0, u "(Ljava/lang/String;)I")] 22

def k9c0 : Code := { maxStack := 3, maxLocals := 3, code := prog_13_method_1_code, exceptionTable := #[], attributes := #[] }
def k9m0 : Method := { name := "<init>", desc := "(Ljava/lang/String;I)V", sig := { parameters := [(.object "java/lang/String"), .int], returnType := none }, accessFlags := 0, code := some k9c0 }
def k9c1 : Code := { maxStack := 2, maxLocals := 1, code := prog_13_method_2_code, exceptionTable := #[], attributes := #[] }
def k9m1 : Method := { name := "hasNext", desc := "()Z", sig := { parameters := [], returnType := some .boolean }, accessFlags := 0, code := some k9c1 }
def k9c2 : Code := { maxStack := 4, maxLocals := 8, code := prog_13_method_3_code, exceptionTable := #[], attributes := #[] }
def k9m2 : Method := { name := "next", desc := "(Ljava/lang/String;)I", sig := { parameters := [(.object "java/lang/String")], returnType := some .int }, accessFlags := 0, code := some k9c2 }
/-- com/example/libinvariant/libinvariant/aiger/LineFields -/
def k9 : Class := { plain "com/example/libinvariant/libinvariant/aiger/LineFields" (some 0) with
  accessFlags := 48
  interfaces := #[]
  cf := some (fileOf pool9 8 #[] #[{ accessFlags := 0, nameIndex := 5, descriptorIndex := 48, attributes := #[] }, { accessFlags := 0, nameIndex := 51, descriptorIndex := 52, attributes := #[] }, { accessFlags := 0, nameIndex := 54, descriptorIndex := 55, attributes := #[] }] 48 2 #[] #[{ accessFlags := 18, nameIndex := 11, descriptorIndex := 12, attributes := #[] }, { accessFlags := 2, nameIndex := 15, descriptorIndex := 16, attributes := #[] }])
  fields := #[{ name := "line", type := (.object "java/lang/String"), accessFlags := 18, slot := 0, constantValue := 0 }, { name := "space", type := .int, accessFlags := 2, slot := 1, constantValue := 0 }]
  methods := #[k9m0, k9m1, k9m2]
  instanceTypes := #[(.object "java/lang/String"), .int]
  staticTypes := #[]
  resolved := Array.replicate 78 none
  statics := none }

def pool10 : Array CpInfo := pool [(1, .class_ 2), (0, u "java/lang/String"), (1, .class_ 6), (1, u "java/lang/Object"), (0, u "<init>"), (0, u "()V"), (0, .methodref 1 10), (0, .nameAndType 11 12), (0, u "checkIndex"), (0, u "(II)V"), (1, .class_ 16), (1, u "java/lang/StringLatin1"), (21, .methodref 39 40), (0, .class_ 41), (0, .nameAndType 42 43), (0, u "java/lang/Math"), (0, u "min"), (0, u "(II)I"), (9, u "([BI)C"), (34, .methodref 14 89), (0, .nameAndType 90 91), (0, u "canEncode"), (0, u "(I)Z"), (0, .methodref 39 93), (0, .nameAndType 94 43), (0, u "max"), (0, .methodref 14 96), (0, .nameAndType 97 98), (0, u "indexOfChar"), (0, u "([BIII)I"), (2, u "indexOf"), (19, u "$assertionsDisabled"), (0, u "Z"), (98, .class_ 223), (1, u "java/lang/StringLatin1$LinesSpliterator"), (28, u "charAt"), (137, .class_ 391), (0, u "java/lang/StringLatin1$CharsSpliterator")] 3

def k10m0 : Method := { name := "<init>", desc := "()V", sig := { parameters := [], returnType := none }, accessFlags := 0, code := none }
def k10c1 : Code := { maxStack := 2, maxLocals := 2, code := jdk_43_method_2_code, exceptionTable := #[], attributes := #[] }
def k10m1 : Method := { name := "charAt", desc := "([BI)C", sig := { parameters := [(.array .byte), .int], returnType := some .char }, accessFlags := 9, code := some k10c1 }
def k10c2 : Code := { maxStack := 2, maxLocals := 1, code := jdk_43_method_4_code, exceptionTable := #[], attributes := #[] }
def k10m2 : Method := { name := "canEncode", desc := "(I)Z", sig := { parameters := [.int], returnType := some .boolean }, accessFlags := 9, code := some k10c2 }
def k10c3 : Code := { maxStack := 4, maxLocals := 4, code := jdk_43_method_22_code, exceptionTable := #[], attributes := #[] }
def k10m3 : Method := { name := "indexOf", desc := "([BIII)I", sig := { parameters := [(.array .byte), .int, .int, .int], returnType := some .int }, accessFlags := 9, code := some k10c3 }
def k10c4 : Code := { maxStack := 2, maxLocals := 6, code := jdk_43_method_23_code, exceptionTable := #[], attributes := #[] }
def k10m4 : Method := { name := "indexOfChar", desc := "([BIII)I", sig := { parameters := [(.array .byte), .int, .int, .int], returnType := some .int }, accessFlags := 10, code := some k10c4 }
/-- java/lang/StringLatin1 -/
def k10 : Class := { plain "java/lang/StringLatin1" (some 0) with
  accessFlags := 48
  interfaces := #[]
  cf := some (fileOf pool10 14 #[.nestMembers #[390, 221]] #[{ accessFlags := 0, nameIndex := 7, descriptorIndex := 8, attributes := #[] }, { accessFlags := 9, nameIndex := 252, descriptorIndex := 53, attributes := #[] }, { accessFlags := 9, nameIndex := 90, descriptorIndex := 91, attributes := #[] }, { accessFlags := 9, nameIndex := 101, descriptorIndex := 98, attributes := #[] }, { accessFlags := 10, nameIndex := 97, descriptorIndex := 98, attributes := #[] }] 48 4 #[] #[{ accessFlags := 4120, nameIndex := 121, descriptorIndex := 122, attributes := #[] }])
  fields := #[{ name := "$assertionsDisabled", type := .boolean, accessFlags := 4120, slot := 0, constantValue := 0 }]
  methods := #[k10m0, k10m1, k10m2, k10m3, k10m4]
  instanceTypes := #[]
  staticTypes := #[.boolean]
  resolved := Array.replicate 395 none
  statics := none }

def pool11 : Array CpInfo := pool [(1, .class_ 2), (0, u "java/lang/Math"), (1, .class_ 6), (1, u "java/lang/Object"), (0, u "<init>"), (0, u "()V"), (89, .class_ 100), (1, u "java/lang/Math$RandomNumberGeneratorHolder"), (71, u "negativeZeroFloatBits"), (0, u "J"), (2, u "negativeZeroDoubleBits"), (21, u "max"), (2, u "min"), (43, u "$assertionsDisabled"), (0, u "Z"), (88, u "(II)I"), (2, u "twoToTheDoubleScaleDown"), (0, u "D"), (4, u "twoToTheDoubleScaleUp"), (9, u "E"), (3, u "PI"), (2, u "TAU"), (2, u "DEGREES_TO_RADIANS"), (0, u "RADIANS_TO_DEGREES")] 94

def k11m0 : Method := { name := "<init>", desc := "()V", sig := { parameters := [], returnType := none }, accessFlags := 2, code := none }
def k11c1 : Code := { maxStack := 2, maxLocals := 2, code := jdk_29_method_65_code, exceptionTable := #[], attributes := #[] }
def k11m1 : Method := { name := "max", desc := "(II)I", sig := { parameters := [.int, .int], returnType := some .int }, accessFlags := 9, code := some k11c1 }
def k11c2 : Code := { maxStack := 2, maxLocals := 2, code := jdk_29_method_69_code, exceptionTable := #[], attributes := #[] }
def k11m2 : Method := { name := "min", desc := "(II)I", sig := { parameters := [.int, .int], returnType := some .int }, accessFlags := 9, code := some k11c2 }
/-- java/lang/Math -/
def k11 : Class := { plain "java/lang/Math" (some 0) with
  accessFlags := 49
  interfaces := #[]
  cf := some (fileOf pool11 1 #[.nestMembers #[98]] #[{ accessFlags := 2, nameIndex := 7, descriptorIndex := 8, attributes := #[] }, { accessFlags := 9, nameIndex := 198, descriptorIndex := 335, attributes := #[] }, { accessFlags := 9, nameIndex := 201, descriptorIndex := 335, attributes := #[] }] 49 4 #[] #[{ accessFlags := 25, nameIndex := 354, descriptorIndex := 339, attributes := #[] }, { accessFlags := 25, nameIndex := 358, descriptorIndex := 339, attributes := #[] }, { accessFlags := 25, nameIndex := 361, descriptorIndex := 339, attributes := #[] }, { accessFlags := 26, nameIndex := 364, descriptorIndex := 339, attributes := #[] }, { accessFlags := 26, nameIndex := 365, descriptorIndex := 339, attributes := #[] }, { accessFlags := 26, nameIndex := 172, descriptorIndex := 173, attributes := #[] }, { accessFlags := 26, nameIndex := 176, descriptorIndex := 173, attributes := #[] }, { accessFlags := 8, nameIndex := 344, descriptorIndex := 339, attributes := #[] }, { accessFlags := 8, nameIndex := 338, descriptorIndex := 339, attributes := #[] }, { accessFlags := 4120, nameIndex := 245, descriptorIndex := 246, attributes := #[] }])
  fields := #[{ name := "E", type := .double, accessFlags := 25, slot := 0, constantValue := 0 }, { name := "PI", type := .double, accessFlags := 25, slot := 1, constantValue := 0 }, { name := "TAU", type := .double, accessFlags := 25, slot := 2, constantValue := 0 }, { name := "DEGREES_TO_RADIANS", type := .double, accessFlags := 26, slot := 3, constantValue := 0 }, { name := "RADIANS_TO_DEGREES", type := .double, accessFlags := 26, slot := 4, constantValue := 0 }, { name := "negativeZeroFloatBits", type := .long, accessFlags := 26, slot := 5, constantValue := 0 }, { name := "negativeZeroDoubleBits", type := .long, accessFlags := 26, slot := 6, constantValue := 0 }, { name := "twoToTheDoubleScaleUp", type := .double, accessFlags := 8, slot := 7, constantValue := 0 }, { name := "twoToTheDoubleScaleDown", type := .double, accessFlags := 8, slot := 8, constantValue := 0 }, { name := "$assertionsDisabled", type := .boolean, accessFlags := 4120, slot := 9, constantValue := 0 }]
  methods := #[k11m0, k11m1, k11m2]
  instanceTypes := #[]
  staticTypes := #[.double, .double, .double, .double, .double, .long, .long, .double, .double, .boolean]
  resolved := Array.replicate 460 none
  statics := none }

def pool12 : Array CpInfo := pool [(2, .class_ 4), (1, u "java/lang/Object"), (0, u "<init>"), (0, u "()V"), (17, .class_ 26), (1, u "jdk/internal/util/Preconditions"), (6, u "checkIndex"), (21, .class_ 56), (0, u "jdk/internal/util/Preconditions$4"), (57, .class_ 115), (0, u "jdk/internal/util/Preconditions$1"), (7, u "SIOOBE_FORMATTER"), (0, u "Ljava/util/function/BiFunction;"), (0, .class_ 126), (0, u "jdk/internal/util/Preconditions$2"), (3, u "AIOOBE_FORMATTER"), (0, .class_ 132), (0, u "jdk/internal/util/Preconditions$3"), (3, u "IOOBE_FORMATTER"), (41, u "(IILjava/util/function/BiFunction;)I")] 15

def k12m0 : Method := { name := "<init>", desc := "()V", sig := { parameters := [], returnType := none }, accessFlags := 1, code := none }
def k12c1 : Code := { maxStack := 3, maxLocals := 3, code := jdk_41_method_11_code, exceptionTable := #[], attributes := #[] }
def k12m1 : Method := { name := "checkIndex", desc := "(IILjava/util/function/BiFunction;)I", sig := { parameters := [.int, .int, (.object "java/util/function/BiFunction")], returnType := some .int }, accessFlags := 9, code := some k12c1 }
/-- jdk/internal/util/Preconditions -/
def k12 : Class := { plain "jdk/internal/util/Preconditions" (some 0) with
  accessFlags := 33
  interfaces := #[]
  cf := some (fileOf pool12 24 #[.nestMembers #[55, 131, 125, 114]] #[{ accessFlags := 1, nameIndex := 5, descriptorIndex := 6, attributes := #[] }, { accessFlags := 9, nameIndex := 33, descriptorIndex := 178, attributes := #[] }] 33 2 #[] #[{ accessFlags := 25, nameIndex := 123, descriptorIndex := 124, attributes := #[] }, { accessFlags := 25, nameIndex := 130, descriptorIndex := 124, attributes := #[] }, { accessFlags := 25, nameIndex := 136, descriptorIndex := 124, attributes := #[] }])
  fields := #[{ name := "SIOOBE_FORMATTER", type := (.object "java/util/function/BiFunction"), accessFlags := 25, slot := 0, constantValue := 0 }, { name := "AIOOBE_FORMATTER", type := (.object "java/util/function/BiFunction"), accessFlags := 25, slot := 1, constantValue := 0 }, { name := "IOOBE_FORMATTER", type := (.object "java/util/function/BiFunction"), accessFlags := 25, slot := 2, constantValue := 0 }]
  methods := #[k12m0, k12m1]
  instanceTypes := #[]
  staticTypes := #[(.object "java/util/function/BiFunction"), (.object "java/util/function/BiFunction"), (.object "java/util/function/BiFunction")]
  resolved := Array.replicate 194 none
  statics := some 1 }

def pool13 : Array CpInfo := pool [(9, u "<init>"), (6, .class_ 18), (1, u "java/lang/Object"), (0, u "()V"), (1, .class_ 23), (1, u "jdk/internal/util/ArraysSupport"), (0, u "LOG2_ARRAY_LONG_INDEX_SCALE"), (0, u "I"), (2, u "U"), (0, u "Ljdk/internal/misc/Unsafe;"), (8, u "BIG_ENDIAN"), (0, u "Z"), (8, u "LOG2_BYTE_BIT_SIZE"), (4, u "LOG2_ARRAY_INT_INDEX_SCALE"), (54, u "JLA"), (0, u "Ljdk/internal/access/JavaLangAccess;"), (11, u "LOG2_ARRAY_BOOLEAN_INDEX_SCALE"), (9, u "LOG2_ARRAY_BYTE_INDEX_SCALE"), (5, u "LOG2_ARRAY_CHAR_INDEX_SCALE"), (5, u "LOG2_ARRAY_SHORT_INDEX_SCALE"), (18, u "LOG2_ARRAY_FLOAT_INDEX_SCALE"), (24, u "LOG2_ARRAY_DOUBLE_INDEX_SCALE"), (89, u "T_BOOLEAN"), (2, u "T_CHAR"), (1, u "T_FLOAT"), (1, u "T_DOUBLE"), (1, u "T_BYTE"), (1, u "T_SHORT"), (1, u "T_INT"), (1, u "T_LONG"), (1, u "SOFT_MAX_ARRAY_LENGTH")] 83

def k13m0 : Method := { name := "<init>", desc := "()V", sig := { parameters := [], returnType := none }, accessFlags := 2, code := none }
/-- jdk/internal/util/ArraysSupport -/
def k13 : Class := { plain "jdk/internal/util/ArraysSupport" (some 0) with
  accessFlags := 33
  interfaces := #[]
  cf := some (fileOf pool13 21 #[] #[{ accessFlags := 2, nameIndex := 9, descriptorIndex := 19, attributes := #[] }] 33 16 #[] #[{ accessFlags := 24, nameIndex := 28, descriptorIndex := 29, attributes := #[] }, { accessFlags := 26, nameIndex := 38, descriptorIndex := 39, attributes := #[] }, { accessFlags := 25, nameIndex := 121, descriptorIndex := 25, attributes := #[] }, { accessFlags := 25, nameIndex := 131, descriptorIndex := 25, attributes := #[] }, { accessFlags := 25, nameIndex := 137, descriptorIndex := 25, attributes := #[] }, { accessFlags := 25, nameIndex := 143, descriptorIndex := 25, attributes := #[] }, { accessFlags := 25, nameIndex := 53, descriptorIndex := 25, attributes := #[] }, { accessFlags := 25, nameIndex := 24, descriptorIndex := 25, attributes := #[] }, { accessFlags := 25, nameIndex := 162, descriptorIndex := 25, attributes := #[] }, { accessFlags := 25, nameIndex := 187, descriptorIndex := 25, attributes := #[] }, { accessFlags := 26, nameIndex := 48, descriptorIndex := 25, attributes := #[] }, { accessFlags := 25, nameIndex := 277, descriptorIndex := 25, attributes := #[] }, { accessFlags := 25, nameIndex := 280, descriptorIndex := 25, attributes := #[] }, { accessFlags := 25, nameIndex := 282, descriptorIndex := 25, attributes := #[] }, { accessFlags := 25, nameIndex := 284, descriptorIndex := 25, attributes := #[] }, { accessFlags := 25, nameIndex := 286, descriptorIndex := 25, attributes := #[] }, { accessFlags := 25, nameIndex := 288, descriptorIndex := 25, attributes := #[] }, { accessFlags := 25, nameIndex := 290, descriptorIndex := 25, attributes := #[] }, { accessFlags := 25, nameIndex := 292, descriptorIndex := 25, attributes := #[] }, { accessFlags := 26, nameIndex := 108, descriptorIndex := 109, attributes := #[] }, { accessFlags := 25, nameIndex := 294, descriptorIndex := 25, attributes := #[] }])
  fields := #[{ name := "U", type := (.object "jdk/internal/misc/Unsafe"), accessFlags := 24, slot := 0, constantValue := 0 }, { name := "BIG_ENDIAN", type := .boolean, accessFlags := 26, slot := 1, constantValue := 0 }, { name := "LOG2_ARRAY_BOOLEAN_INDEX_SCALE", type := .int, accessFlags := 25, slot := 2, constantValue := 0 }, { name := "LOG2_ARRAY_BYTE_INDEX_SCALE", type := .int, accessFlags := 25, slot := 3, constantValue := 0 }, { name := "LOG2_ARRAY_CHAR_INDEX_SCALE", type := .int, accessFlags := 25, slot := 4, constantValue := 0 }, { name := "LOG2_ARRAY_SHORT_INDEX_SCALE", type := .int, accessFlags := 25, slot := 5, constantValue := 0 }, { name := "LOG2_ARRAY_INT_INDEX_SCALE", type := .int, accessFlags := 25, slot := 6, constantValue := 0 }, { name := "LOG2_ARRAY_LONG_INDEX_SCALE", type := .int, accessFlags := 25, slot := 7, constantValue := 0 }, { name := "LOG2_ARRAY_FLOAT_INDEX_SCALE", type := .int, accessFlags := 25, slot := 8, constantValue := 0 }, { name := "LOG2_ARRAY_DOUBLE_INDEX_SCALE", type := .int, accessFlags := 25, slot := 9, constantValue := 0 }, { name := "LOG2_BYTE_BIT_SIZE", type := .int, accessFlags := 26, slot := 10, constantValue := 0 }, { name := "T_BOOLEAN", type := .int, accessFlags := 25, slot := 11, constantValue := 0 }, { name := "T_CHAR", type := .int, accessFlags := 25, slot := 12, constantValue := 0 }, { name := "T_FLOAT", type := .int, accessFlags := 25, slot := 13, constantValue := 0 }, { name := "T_DOUBLE", type := .int, accessFlags := 25, slot := 14, constantValue := 0 }, { name := "T_BYTE", type := .int, accessFlags := 25, slot := 15, constantValue := 0 }, { name := "T_SHORT", type := .int, accessFlags := 25, slot := 16, constantValue := 0 }, { name := "T_INT", type := .int, accessFlags := 25, slot := 17, constantValue := 0 }, { name := "T_LONG", type := .int, accessFlags := 25, slot := 18, constantValue := 0 }, { name := "JLA", type := (.object "jdk/internal/access/JavaLangAccess"), accessFlags := 26, slot := 19, constantValue := 0 }, { name := "SOFT_MAX_ARRAY_LENGTH", type := .int, accessFlags := 25, slot := 20, constantValue := 0 }]
  methods := #[k13m0]
  instanceTypes := #[]
  staticTypes := #[(.object "jdk/internal/misc/Unsafe"), .boolean, .int, .int, .int, .int, .int, .int, .int, .int, .int, .int, .int, .int, .int, .int, .int, .int, .int, (.object "jdk/internal/access/JavaLangAccess"), .int]
  resolved := Array.replicate 378 none
  statics := none }

def pool14 : Array CpInfo := pool [(1, u "java/lang/Cloneable"), (0, .class_ 1), (0, u "java/lang/Object"), (0, .class_ 3)] 3

/-- java/lang/Cloneable -/
def k14 : Class := { plain "java/lang/Cloneable" (some 0) with
  accessFlags := 1537
  interfaces := #[]
  cf := some (fileOf pool14 2 #[] #[] 1537 4 #[] #[])
  fields := #[]
  methods := #[]
  instanceTypes := #[]
  staticTypes := #[]
  resolved := Array.replicate 8 none
  statics := none }

/-- the primitive byte -/
def k15 : Class := { plain "byte" none with kind := .primitive 'B', accessFlags := 0x411 }
/-- [B -/
def k16 : Class := { plain "[B" (some 0) with kind := .array 15 .byte, interfaces := #[14, 2], accessFlags := 1041 }

/-- the primitive char -/
def k17 : Class := { plain "char" none with kind := .primitive 'C', accessFlags := 0x411 }
/-- [C -/
def k18 : Class := { plain "[C" (some 0) with kind := .array 17 .char, interfaces := #[14, 2], accessFlags := 1041 }

/-- the primitive int -/
def k19 : Class := { plain "int" none with kind := .primitive 'I', accessFlags := 0x411 }
/-- [I -/
def k20 : Class := { plain "[I" (some 0) with kind := .array 19 .int, interfaces := #[14, 2], accessFlags := 1041 }

def heap : Heap := #[{ cls := 7, slots := #[.long 0, .int 1, .null, .int 0, .null, .int 0, .int 0], vm := .statics 7 },
  { cls := 12, slots := #[.null, .null, .null], vm := .statics 12 }]
def classes : Array Class := #[k0, k1, k2, k3, k4, k5, k6, k7, k8, k9, k10, k11, k12, k13, k14, k15, k16, k17, k18, k19, k20]
def interned : List (Array UInt16 × Addr) := []
def slotsUsed : Nat := 10
def theMethod : MethodId := ⟨1, 1⟩
def args0 : Array Value := #[.int 5, .int 6, .int 7, .long 8]
def aboutOver (below : List Frame) : State where
  vm := { classes := classes, interned := interned.toArray }
  heap := heap
  slotsUsed := slotsUsed
  threads := #[{ frames := .invoking theMethod args0 :: below }]
def below0 : List Frame := [.native { method := ⟨0, 0⟩, args := #[] }]
def about1 : State := aboutOver below0
def p0 : Program := .bare "" "" ""
def e0 : Env := launch0.env 0 0 0
theorem w_frames : about1.frames = Frame.invoking theMethod args0 :: below0 := rfl
set_option maxRecDepth 65536 in
theorem w_args : argsFit about1.vm theMethod args0 = true := by decide +kernel
set_option maxRecDepth 65536 in
theorem w_heap : heapFits about1 = true := by decide +kernel
set_option maxRecDepth 65536 in
theorem w_runnable : about1.curStatus? = some .runnable := by decide +kernel
set_option maxRecDepth 65536 in
theorem w_alone : about1.alone = true := by decide +kernel
set_option maxRecDepth 65536 in
theorem w_named : about1.methodNamed? x = some theMethod := by decide +kernel
set_option maxRecDepth 65536 in
theorem w_hears : about1.hears theMethod below0 = true := by decide +kernel
set_option maxRecDepth 65536 in
theorem w_ripe : about1.ripe theMethod args0 below0 = true := by decide +kernel
theorem w_running : about1.status = .running := rfl
set_option maxRecDepth 65536 in
theorem w_room : about1.hasRoom e0.platform room_1 = true :=
  launch0.hasRoom_least _ room_1 (by decide +kernel) (by decide +kernel) (by decide +kernel) (by decide +kernel) (by decide +kernel) (by decide +kernel)
theorem allAtoms_all (ts : List Jvm.Cond) (a : Array Jvm.Value) (st : Jvm.State) : (allAtoms ts).before a st = ts.all (fun c => c.before a st) := by
  induction ts with
  | nil => rfl
  | cons c t ih =>
    show (Jvm.Cond.and c (allAtoms t)).before a st = _
    rw [Jvm.Cond.before_and, ih, List.all_cons]
def words1 : List Jvm.Cond := Jvm.Cond.code x code maxLocals ret :: tables_1
/-- a 'code' word, met by the world's own term for the bytes: nothing is compared byte by byte -/
theorem code_word {y : MethodName} {bytes : ByteArray} {mx : Nat} {rt : Option FieldType} {a : Array Value} {s : State} {m : MethodId} {meth : Method} {c : Code} (h1 : s.methodNamed? y = some m) (h2 : s.vm.method? m = some meth) (h3 : meth.code = some c) (h4 : c.code = bytes)
    (h5 : (c.maxLocals == mx && c.exceptionTable.isEmpty && decide (c.maxStack ≤ mostOperands) && decide (meth.sig.returnType = rt) && !meth.locks && decide (parseMethodDescriptor y.desc = some meth.sig)) = true) : (Jvm.Cond.code y bytes mx rt).before a s = true := by
  simp only [Bool.and_eq_true, beq_iff_eq, Bool.not_eq_true', decide_eq_true_eq] at h5
  obtain ⟨⟨⟨⟨⟨g1, g2⟩, g3⟩, g4⟩, g5⟩, g6⟩ := h5
  simp [Cond.before, Cond.holds, Cond.value, h1, h2, h3, h4, g1, g2, g3, g4, g5, g6]
def isCode : Jvm.Cond → Bool
  | .code _ _ _ _ => true
  | _ => false
theorem all_split {L : List Jvm.Cond} {P : Jvm.Cond → Bool} (h1 : L.all (fun c => isCode c || P c) = true) (h2 : ∀ c ∈ L.filter isCode, P c = true) : L.all P = true := by
  refine List.all_eq_true.mpr fun c hc => ?_
  have h := List.all_eq_true.mp h1 c hc
  rcases Bool.eq_false_or_eq_true (isCode c) with hi | hi
  · exact h2 c (List.mem_filter.mpr ⟨hc, hi⟩)
  · simpa [hi] using h
set_option maxRecDepth 65536 in
theorem w_c0 : (Jvm.Cond.code x code maxLocals ret).before args0 about1 = true := code_word (m := ⟨1, 1⟩) (meth := k1m1) (c := k1c1) (by decide +kernel) rfl rfl rfl (by decide +kernel)
set_option maxRecDepth 65536 in
theorem w_c1 : (Jvm.Cond.code ({ cls := "com/example/libinvariant/libinvariant/aiger/LineFieldsNextPinLaw", name := "ch", desc := "(IIIIJ)C" } : Jvm.MethodName) method_4_code (6 : Nat) (Option.some Jvm.ClassFile.FieldType.char)).before args0 about1 = true := code_word (m := ⟨1, 3⟩) (meth := k1m3) (c := k1c3) (by decide +kernel) rfl rfl rfl (by decide +kernel)
set_option maxRecDepth 65536 in
theorem w_c2 : (Jvm.Cond.code ({ cls := "com/example/libinvariant/libinvariant/aiger/LineFieldsNextPinLaw", name := "pow10", desc := "(I)I" } : Jvm.MethodName) method_3_code (2 : Nat) (Option.some Jvm.ClassFile.FieldType.int)).before args0 about1 = true := code_word (m := ⟨1, 2⟩) (meth := k1m2) (c := k1c2) (by decide +kernel) rfl rfl rfl (by decide +kernel)
set_option maxRecDepth 65536 in
theorem w_c3 : (Jvm.Cond.code ({ cls := "java/lang/String", name := "<init>", desc := "([C)V" } : Jvm.MethodName) jdk_42_method_3_code (2 : Nat) (Option.none : Option Jvm.ClassFile.FieldType)).before args0 about1 = true := code_word (m := ⟨7, 1⟩) (meth := k7m1) (c := k7c1) (by decide +kernel) rfl rfl rfl (by decide +kernel)
set_option maxRecDepth 65536 in
theorem w_c4 : (Jvm.Cond.code ({ cls := "java/lang/String", name := "<init>", desc := "([CIILjava/lang/Void;)V" } : Jvm.MethodName) jdk_42_method_149_code (6 : Nat) (Option.none : Option Jvm.ClassFile.FieldType)).before args0 about1 = true := code_word (m := ⟨7, 5⟩) (meth := k7m5) (c := k7c5) (by decide +kernel) rfl rfl rfl (by decide +kernel)
set_option maxRecDepth 65536 in
theorem w_c5 : (Jvm.Cond.code ({ cls := "java/lang/Object", name := "<init>", desc := "()V" } : Jvm.MethodName) object_method_1_code (1 : Nat) (Option.none : Option Jvm.ClassFile.FieldType)).before args0 about1 = true := code_word (m := ⟨0, 0⟩) (meth := k0m0) (c := k0c0) (by decide +kernel) rfl rfl rfl (by decide +kernel)
set_option maxRecDepth 65536 in
theorem w_c6 : (Jvm.Cond.code ({ cls := "java/lang/StringUTF16", name := "compress", desc := "([CII)[B" } : Jvm.MethodName) jdk_52_method_16_code (6 : Nat) (Option.some (Jvm.ClassFile.FieldType.array Jvm.ClassFile.FieldType.byte))).before args0 about1 = true := code_word (m := ⟨8, 2⟩) (meth := k8m2) (c := k8c2) (by decide +kernel) rfl rfl rfl (by decide +kernel)
set_option maxRecDepth 65536 in
theorem w_c7 : (Jvm.Cond.code ({ cls := "java/lang/StringUTF16", name := "compress", desc := "([CI[BII)I" } : Jvm.MethodName) jdk_52_method_21_code (7 : Nat) (Option.some Jvm.ClassFile.FieldType.int)).before args0 about1 = true := code_word (m := ⟨8, 3⟩) (meth := k8m3) (c := k8c3) (by decide +kernel) rfl rfl rfl (by decide +kernel)
set_option maxRecDepth 65536 in
theorem w_c8 : (Jvm.Cond.code ({ cls := "java/lang/StringUTF16", name := "coderFromArrayLen", desc := "([BI)B" } : Jvm.MethodName) jdk_52_method_15_code (2 : Nat) (Option.some Jvm.ClassFile.FieldType.byte)).before args0 about1 = true := code_word (m := ⟨8, 1⟩) (meth := k8m1) (c := k8c1) (by decide +kernel) rfl rfl rfl (by decide +kernel)
set_option maxRecDepth 65536 in
theorem w_c9 : (Jvm.Cond.code ({ cls := "com/example/libinvariant/libinvariant/aiger/LineFields", name := "<init>", desc := "(Ljava/lang/String;I)V" } : Jvm.MethodName) prog_13_method_1_code (3 : Nat) (Option.none : Option Jvm.ClassFile.FieldType)).before args0 about1 = true := code_word (m := ⟨9, 0⟩) (meth := k9m0) (c := k9c0) (by decide +kernel) rfl rfl rfl (by decide +kernel)
set_option maxRecDepth 65536 in
theorem w_c10 : (Jvm.Cond.code ({ cls := "com/example/libinvariant/libinvariant/aiger/LineFields", name := "next", desc := "(Ljava/lang/String;)I" } : Jvm.MethodName) prog_13_method_3_code (8 : Nat) (Option.some Jvm.ClassFile.FieldType.int)).before args0 about1 = true := code_word (m := ⟨9, 2⟩) (meth := k9m2) (c := k9c2) (by decide +kernel) rfl rfl rfl (by decide +kernel)
set_option maxRecDepth 65536 in
theorem w_c11 : (Jvm.Cond.code ({ cls := "java/lang/String", name := "indexOf", desc := "(II)I" } : Jvm.MethodName) jdk_42_method_80_code (3 : Nat) (Option.some Jvm.ClassFile.FieldType.int)).before args0 about1 = true := code_word (m := ⟨7, 4⟩) (meth := k7m4) (c := k7c4) (by decide +kernel) rfl rfl rfl (by decide +kernel)
set_option maxRecDepth 65536 in
theorem w_c12 : (Jvm.Cond.code ({ cls := "java/lang/String", name := "isLatin1", desc := "()Z" } : Jvm.MethodName) jdk_42_method_154_code (1 : Nat) (Option.some Jvm.ClassFile.FieldType.boolean)).before args0 about1 = true := code_word (m := ⟨7, 7⟩) (meth := k7m7) (c := k7c7) (by decide +kernel) rfl rfl rfl (by decide +kernel)
set_option maxRecDepth 65536 in
theorem w_c13 : (Jvm.Cond.code ({ cls := "java/lang/String", name := "length", desc := "()I" } : Jvm.MethodName) jdk_42_method_54_code (1 : Nat) (Option.some Jvm.ClassFile.FieldType.int)).before args0 about1 = true := code_word (m := ⟨7, 2⟩) (meth := k7m2) (c := k7c2) (by decide +kernel) rfl rfl rfl (by decide +kernel)
set_option maxRecDepth 65536 in
theorem w_c14 : (Jvm.Cond.code ({ cls := "java/lang/String", name := "coder", desc := "()B" } : Jvm.MethodName) jdk_42_method_152_code (1 : Nat) (Option.some Jvm.ClassFile.FieldType.byte)).before args0 about1 = true := code_word (m := ⟨7, 6⟩) (meth := k7m6) (c := k7c6) (by decide +kernel) rfl rfl rfl (by decide +kernel)
set_option maxRecDepth 65536 in
theorem w_c15 : (Jvm.Cond.code ({ cls := "java/lang/StringLatin1", name := "indexOf", desc := "([BIII)I" } : Jvm.MethodName) jdk_43_method_22_code (4 : Nat) (Option.some Jvm.ClassFile.FieldType.int)).before args0 about1 = true := code_word (m := ⟨10, 3⟩) (meth := k10m3) (c := k10c3) (by decide +kernel) rfl rfl rfl (by decide +kernel)
set_option maxRecDepth 65536 in
theorem w_c16 : (Jvm.Cond.code ({ cls := "java/lang/StringLatin1", name := "canEncode", desc := "(I)Z" } : Jvm.MethodName) jdk_43_method_4_code (1 : Nat) (Option.some Jvm.ClassFile.FieldType.boolean)).before args0 about1 = true := code_word (m := ⟨10, 2⟩) (meth := k10m2) (c := k10c2) (by decide +kernel) rfl rfl rfl (by decide +kernel)
set_option maxRecDepth 65536 in
theorem w_c17 : (Jvm.Cond.code ({ cls := "java/lang/Math", name := "max", desc := "(II)I" } : Jvm.MethodName) jdk_29_method_65_code (2 : Nat) (Option.some Jvm.ClassFile.FieldType.int)).before args0 about1 = true := code_word (m := ⟨11, 1⟩) (meth := k11m1) (c := k11c1) (by decide +kernel) rfl rfl rfl (by decide +kernel)
set_option maxRecDepth 65536 in
theorem w_c18 : (Jvm.Cond.code ({ cls := "java/lang/Math", name := "min", desc := "(II)I" } : Jvm.MethodName) jdk_29_method_69_code (2 : Nat) (Option.some Jvm.ClassFile.FieldType.int)).before args0 about1 = true := code_word (m := ⟨11, 2⟩) (meth := k11m2) (c := k11c2) (by decide +kernel) rfl rfl rfl (by decide +kernel)
set_option maxRecDepth 65536 in
theorem w_c19 : (Jvm.Cond.code ({ cls := "java/lang/StringLatin1", name := "indexOfChar", desc := "([BIII)I" } : Jvm.MethodName) jdk_43_method_23_code (6 : Nat) (Option.some Jvm.ClassFile.FieldType.int)).before args0 about1 = true := code_word (m := ⟨10, 4⟩) (meth := k10m4) (c := k10c4) (by decide +kernel) rfl rfl rfl (by decide +kernel)
set_option maxRecDepth 65536 in
theorem w_c20 : (Jvm.Cond.code ({ cls := "java/lang/String", name := "charAt", desc := "(I)C" } : Jvm.MethodName) jdk_42_method_56_code (2 : Nat) (Option.some Jvm.ClassFile.FieldType.char)).before args0 about1 = true := code_word (m := ⟨7, 3⟩) (meth := k7m3) (c := k7c3) (by decide +kernel) rfl rfl rfl (by decide +kernel)
set_option maxRecDepth 65536 in
theorem w_c21 : (Jvm.Cond.code ({ cls := "java/lang/StringLatin1", name := "charAt", desc := "([BI)C" } : Jvm.MethodName) jdk_43_method_2_code (2 : Nat) (Option.some Jvm.ClassFile.FieldType.char)).before args0 about1 = true := code_word (m := ⟨10, 1⟩) (meth := k10m1) (c := k10c1) (by decide +kernel) rfl rfl rfl (by decide +kernel)
set_option maxRecDepth 65536 in
theorem w_c22 : (Jvm.Cond.code ({ cls := "java/lang/String", name := "checkIndex", desc := "(II)V" } : Jvm.MethodName) jdk_42_method_155_code (2 : Nat) (Option.none : Option Jvm.ClassFile.FieldType)).before args0 about1 = true := code_word (m := ⟨7, 8⟩) (meth := k7m8) (c := k7c8) (by decide +kernel) rfl rfl rfl (by decide +kernel)
set_option maxRecDepth 65536 in
theorem w_c23 : (Jvm.Cond.code ({ cls := "jdk/internal/util/Preconditions", name := "checkIndex", desc := "(IILjava/util/function/BiFunction;)I" } : Jvm.MethodName) jdk_41_method_11_code (3 : Nat) (Option.some Jvm.ClassFile.FieldType.int)).before args0 about1 = true := code_word (m := ⟨12, 1⟩) (meth := k12m1) (c := k12c1) (by decide +kernel) rfl rfl rfl (by decide +kernel)
set_option maxRecDepth 65536 in
theorem w_c24 : (Jvm.Cond.code ({ cls := "com/example/libinvariant/libinvariant/aiger/LineFields", name := "hasNext", desc := "()Z" } : Jvm.MethodName) prog_13_method_2_code (1 : Nat) (Option.some Jvm.ClassFile.FieldType.boolean)).before args0 about1 = true := code_word (m := ⟨9, 1⟩) (meth := k9m1) (c := k9c1) (by decide +kernel) rfl rfl rfl (by decide +kernel)
def codes1 : List Jvm.Cond := [Jvm.Cond.code x code maxLocals ret, Jvm.Cond.code ({ cls := "com/example/libinvariant/libinvariant/aiger/LineFieldsNextPinLaw", name := "ch", desc := "(IIIIJ)C" } : Jvm.MethodName) method_4_code (6 : Nat) (Option.some Jvm.ClassFile.FieldType.char), Jvm.Cond.code ({ cls := "com/example/libinvariant/libinvariant/aiger/LineFieldsNextPinLaw", name := "pow10", desc := "(I)I" } : Jvm.MethodName) method_3_code (2 : Nat) (Option.some Jvm.ClassFile.FieldType.int), Jvm.Cond.code ({ cls := "java/lang/String", name := "<init>", desc := "([C)V" } : Jvm.MethodName) jdk_42_method_3_code (2 : Nat) (Option.none : Option Jvm.ClassFile.FieldType), Jvm.Cond.code ({ cls := "java/lang/String", name := "<init>", desc := "([CIILjava/lang/Void;)V" } : Jvm.MethodName) jdk_42_method_149_code (6 : Nat) (Option.none : Option Jvm.ClassFile.FieldType), Jvm.Cond.code ({ cls := "java/lang/Object", name := "<init>", desc := "()V" } : Jvm.MethodName) object_method_1_code (1 : Nat) (Option.none : Option Jvm.ClassFile.FieldType), Jvm.Cond.code ({ cls := "java/lang/StringUTF16", name := "compress", desc := "([CII)[B" } : Jvm.MethodName) jdk_52_method_16_code (6 : Nat) (Option.some (Jvm.ClassFile.FieldType.array Jvm.ClassFile.FieldType.byte)), Jvm.Cond.code ({ cls := "java/lang/StringUTF16", name := "compress", desc := "([CI[BII)I" } : Jvm.MethodName) jdk_52_method_21_code (7 : Nat) (Option.some Jvm.ClassFile.FieldType.int), Jvm.Cond.code ({ cls := "java/lang/StringUTF16", name := "coderFromArrayLen", desc := "([BI)B" } : Jvm.MethodName) jdk_52_method_15_code (2 : Nat) (Option.some Jvm.ClassFile.FieldType.byte), Jvm.Cond.code ({ cls := "com/example/libinvariant/libinvariant/aiger/LineFields", name := "<init>", desc := "(Ljava/lang/String;I)V" } : Jvm.MethodName) prog_13_method_1_code (3 : Nat) (Option.none : Option Jvm.ClassFile.FieldType), Jvm.Cond.code ({ cls := "com/example/libinvariant/libinvariant/aiger/LineFields", name := "next", desc := "(Ljava/lang/String;)I" } : Jvm.MethodName) prog_13_method_3_code (8 : Nat) (Option.some Jvm.ClassFile.FieldType.int), Jvm.Cond.code ({ cls := "java/lang/String", name := "indexOf", desc := "(II)I" } : Jvm.MethodName) jdk_42_method_80_code (3 : Nat) (Option.some Jvm.ClassFile.FieldType.int), Jvm.Cond.code ({ cls := "java/lang/String", name := "isLatin1", desc := "()Z" } : Jvm.MethodName) jdk_42_method_154_code (1 : Nat) (Option.some Jvm.ClassFile.FieldType.boolean), Jvm.Cond.code ({ cls := "java/lang/String", name := "length", desc := "()I" } : Jvm.MethodName) jdk_42_method_54_code (1 : Nat) (Option.some Jvm.ClassFile.FieldType.int), Jvm.Cond.code ({ cls := "java/lang/String", name := "coder", desc := "()B" } : Jvm.MethodName) jdk_42_method_152_code (1 : Nat) (Option.some Jvm.ClassFile.FieldType.byte), Jvm.Cond.code ({ cls := "java/lang/StringLatin1", name := "indexOf", desc := "([BIII)I" } : Jvm.MethodName) jdk_43_method_22_code (4 : Nat) (Option.some Jvm.ClassFile.FieldType.int), Jvm.Cond.code ({ cls := "java/lang/StringLatin1", name := "canEncode", desc := "(I)Z" } : Jvm.MethodName) jdk_43_method_4_code (1 : Nat) (Option.some Jvm.ClassFile.FieldType.boolean), Jvm.Cond.code ({ cls := "java/lang/Math", name := "max", desc := "(II)I" } : Jvm.MethodName) jdk_29_method_65_code (2 : Nat) (Option.some Jvm.ClassFile.FieldType.int), Jvm.Cond.code ({ cls := "java/lang/Math", name := "min", desc := "(II)I" } : Jvm.MethodName) jdk_29_method_69_code (2 : Nat) (Option.some Jvm.ClassFile.FieldType.int), Jvm.Cond.code ({ cls := "java/lang/StringLatin1", name := "indexOfChar", desc := "([BIII)I" } : Jvm.MethodName) jdk_43_method_23_code (6 : Nat) (Option.some Jvm.ClassFile.FieldType.int), Jvm.Cond.code ({ cls := "java/lang/String", name := "charAt", desc := "(I)C" } : Jvm.MethodName) jdk_42_method_56_code (2 : Nat) (Option.some Jvm.ClassFile.FieldType.char), Jvm.Cond.code ({ cls := "java/lang/StringLatin1", name := "charAt", desc := "([BI)C" } : Jvm.MethodName) jdk_43_method_2_code (2 : Nat) (Option.some Jvm.ClassFile.FieldType.char), Jvm.Cond.code ({ cls := "java/lang/String", name := "checkIndex", desc := "(II)V" } : Jvm.MethodName) jdk_42_method_155_code (2 : Nat) (Option.none : Option Jvm.ClassFile.FieldType), Jvm.Cond.code ({ cls := "jdk/internal/util/Preconditions", name := "checkIndex", desc := "(IILjava/util/function/BiFunction;)I" } : Jvm.MethodName) jdk_41_method_11_code (3 : Nat) (Option.some Jvm.ClassFile.FieldType.int), Jvm.Cond.code ({ cls := "com/example/libinvariant/libinvariant/aiger/LineFields", name := "hasNext", desc := "()Z" } : Jvm.MethodName) prog_13_method_2_code (1 : Nat) (Option.some Jvm.ClassFile.FieldType.boolean)]
set_option maxRecDepth 65536 in
theorem codes_eq : words1.filter isCode = codes1 := rfl
theorem w_codes : ∀ c ∈ words1.filter isCode, c.before args0 about1 = true := by
  rw [codes_eq]
  intro c hc
  simp only [codes1, List.mem_cons, List.not_mem_nil, or_false] at hc
  rcases hc with rfl | rfl | rfl | rfl | rfl | rfl | rfl | rfl | rfl | rfl | rfl | rfl | rfl | rfl | rfl | rfl | rfl | rfl | rfl | rfl | rfl | rfl | rfl | rfl | rfl
  · exact w_c0
  · exact w_c1
  · exact w_c2
  · exact w_c3
  · exact w_c4
  · exact w_c5
  · exact w_c6
  · exact w_c7
  · exact w_c8
  · exact w_c9
  · exact w_c10
  · exact w_c11
  · exact w_c12
  · exact w_c13
  · exact w_c14
  · exact w_c15
  · exact w_c16
  · exact w_c17
  · exact w_c18
  · exact w_c19
  · exact w_c20
  · exact w_c21
  · exact w_c22
  · exact w_c23
  · exact w_c24
set_option maxRecDepth 65536 in
theorem w_t1 : (words1.take 24).all (fun c => isCode c || c.before args0 about1) = true := by decide +kernel
set_option maxRecDepth 65536 in
theorem w_t2 : ((words1.drop 24).take 24).all (fun c => isCode c || c.before args0 about1) = true := by decide +kernel
set_option maxRecDepth 65536 in
theorem w_t3 : (((words1.drop 24).drop 24).take 24).all (fun c => isCode c || c.before args0 about1) = true := by decide +kernel
set_option maxRecDepth 65536 in
theorem w_t4 : ((((words1.drop 24).drop 24).drop 24).take 24).all (fun c => isCode c || c.before args0 about1) = true := by decide +kernel
set_option maxRecDepth 65536 in
theorem w_t5 : (((((words1.drop 24).drop 24).drop 24).drop 24).take 24).all (fun c => isCode c || c.before args0 about1) = true := by decide +kernel
set_option maxRecDepth 65536 in
theorem w_t6 : (((((words1.drop 24).drop 24).drop 24).drop 24).drop 24).all (fun c => isCode c || c.before args0 about1) = true := by decide +kernel
theorem w_tables : (allAtoms (Jvm.Cond.code x code maxLocals ret :: tables_1)).before args0 about1 = true := by
  rw [allAtoms_all]
  show words1.all (fun c => c.before args0 about1) = true
  refine all_split ?_ w_codes
  rw [← List.take_append_drop 24 words1, List.all_append, w_t1, ← List.take_append_drop 24 (words1.drop 24), List.all_append, w_t2, ← List.take_append_drop 24 ((words1.drop 24).drop 24), List.all_append, w_t3, ← List.take_append_drop 24 (((words1.drop 24).drop 24).drop 24), List.all_append, w_t4, ← List.take_append_drop 24 ((((words1.drop 24).drop 24).drop 24).drop 24), List.all_append, w_t5, w_t6]
  rfl
set_option maxRecDepth 65536 in
theorem w_rest : rest_1_c.before args0 about1 = true := by decide +kernel
set_option maxRecDepth 65536 in
theorem w_case : (Jvm.Cond.and given_1 narrow_1).before args0 about1 = true := by decide +kernel
theorem w_applies : (headSpec (Jvm.Cond.code x code maxLocals ret :: tables_1) room_1).applies x e0.platform about1 = true :=
  (Spec.applies_iff w_frames).mpr ⟨w_running, w_runnable, w_alone, w_named, w_hears, w_ripe, w_room, w_tables⟩
theorem atStart : AtStart classFile x code maxLocals ret World_1 tables_1 room_1 Calls_1 rest_1 Pre_1 launch0 p0 e0 about1 theMethod args0 below0 :=
  ⟨lists_1, trivial, launch0.admits_env _ _ _, launch0.least_env, fairChoices_fair.cas, fairChoices_fair.clock, w_frames, w_args, w_heap, w_applies, trivial, w_rest, w_case⟩
end start1
theorem witness_1 : WitnessClaimed_1 := ⟨start1.p0, start1.e0, start1.about1, start1.theMethod, start1.args0, start1.below0, start1.atStart⟩
end Jvm.Pilot.@@N@@
