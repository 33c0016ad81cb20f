import JvmDerived
import JvmDerived.Pilot.@@N@@Statement
import JvmDerived.Pilot.@@N@@Code
set_option linter.unusedVariables false
set_option linter.unusedSimpArgs false
namespace Jvm.OwnK
open Sem ClassFile Op Lib Jvm.Stand Jvm.Free Jvm.LawKit Jvm.RoadKit
/-! a walk's surroundings: program, launch, environment, room, state at the call, method, arguments, frames below, the method's record and code -/
abbrev Cx : Type := Program × Launch × Env × Room × State × MethodId × Array Value × List Frame × Method × Code
abbrev Cx.p (Γ : Cx) : Program := Γ.1
abbrev Cx.l (Γ : Cx) : Launch := Γ.2.1
abbrev Cx.e (Γ : Cx) : Env := Γ.2.2.1
abbrev Cx.R (Γ : Cx) : Room := Γ.2.2.2.1
abbrev Cx.s (Γ : Cx) : State := Γ.2.2.2.2.1
abbrev Cx.m (Γ : Cx) : MethodId := Γ.2.2.2.2.2.1
abbrev Cx.args (Γ : Cx) : Array Value := Γ.2.2.2.2.2.2.1
abbrev Cx.below (Γ : Cx) : List Frame := Γ.2.2.2.2.2.2.2.1
abbrev Cx.meth (Γ : Cx) : Method := Γ.2.2.2.2.2.2.2.2.1
abbrev Cx.c (Γ : Cx) : Code := Γ.2.2.2.2.2.2.2.2.2
/-- what stays the same all along a walk -/
def Ctx (Γ : Cx) (Z : State) (own : String) (bytes : ByteArray) (maxl : Nat) (ret : Option FieldType) (nm : String) (rm : Room) (hs : Heap) : Prop :=
  Γ.p.tables.exec = Jvm.exec ∧ Z.Warmed39 Γ.s.vm ∧ Γ.s.vm.findClass own = some Γ.m.cls ∧ Γ.c.code = bytes ∧ Γ.c.maxLocals = maxl ∧ Γ.meth.sig.returnType = ret ∧ Γ.meth.name = nm ∧ Γ.meth.locks = false ∧ Γ.R = rm ∧ Γ.s.heap = hs
/-- where the walk stands: the state T with the heap h; at most C cells and S slots made; what was written lies in cells made since the law began -/
def W (Γ : Cx) (n0 : Nat) (T : State) (h : Heap) (C S : Nat) : Prop := ∃ locs, Stand Γ.p Γ.l Γ.e Γ.R Γ.s Γ.m Γ.args Γ.below Γ.meth Γ.c T locs C S ∧ T.heap = h ∧ Fr n0 locs
/-- from here the run comes to the method's end with what Q says -/
def Go (Γ : Cx) (n0 : Nat) (Q : Option Value → Heap → Prop) (T : State) (f : JFrame) : Prop :=
  ∃ s₂ o, Steps Γ.p.tables Γ.e Γ.below (T.setTop f) s₂ ∧ s₂.status = .running ∧ Ended s₂ Γ.below o ∧ ∃ v L, o = .returned v ∧ (Q v s₂.heap ∧ Fr n0 L) ∧ FrameEnd Γ.s o s₂ L Γ.R.cells Γ.R.slots
/-- a body's contract: called with these arguments at this heap it returns with what Q says -/
def MetW (Z : State) (y : MethodName) (bytes : ByteArray) (maxl : Nat) (ret : Option FieldType) (ws : List Cond) (rm : Room) (as' : Array Value) (h0 : Heap) (n0 : Nat) (Q : Option Value → Heap → Prop) : Prop :=
  ∀ l : Launch, MetFree l y (head1 (Cond.code y bytes maxl ret :: ws) rm) (fun a U => a = as' ∧ Z.Warmed39 U.vm ∧ U.heap = h0) (fun _ _ _ _ _ => True) (fun _ U o U' => ∃ v L, o = .returned v ∧ (Q v U'.heap ∧ Fr n0 L) ∧ FrameEnd U o U' L rm.cells rm.slots)
abbrev Met (Z : State) (y : MethodName) (bytes : ByteArray) (maxl : Nat) (ret : Option FieldType) (rm : Room) (as' : Array Value) (h0 : Heap) (n0 : Nat) (Q : Option Value → Heap → Prop) : Prop := MetW Z y bytes maxl ret [] rm as' h0 n0 Q
section K
variable {Γ : Cx} {Z : State} {own nm : String} {bytes : ByteArray} {maxl : Nat} {ret : Option FieldType} {rm : Room} {n0 : Nat} {T : State} {h hs0 : Heap} {C S : Nat} {Q : Option Value → Heap → Prop} {Ls : Array Slot} {st : List Value} {pc pc' : Nat}
theorem k_body {y : MethodName} {ws : List Cond} {as' : Array Value} {f : MethodId → JFrame} (hx : plainFor y = true) (hf : ∀ m, entryFrame m as' maxl = f m)
    (body : ∀ (Γ : Cx) (T : State), Ctx Γ Z y.cls bytes maxl ret y.name rm h → W Γ n0 T h 0 0 → Go Γ n0 Q T (f Γ.m)) : MetW Z y bytes maxl ret ws rm as' h n0 Q := by
  intro l
  refine MetFree.of_bodySF (ret := ret) hx hisR ?_
  intro p e s m args below meth c s₁ Bd hml0 hP hK
  obtain ⟨rfl, hZ, hh⟩ := hP
  have X0 : Stand p l e rm s m args below meth c s₁ [] 0 0 := Stand.of_body Bd
  have e0 : s₁.heap = h := by rw [← hh, Bd.state]; rfl
  have g := body (p, l, e, rm, s, m, args, below, meth, c) s₁ ⟨Bd.exec, hZ, findClass_of_methodNamed Bd.named, Bd.bytes, hml0, Bd.returns, (name_of_methodNamed Bd.named Bd.method).1, Bd.notSynchronized, rfl, hh⟩ ⟨[], X0, e0, Fr.nil n0⟩
  rw [← hf] at g
  exact g
theorem Go.of {T' : State} {f f' : JFrame} (k : ∀ target, Steps Γ.p.tables Γ.e Γ.below (T'.setTop f') target → Steps Γ.p.tables Γ.e Γ.below (T.setTop f) target) (K : Go Γ n0 Q T' f') : Go Γ n0 Q T f := by
  obtain ⟨s₂, o, h1, r⟩ := K
  exact ⟨s₂, o, k _ h1, r⟩
theorem Go.mono {Q' : Option Value → Heap → Prop} {f : JFrame} (K : Go Γ n0 Q T f) (q : ∀ v h, Q v h → Q' v h) : Go Γ n0 Q' T f := by
  obtain ⟨s₂, o, h1, h2, h3, v, L, h4, ⟨h5, h6⟩, h7⟩ := K
  exact ⟨s₂, o, h1, h2, h3, v, L, h4, ⟨q _ _ h5, h6⟩, h7⟩
theorem W.more {C' S' : Nat} (X : W Γ n0 T h C S) (hc : C ≤ C') (hs : S ≤ S') : W Γ n0 T h C' S' := by
  obtain ⟨L, X, r⟩ := X; exact ⟨L, X.more hc hs, r⟩
theorem MetW.mono {y : MethodName} {ws : List Cond} {as' : Array Value} {Q' : Option Value → Heap → Prop} (M : MetW Z y bytes maxl ret ws rm as' h n0 Q) (q : ∀ v h, Q v h → Q' v h) : MetW Z y bytes maxl ret ws rm as' h n0 Q' := by
  intro l p e h1 h2 h3 s m args below hf happ hP hK
  obtain ⟨n, o, a1, a2, a3, v, L, b1, ⟨b2, b3⟩, b4⟩ := M l p e h1 h2 h3 s m args below hf happ hP hK
  exact ⟨n, o, a1, a2, a3, v, L, b1, ⟨q _ _ b2, b3⟩, b4⟩
/-! ### returns -/
theorem k_retv (G : Ctx Γ Z own bytes maxl ret nm rm hs0) (X : W Γ n0 T h C S) (hd : decode bytes pc = .ok (.return_, 1)) (hr : ret = none) (q : Q none h) (hC : C ≤ rm.cells) (hS : S ≤ rm.slots) : Go Γ n0 Q T (mkF Γ.m pc Ls []) := by
  obtain ⟨hx, hZ, hown, hby, hml, hret, hnm, hlk, hR, hsH⟩ := G
  obtain ⟨L, X, e, N⟩ := X
  obtain ⟨fs, hr', hrun, hended, hW, hsame⟩ := X.leave (v := none) (fun _ => rfl) hlk
  subst hr
  refine ⟨_, _, ?_, hrun, hended, none, L, rfl, ⟨?_, N⟩, ⟨_, rfl⟩, hW, hsame.mono (hR ▸ hC) (hR ▸ hS)⟩
  · exact X.returnOut hx hret (hb hby hd) hr'
  · show Q none T.heap; rw [e]; exact q
theorem k_ret {w : Value} {t : FieldType} {i : Instr} {rest : List Value} (G : Ctx Γ Z own bytes maxl ret nm rm hs0) (X : W Γ n0 T h C S) (hd : decode bytes pc = .ok (i, 1)) (hr : ret = some t) (hn : narrow t w = w)
    (hi : (i = .ireturn ∧ (t = .int ∨ t = .boolean ∨ t = .byte ∨ t = .char ∨ t = .short) ∧ ∃ z, w = .int z) ∨ (i = .lreturn ∧ t = .long ∧ ∃ z, w = .long z) ∨ (i = .dreturn ∧ t = .double ∧ ∃ z, w = .double z) ∨ (i = .freturn ∧ t = .float ∧ ∃ z, w = .float z) ∨ (i = .areturn ∧ t.isReference = true ∧ w.isRef = true))
    (q : Q (some w) h) (hC : C ≤ rm.cells) (hS : S ≤ rm.slots) : Go Γ n0 Q T (mkF Γ.m pc Ls (w :: rest)) := by
  obtain ⟨hx, hZ, hown, hby, hml, hret, hnm, hlk, hR, hsH⟩ := G
  obtain ⟨L, X, e, N⟩ := X
  subst hr
  obtain ⟨fs, hr', hrun, hended, hW, hsame⟩ := X.leave (v := some w) (fun h => by rw [hret] at h; cases h) hlk
  refine ⟨_, _, ?_, hrun, hended, some w, L, rfl, ⟨?_, N⟩, ⟨_, rfl⟩, hW, hsame.mono (hR ▸ hC) (hR ▸ hS)⟩
  · exact retOut X hx hret hn hi (hb hby hd) hr'
  · show Q (some w) T.heap; rw [e]; exact q
theorem k_reti {z : Int32} {rest : List Value} (G : Ctx Γ Z own bytes maxl ret nm rm hs0) (X : W Γ n0 T h C S) (hd : decode bytes pc = .ok (.ireturn, 1)) (hr : ret = some .int) (q : Q (some (.int z)) h) (hC : C ≤ rm.cells) (hS : S ≤ rm.slots) : Go Γ n0 Q T (mkF Γ.m pc Ls (.int z :: rest)) :=
  k_ret G X hd hr rfl (Or.inl ⟨rfl, Or.inl rfl, _, rfl⟩) q hC hS
theorem k_retb {z : Int32} {rest : List Value} {t : FieldType} (G : Ctx Γ Z own bytes maxl ret nm rm hs0) (X : W Γ n0 T h C S) (hd : decode bytes pc = .ok (.ireturn, 1)) (hr : ret = some t) (ht : t = .int ∨ t = .boolean ∨ t = .byte ∨ t = .char ∨ t = .short) (hn : narrow t (.int z) = .int z) (q : Q (some (.int z)) h) (hC : C ≤ rm.cells) (hS : S ≤ rm.slots) : Go Γ n0 Q T (mkF Γ.m pc Ls (.int z :: rest)) :=
  k_ret G X hd hr hn (Or.inl ⟨rfl, ht, _, rfl⟩) q hC hS
theorem k_retl {z : Int64} {rest : List Value} (G : Ctx Γ Z own bytes maxl ret nm rm hs0) (X : W Γ n0 T h C S) (hd : decode bytes pc = .ok (.lreturn, 1)) (hr : ret = some .long) (q : Q (some (.long z)) h) (hC : C ≤ rm.cells) (hS : S ≤ rm.slots) : Go Γ n0 Q T (mkF Γ.m pc Ls (.long z :: rest)) :=
  k_ret G X hd hr rfl (Or.inr (Or.inl ⟨rfl, rfl, _, rfl⟩)) q hC hS
theorem narrow_ref {t : FieldType} {w : Value} (ht : t.isReference = true) : narrow t w = w := by cases t <;> first | (cases ht; done) | (cases w <;> rfl)
theorem k_reta {w : Value} {rest : List Value} {t : FieldType} (G : Ctx Γ Z own bytes maxl ret nm rm hs0) (X : W Γ n0 T h C S) (hd : decode bytes pc = .ok (.areturn, 1)) (hr : ret = some t) (ht : t.isReference = true) (hv : w.isRef = true) (q : Q (some w) h) (hC : C ≤ rm.cells) (hS : S ≤ rm.slots) : Go Γ n0 Q T (mkF Γ.m pc Ls (w :: rest)) :=
  k_ret G X hd hr (narrow_ref ht) (Or.inr (Or.inr (Or.inr (Or.inr ⟨rfl, ht, hv⟩)))) q hC hS
theorem k_iloadN {k : Fin 4} {v : Int32} (G : Ctx Γ Z own bytes maxl ret nm rm hs0) (X : W Γ n0 T h C S) (hd : decode bytes pc = .ok (.iload_n k, 1)) (hp : pc + 1 = pc') (hl : Ls[k.val]? = some (.val (.int v))) (K : Go Γ n0 Q T (mkF Γ.m pc' Ls (.int v :: st))) : Go Γ n0 Q T (mkF Γ.m pc Ls (st)) := by
  subst hp
  obtain ⟨hx, hZ, hown, hby, hml, hret, hnm, hlk, hR, hsH⟩ := G
  obtain ⟨L, X, e, N⟩ := X
  exact Go.of (fun t k => XS.iloadN X.here hx rfl (hb hby hd) hl k) K
theorem k_iload {k : Nat} {v : Int32} (G : Ctx Γ Z own bytes maxl ret nm rm hs0) (X : W Γ n0 T h C S) (hd : decode bytes pc = .ok (.iload k, 2)) (hp : pc + 2 = pc') (hl : Ls[k]? = some (.val (.int v))) (K : Go Γ n0 Q T (mkF Γ.m pc' Ls (.int v :: st))) : Go Γ n0 Q T (mkF Γ.m pc Ls (st)) := by
  subst hp
  obtain ⟨hx, hZ, hown, hby, hml, hret, hnm, hlk, hR, hsH⟩ := G
  obtain ⟨L, X, e, N⟩ := X
  exact Go.of (fun t k => XS.iload X.here hx rfl (hb hby hd) hl k) K
theorem k_lloadN {k : Fin 4} {v : Int64} (G : Ctx Γ Z own bytes maxl ret nm rm hs0) (X : W Γ n0 T h C S) (hd : decode bytes pc = .ok (.lload_n k, 1)) (hp : pc + 1 = pc') (hl : Ls[k.val]? = some (.val (.long v))) (K : Go Γ n0 Q T (mkF Γ.m pc' Ls (.long v :: st))) : Go Γ n0 Q T (mkF Γ.m pc Ls (st)) := by
  subst hp
  obtain ⟨hx, hZ, hown, hby, hml, hret, hnm, hlk, hR, hsH⟩ := G
  obtain ⟨L, X, e, N⟩ := X
  exact Go.of (fun t k => XS.lloadN X.here hx rfl (hb hby hd) hl k) K
theorem k_lload {k : Nat} {v : Int64} (G : Ctx Γ Z own bytes maxl ret nm rm hs0) (X : W Γ n0 T h C S) (hd : decode bytes pc = .ok (.lload k, 2)) (hp : pc + 2 = pc') (hl : Ls[k]? = some (.val (.long v))) (K : Go Γ n0 Q T (mkF Γ.m pc' Ls (.long v :: st))) : Go Γ n0 Q T (mkF Γ.m pc Ls (st)) := by
  subst hp
  obtain ⟨hx, hZ, hown, hby, hml, hret, hnm, hlk, hR, hsH⟩ := G
  obtain ⟨L, X, e, N⟩ := X
  exact Go.of (fun t k => XS.lload X.here hx rfl (hb hby hd) hl k) K
theorem k_aloadN {k : Fin 4} {v : Value} (G : Ctx Γ Z own bytes maxl ret nm rm hs0) (X : W Γ n0 T h C S) (hd : decode bytes pc = .ok (.aload_n k, 1)) (hp : pc + 1 = pc') (hl : Ls[k.val]? = some (.val v)) (hv : v.isRef = true) (K : Go Γ n0 Q T (mkF Γ.m pc' Ls (v :: st))) : Go Γ n0 Q T (mkF Γ.m pc Ls (st)) := by
  subst hp
  obtain ⟨hx, hZ, hown, hby, hml, hret, hnm, hlk, hR, hsH⟩ := G
  obtain ⟨L, X, e, N⟩ := X
  exact Go.of (fun t k => XS.aloadN X.here hx rfl (hb hby hd) hl hv k) K
theorem k_aload {k : Nat} {v : Value} (G : Ctx Γ Z own bytes maxl ret nm rm hs0) (X : W Γ n0 T h C S) (hd : decode bytes pc = .ok (.aload k, 2)) (hp : pc + 2 = pc') (hl : Ls[k]? = some (.val v)) (hv : v.isRef = true) (K : Go Γ n0 Q T (mkF Γ.m pc' Ls (v :: st))) : Go Γ n0 Q T (mkF Γ.m pc Ls (st)) := by
  subst hp
  obtain ⟨hx, hZ, hown, hby, hml, hret, hnm, hlk, hR, hsH⟩ := G
  obtain ⟨L, X, e, N⟩ := X
  exact Go.of (fun t k => XS.aload X.here hx rfl (hb hby hd) hl hv k) K
theorem k_istoreN {k : Fin 4} {v : Int32} {l' : Array Slot} (G : Ctx Γ Z own bytes maxl ret nm rm hs0) (X : W Γ n0 T h C S) (hd : decode bytes pc = .ok (.istore_n k, 1)) (hp : pc + 1 = pc') (hl : storeLocals Ls k.val (.int v) = some l') (K : Go Γ n0 Q T (mkF Γ.m pc' l' (st))) : Go Γ n0 Q T (mkF Γ.m pc Ls (.int v :: st)) := by
  subst hp
  obtain ⟨hx, hZ, hown, hby, hml, hret, hnm, hlk, hR, hsH⟩ := G
  obtain ⟨L, X, e, N⟩ := X
  exact Go.of (fun t k => XS.istoreN X.here hx rfl (hb hby hd) rfl hl k) K
theorem k_istore {k : Nat} {v : Int32} {l' : Array Slot} (G : Ctx Γ Z own bytes maxl ret nm rm hs0) (X : W Γ n0 T h C S) (hd : decode bytes pc = .ok (.istore k, 2)) (hp : pc + 2 = pc') (hl : storeLocals Ls k (.int v) = some l') (K : Go Γ n0 Q T (mkF Γ.m pc' l' (st))) : Go Γ n0 Q T (mkF Γ.m pc Ls (.int v :: st)) := by
  subst hp
  obtain ⟨hx, hZ, hown, hby, hml, hret, hnm, hlk, hR, hsH⟩ := G
  obtain ⟨L, X, e, N⟩ := X
  exact Go.of (fun t k => XS.istore X.here hx rfl (hb hby hd) rfl hl k) K
theorem k_lstoreN {k : Fin 4} {v : Int64} {l' : Array Slot} (G : Ctx Γ Z own bytes maxl ret nm rm hs0) (X : W Γ n0 T h C S) (hd : decode bytes pc = .ok (.lstore_n k, 1)) (hp : pc + 1 = pc') (hl : storeLocals Ls k.val (.long v) = some l') (K : Go Γ n0 Q T (mkF Γ.m pc' l' (st))) : Go Γ n0 Q T (mkF Γ.m pc Ls (.long v :: st)) := by
  subst hp
  obtain ⟨hx, hZ, hown, hby, hml, hret, hnm, hlk, hR, hsH⟩ := G
  obtain ⟨L, X, e, N⟩ := X
  exact Go.of (fun t k => XS.lstoreN X.here hx rfl (hb hby hd) rfl hl k) K
theorem k_lstore {k : Nat} {v : Int64} {l' : Array Slot} (G : Ctx Γ Z own bytes maxl ret nm rm hs0) (X : W Γ n0 T h C S) (hd : decode bytes pc = .ok (.lstore k, 2)) (hp : pc + 2 = pc') (hl : storeLocals Ls k (.long v) = some l') (K : Go Γ n0 Q T (mkF Γ.m pc' l' (st))) : Go Γ n0 Q T (mkF Γ.m pc Ls (.long v :: st)) := by
  subst hp
  obtain ⟨hx, hZ, hown, hby, hml, hret, hnm, hlk, hR, hsH⟩ := G
  obtain ⟨L, X, e, N⟩ := X
  exact Go.of (fun t k => XS.lstore X.here hx rfl (hb hby hd) rfl hl k) K
theorem k_astoreN {k : Fin 4} {v : Value} {l' : Array Slot} (G : Ctx Γ Z own bytes maxl ret nm rm hs0) (X : W Γ n0 T h C S) (hd : decode bytes pc = .ok (.astore_n k, 1)) (hp : pc + 1 = pc') (hv : v.isRef = true) (hl : storeLocals Ls k.val v = some l') (K : Go Γ n0 Q T (mkF Γ.m pc' l' (st))) : Go Γ n0 Q T (mkF Γ.m pc Ls (v :: st)) := by
  subst hp
  obtain ⟨hx, hZ, hown, hby, hml, hret, hnm, hlk, hR, hsH⟩ := G
  obtain ⟨L, X, e, N⟩ := X
  exact Go.of (fun t k => XS.astoreN X.here hx rfl (hb hby hd) rfl hv hl k) K
theorem k_astore {k : Nat} {v : Value} {l' : Array Slot} (G : Ctx Γ Z own bytes maxl ret nm rm hs0) (X : W Γ n0 T h C S) (hd : decode bytes pc = .ok (.astore k, 2)) (hp : pc + 2 = pc') (hv : v.isRef = true) (hl : storeLocals Ls k v = some l') (K : Go Γ n0 Q T (mkF Γ.m pc' l' (st))) : Go Γ n0 Q T (mkF Γ.m pc Ls (v :: st)) := by
  subst hp
  obtain ⟨hx, hZ, hown, hby, hml, hret, hnm, hlk, hR, hsH⟩ := G
  obtain ⟨L, X, e, N⟩ := X
  exact Go.of (fun t k => XS.astore X.here hx rfl (hb hby hd) rfl hv hl k) K
theorem k_iconst {i : Int} {z : Int32} (G : Ctx Γ Z own bytes maxl ret nm rm hs0) (X : W Γ n0 T h C S) (hd : decode bytes pc = .ok (.iconst i, 1)) (hp : pc + 1 = pc') (hz : Int32.ofInt i = z) (K : Go Γ n0 Q T (mkF Γ.m pc' Ls (.int z :: st))) : Go Γ n0 Q T (mkF Γ.m pc Ls (st)) := by
  subst hp
  obtain ⟨hx, hZ, hown, hby, hml, hret, hnm, hlk, hR, hsH⟩ := G
  obtain ⟨L, X, e, N⟩ := X
  subst hz
  exact Go.of (fun t k => XS.iconst X.here hx rfl (hb hby hd) k) K
theorem k_bipush {i : Int} {z : Int32} (G : Ctx Γ Z own bytes maxl ret nm rm hs0) (X : W Γ n0 T h C S) (hd : decode bytes pc = .ok (.bipush i, 2)) (hp : pc + 2 = pc') (hz : (Int8.ofInt i).toInt32 = z) (K : Go Γ n0 Q T (mkF Γ.m pc' Ls (.int z :: st))) : Go Γ n0 Q T (mkF Γ.m pc Ls (st)) := by
  subst hp
  obtain ⟨hx, hZ, hown, hby, hml, hret, hnm, hlk, hR, hsH⟩ := G
  obtain ⟨L, X, e, N⟩ := X
  subst hz
  exact Go.of (fun t k => XS.bipush X.here hx rfl (hb hby hd) k) K
theorem k_sipush {i : Int} {z : Int32} (G : Ctx Γ Z own bytes maxl ret nm rm hs0) (X : W Γ n0 T h C S) (hd : decode bytes pc = .ok (.sipush i, 3)) (hp : pc + 3 = pc') (hz : (Int16.ofInt i).toInt32 = z) (K : Go Γ n0 Q T (mkF Γ.m pc' Ls (.int z :: st))) : Go Γ n0 Q T (mkF Γ.m pc Ls (st)) := by
  subst hp
  obtain ⟨hx, hZ, hown, hby, hml, hret, hnm, hlk, hR, hsH⟩ := G
  obtain ⟨L, X, e, N⟩ := X
  subst hz
  exact Go.of (fun t k => XS.sipush X.here hx rfl (hb hby hd) k) K
theorem k_lconst {i : Fin 2} {z : Int64} (G : Ctx Γ Z own bytes maxl ret nm rm hs0) (X : W Γ n0 T h C S) (hd : decode bytes pc = .ok (.lconst i, 1)) (hp : pc + 1 = pc') (hz : Int64.ofNat i = z) (K : Go Γ n0 Q T (mkF Γ.m pc' Ls (.long z :: st))) : Go Γ n0 Q T (mkF Γ.m pc Ls (st)) := by
  subst hp
  obtain ⟨hx, hZ, hown, hby, hml, hret, hnm, hlk, hR, hsH⟩ := G
  obtain ⟨L, X, e, N⟩ := X
  subst hz
  exact Go.of (fun t k => XS.lconst X.here hx rfl (hb hby hd) k) K
theorem k_anull  (G : Ctx Γ Z own bytes maxl ret nm rm hs0) (X : W Γ n0 T h C S) (hd : decode bytes pc = .ok (.aconst_null, 1)) (hp : pc + 1 = pc')  (K : Go Γ n0 Q T (mkF Γ.m pc' Ls (.null :: st))) : Go Γ n0 Q T (mkF Γ.m pc Ls (st)) := by
  subst hp
  obtain ⟨hx, hZ, hown, hby, hml, hret, hnm, hlk, hR, hsH⟩ := G
  obtain ⟨L, X, e, N⟩ := X
  exact Go.of (fun t k => XS.aconstNull X.here hx rfl (hb hby hd) k) K
theorem k_iadd {x y z : Int32} (G : Ctx Γ Z own bytes maxl ret nm rm hs0) (X : W Γ n0 T h C S) (hd : decode bytes pc = .ok (.iadd, 1)) (hp : pc + 1 = pc') (hz : x + y = z) (K : Go Γ n0 Q T (mkF Γ.m pc' Ls (.int z :: st))) : Go Γ n0 Q T (mkF Γ.m pc Ls (.int y :: .int x :: st)) := by
  subst hp
  obtain ⟨hx, hZ, hown, hby, hml, hret, hnm, hlk, hR, hsH⟩ := G
  obtain ⟨L, X, e, N⟩ := X
  subst hz
  exact Go.of (fun t k => XS.iadd X.here hx rfl (hb hby hd) rfl k) K
theorem k_isub {x y z : Int32} (G : Ctx Γ Z own bytes maxl ret nm rm hs0) (X : W Γ n0 T h C S) (hd : decode bytes pc = .ok (.isub, 1)) (hp : pc + 1 = pc') (hz : x - y = z) (K : Go Γ n0 Q T (mkF Γ.m pc' Ls (.int z :: st))) : Go Γ n0 Q T (mkF Γ.m pc Ls (.int y :: .int x :: st)) := by
  subst hp
  obtain ⟨hx, hZ, hown, hby, hml, hret, hnm, hlk, hR, hsH⟩ := G
  obtain ⟨L, X, e, N⟩ := X
  subst hz
  exact Go.of (fun t k => XS.isub X.here hx rfl (hb hby hd) rfl k) K
theorem k_imul {x y z : Int32} (G : Ctx Γ Z own bytes maxl ret nm rm hs0) (X : W Γ n0 T h C S) (hd : decode bytes pc = .ok (.imul, 1)) (hp : pc + 1 = pc') (hz : x * y = z) (K : Go Γ n0 Q T (mkF Γ.m pc' Ls (.int z :: st))) : Go Γ n0 Q T (mkF Γ.m pc Ls (.int y :: .int x :: st)) := by
  subst hp
  obtain ⟨hx, hZ, hown, hby, hml, hret, hnm, hlk, hR, hsH⟩ := G
  obtain ⟨L, X, e, N⟩ := X
  subst hz
  exact Go.of (fun t k => XS.imul X.here hx rfl (hb hby hd) rfl k) K
theorem k_iand {x y z : Int32} (G : Ctx Γ Z own bytes maxl ret nm rm hs0) (X : W Γ n0 T h C S) (hd : decode bytes pc = .ok (.iand, 1)) (hp : pc + 1 = pc') (hz : x &&& y = z) (K : Go Γ n0 Q T (mkF Γ.m pc' Ls (.int z :: st))) : Go Γ n0 Q T (mkF Γ.m pc Ls (.int y :: .int x :: st)) := by
  subst hp
  obtain ⟨hx, hZ, hown, hby, hml, hret, hnm, hlk, hR, hsH⟩ := G
  obtain ⟨L, X, e, N⟩ := X
  subst hz
  exact Go.of (fun t k => XS.iand X.here hx rfl (hb hby hd) rfl k) K
theorem k_ior {x y z : Int32} (G : Ctx Γ Z own bytes maxl ret nm rm hs0) (X : W Γ n0 T h C S) (hd : decode bytes pc = .ok (.ior, 1)) (hp : pc + 1 = pc') (hz : x ||| y = z) (K : Go Γ n0 Q T (mkF Γ.m pc' Ls (.int z :: st))) : Go Γ n0 Q T (mkF Γ.m pc Ls (.int y :: .int x :: st)) := by
  subst hp
  obtain ⟨hx, hZ, hown, hby, hml, hret, hnm, hlk, hR, hsH⟩ := G
  obtain ⟨L, X, e, N⟩ := X
  subst hz
  exact Go.of (fun t k => XS.ior X.here hx rfl (hb hby hd) rfl k) K
theorem k_ixor {x y z : Int32} (G : Ctx Γ Z own bytes maxl ret nm rm hs0) (X : W Γ n0 T h C S) (hd : decode bytes pc = .ok (.ixor, 1)) (hp : pc + 1 = pc') (hz : x ^^^ y = z) (K : Go Γ n0 Q T (mkF Γ.m pc' Ls (.int z :: st))) : Go Γ n0 Q T (mkF Γ.m pc Ls (.int y :: .int x :: st)) := by
  subst hp
  obtain ⟨hx, hZ, hown, hby, hml, hret, hnm, hlk, hR, hsH⟩ := G
  obtain ⟨L, X, e, N⟩ := X
  subst hz
  exact Go.of (fun t k => XS.ixor X.here hx rfl (hb hby hd) rfl k) K
theorem k_ishl {x y z : Int32} (G : Ctx Γ Z own bytes maxl ret nm rm hs0) (X : W Γ n0 T h C S) (hd : decode bytes pc = .ok (.ishl, 1)) (hp : pc + 1 = pc') (hz : x <<< (y &&& 31) = z) (K : Go Γ n0 Q T (mkF Γ.m pc' Ls (.int z :: st))) : Go Γ n0 Q T (mkF Γ.m pc Ls (.int y :: .int x :: st)) := by
  subst hp
  obtain ⟨hx, hZ, hown, hby, hml, hret, hnm, hlk, hR, hsH⟩ := G
  obtain ⟨L, X, e, N⟩ := X
  subst hz
  exact Go.of (fun t k => XS.ishl X.here hx rfl (hb hby hd) rfl k) K
theorem k_ishr {x y z : Int32} (G : Ctx Γ Z own bytes maxl ret nm rm hs0) (X : W Γ n0 T h C S) (hd : decode bytes pc = .ok (.ishr, 1)) (hp : pc + 1 = pc') (hz : x >>> (y &&& 31) = z) (K : Go Γ n0 Q T (mkF Γ.m pc' Ls (.int z :: st))) : Go Γ n0 Q T (mkF Γ.m pc Ls (.int y :: .int x :: st)) := by
  subst hp
  obtain ⟨hx, hZ, hown, hby, hml, hret, hnm, hlk, hR, hsH⟩ := G
  obtain ⟨L, X, e, N⟩ := X
  subst hz
  exact Go.of (fun t k => XS.ishr X.here hx rfl (hb hby hd) rfl k) K
theorem k_iushr {x y z : Int32} (G : Ctx Γ Z own bytes maxl ret nm rm hs0) (X : W Γ n0 T h C S) (hd : decode bytes pc = .ok (.iushr, 1)) (hp : pc + 1 = pc') (hz : (x.toUInt32 >>> (y &&& 31).toUInt32).toInt32 = z) (K : Go Γ n0 Q T (mkF Γ.m pc' Ls (.int z :: st))) : Go Γ n0 Q T (mkF Γ.m pc Ls (.int y :: .int x :: st)) := by
  subst hp
  obtain ⟨hx, hZ, hown, hby, hml, hret, hnm, hlk, hR, hsH⟩ := G
  obtain ⟨L, X, e, N⟩ := X
  subst hz
  exact Go.of (fun t k => XS.iushr X.here hx rfl (hb hby hd) rfl k) K
theorem k_ladd {x y z : Int64} (G : Ctx Γ Z own bytes maxl ret nm rm hs0) (X : W Γ n0 T h C S) (hd : decode bytes pc = .ok (.ladd, 1)) (hp : pc + 1 = pc') (hz : x + y = z) (K : Go Γ n0 Q T (mkF Γ.m pc' Ls (.long z :: st))) : Go Γ n0 Q T (mkF Γ.m pc Ls (.long y :: .long x :: st)) := by
  subst hp
  obtain ⟨hx, hZ, hown, hby, hml, hret, hnm, hlk, hR, hsH⟩ := G
  obtain ⟨L, X, e, N⟩ := X
  subst hz
  exact Go.of (fun t k => XS.ladd X.here hx rfl (hb hby hd) rfl k) K
theorem k_lsub {x y z : Int64} (G : Ctx Γ Z own bytes maxl ret nm rm hs0) (X : W Γ n0 T h C S) (hd : decode bytes pc = .ok (.lsub, 1)) (hp : pc + 1 = pc') (hz : x - y = z) (K : Go Γ n0 Q T (mkF Γ.m pc' Ls (.long z :: st))) : Go Γ n0 Q T (mkF Γ.m pc Ls (.long y :: .long x :: st)) := by
  subst hp
  obtain ⟨hx, hZ, hown, hby, hml, hret, hnm, hlk, hR, hsH⟩ := G
  obtain ⟨L, X, e, N⟩ := X
  subst hz
  exact Go.of (fun t k => XS.lsub X.here hx rfl (hb hby hd) rfl k) K
theorem k_lmul {x y z : Int64} (G : Ctx Γ Z own bytes maxl ret nm rm hs0) (X : W Γ n0 T h C S) (hd : decode bytes pc = .ok (.lmul, 1)) (hp : pc + 1 = pc') (hz : x * y = z) (K : Go Γ n0 Q T (mkF Γ.m pc' Ls (.long z :: st))) : Go Γ n0 Q T (mkF Γ.m pc Ls (.long y :: .long x :: st)) := by
  subst hp
  obtain ⟨hx, hZ, hown, hby, hml, hret, hnm, hlk, hR, hsH⟩ := G
  obtain ⟨L, X, e, N⟩ := X
  subst hz
  exact Go.of (fun t k => XS.lmul X.here hx rfl (hb hby hd) rfl k) K
theorem k_land {x y z : Int64} (G : Ctx Γ Z own bytes maxl ret nm rm hs0) (X : W Γ n0 T h C S) (hd : decode bytes pc = .ok (.land, 1)) (hp : pc + 1 = pc') (hz : x &&& y = z) (K : Go Γ n0 Q T (mkF Γ.m pc' Ls (.long z :: st))) : Go Γ n0 Q T (mkF Γ.m pc Ls (.long y :: .long x :: st)) := by
  subst hp
  obtain ⟨hx, hZ, hown, hby, hml, hret, hnm, hlk, hR, hsH⟩ := G
  obtain ⟨L, X, e, N⟩ := X
  subst hz
  exact Go.of (fun t k => XS.land X.here hx rfl (hb hby hd) rfl k) K
theorem k_lor {x y z : Int64} (G : Ctx Γ Z own bytes maxl ret nm rm hs0) (X : W Γ n0 T h C S) (hd : decode bytes pc = .ok (.lor, 1)) (hp : pc + 1 = pc') (hz : x ||| y = z) (K : Go Γ n0 Q T (mkF Γ.m pc' Ls (.long z :: st))) : Go Γ n0 Q T (mkF Γ.m pc Ls (.long y :: .long x :: st)) := by
  subst hp
  obtain ⟨hx, hZ, hown, hby, hml, hret, hnm, hlk, hR, hsH⟩ := G
  obtain ⟨L, X, e, N⟩ := X
  subst hz
  exact Go.of (fun t k => XS.lor X.here hx rfl (hb hby hd) rfl k) K
theorem k_lxor {x y z : Int64} (G : Ctx Γ Z own bytes maxl ret nm rm hs0) (X : W Γ n0 T h C S) (hd : decode bytes pc = .ok (.lxor, 1)) (hp : pc + 1 = pc') (hz : x ^^^ y = z) (K : Go Γ n0 Q T (mkF Γ.m pc' Ls (.long z :: st))) : Go Γ n0 Q T (mkF Γ.m pc Ls (.long y :: .long x :: st)) := by
  subst hp
  obtain ⟨hx, hZ, hown, hby, hml, hret, hnm, hlk, hR, hsH⟩ := G
  obtain ⟨L, X, e, N⟩ := X
  subst hz
  exact Go.of (fun t k => XS.lxor X.here hx rfl (hb hby hd) rfl k) K
theorem k_lshl {x z : Int64} {y : Int32} (G : Ctx Γ Z own bytes maxl ret nm rm hs0) (X : W Γ n0 T h C S) (hd : decode bytes pc = .ok (.lshl, 1)) (hp : pc + 1 = pc') (hz : x <<< (y &&& 0x3f).toInt64 = z) (K : Go Γ n0 Q T (mkF Γ.m pc' Ls (.long z :: st))) : Go Γ n0 Q T (mkF Γ.m pc Ls (.int y :: .long x :: st)) := by
  subst hp
  obtain ⟨hx, hZ, hown, hby, hml, hret, hnm, hlk, hR, hsH⟩ := G
  obtain ⟨L, X, e, N⟩ := X
  subst hz
  exact Go.of (fun t k => XS.lshl X.here hx rfl (hb hby hd) rfl k) K
theorem k_lshr {x z : Int64} {y : Int32} (G : Ctx Γ Z own bytes maxl ret nm rm hs0) (X : W Γ n0 T h C S) (hd : decode bytes pc = .ok (.lshr, 1)) (hp : pc + 1 = pc') (hz : x >>> (y &&& 0x3f).toInt64 = z) (K : Go Γ n0 Q T (mkF Γ.m pc' Ls (.long z :: st))) : Go Γ n0 Q T (mkF Γ.m pc Ls (.int y :: .long x :: st)) := by
  subst hp
  obtain ⟨hx, hZ, hown, hby, hml, hret, hnm, hlk, hR, hsH⟩ := G
  obtain ⟨L, X, e, N⟩ := X
  subst hz
  exact Go.of (fun t k => XS.lshr X.here hx rfl (hb hby hd) rfl k) K
theorem k_lushr {x z : Int64} {y : Int32} (G : Ctx Γ Z own bytes maxl ret nm rm hs0) (X : W Γ n0 T h C S) (hd : decode bytes pc = .ok (.lushr, 1)) (hp : pc + 1 = pc') (hz : (x.toUInt64 >>> (y &&& 0x3f).toInt64.toUInt64).toInt64 = z) (K : Go Γ n0 Q T (mkF Γ.m pc' Ls (.long z :: st))) : Go Γ n0 Q T (mkF Γ.m pc Ls (.int y :: .long x :: st)) := by
  subst hp
  obtain ⟨hx, hZ, hown, hby, hml, hret, hnm, hlk, hR, hsH⟩ := G
  obtain ⟨L, X, e, N⟩ := X
  subst hz
  exact Go.of (fun t k => XS.lushr X.here hx rfl (hb hby hd) rfl k) K
theorem k_idiv {x y z : Int32} (G : Ctx Γ Z own bytes maxl ret nm rm hs0) (X : W Γ n0 T h C S) (hd : decode bytes pc = .ok (.idiv, 1)) (hp : pc + 1 = pc') (hy : y ≠ 0) (hz : x / y = z) (K : Go Γ n0 Q T (mkF Γ.m pc' Ls (.int z :: st))) : Go Γ n0 Q T (mkF Γ.m pc Ls (.int y :: .int x :: st)) := by
  subst hp
  obtain ⟨hx, hZ, hown, hby, hml, hret, hnm, hlk, hR, hsH⟩ := G
  obtain ⟨L, X, e, N⟩ := X
  subst hz
  exact Go.of (fun t k => XS.idiv X.here hx rfl (hb hby hd) rfl hy k) K
theorem k_irem {x y z : Int32} (G : Ctx Γ Z own bytes maxl ret nm rm hs0) (X : W Γ n0 T h C S) (hd : decode bytes pc = .ok (.irem, 1)) (hp : pc + 1 = pc') (hy : y ≠ 0) (hz : x % y = z) (K : Go Γ n0 Q T (mkF Γ.m pc' Ls (.int z :: st))) : Go Γ n0 Q T (mkF Γ.m pc Ls (.int y :: .int x :: st)) := by
  subst hp
  obtain ⟨hx, hZ, hown, hby, hml, hret, hnm, hlk, hR, hsH⟩ := G
  obtain ⟨L, X, e, N⟩ := X
  subst hz
  exact Go.of (fun t k => iremM X hx rfl (hb hby hd) rfl hy k) K
theorem k_ldiv {x y z : Int64} (G : Ctx Γ Z own bytes maxl ret nm rm hs0) (X : W Γ n0 T h C S) (hd : decode bytes pc = .ok (.ldiv, 1)) (hp : pc + 1 = pc') (hy : y ≠ 0) (hz : x / y = z) (K : Go Γ n0 Q T (mkF Γ.m pc' Ls (.long z :: st))) : Go Γ n0 Q T (mkF Γ.m pc Ls (.long y :: .long x :: st)) := by
  subst hp
  obtain ⟨hx, hZ, hown, hby, hml, hret, hnm, hlk, hR, hsH⟩ := G
  obtain ⟨L, X, e, N⟩ := X
  subst hz
  exact Go.of (fun t k => XS.ldiv X.here hx rfl (hb hby hd) rfl hy k) K
theorem k_lrem {x y z : Int64} (G : Ctx Γ Z own bytes maxl ret nm rm hs0) (X : W Γ n0 T h C S) (hd : decode bytes pc = .ok (.lrem, 1)) (hp : pc + 1 = pc') (hy : y ≠ 0) (hz : x % y = z) (K : Go Γ n0 Q T (mkF Γ.m pc' Ls (.long z :: st))) : Go Γ n0 Q T (mkF Γ.m pc Ls (.long y :: .long x :: st)) := by
  subst hp
  obtain ⟨hx, hZ, hown, hby, hml, hret, hnm, hlk, hR, hsH⟩ := G
  obtain ⟨L, X, e, N⟩ := X
  subst hz
  rw [← lrem_mod] at K
  exact Go.of (fun t k => XS.lrem X.here hx rfl (hb hby hd) rfl hy k) K
theorem k_lcmp {x y : Int64} {z : Int32} (G : Ctx Γ Z own bytes maxl ret nm rm hs0) (X : W Γ n0 T h C S) (hd : decode bytes pc = .ok (.lcmp, 1)) (hp : pc + 1 = pc') (hz : (if x > y then (1 : Int32) else if x = y then 0 else -1) = z) (K : Go Γ n0 Q T (mkF Γ.m pc' Ls (.int z :: st))) : Go Γ n0 Q T (mkF Γ.m pc Ls (.long y :: .long x :: st)) := by
  subst hp
  obtain ⟨hx, hZ, hown, hby, hml, hret, hnm, hlk, hR, hsH⟩ := G
  obtain ⟨L, X, e, N⟩ := X
  subst hz
  exact Go.of (fun t k => XS.lcmp X.here hx rfl (hb hby hd) rfl k) K
theorem k_ineg {x : Int32} {z : Int32} (G : Ctx Γ Z own bytes maxl ret nm rm hs0) (X : W Γ n0 T h C S) (hd : decode bytes pc = .ok (.ineg, 1)) (hp : pc + 1 = pc') (hz : -x = z) (K : Go Γ n0 Q T (mkF Γ.m pc' Ls (.int z :: st))) : Go Γ n0 Q T (mkF Γ.m pc Ls (.int x :: st)) := by
  subst hp
  obtain ⟨hx, hZ, hown, hby, hml, hret, hnm, hlk, hR, hsH⟩ := G
  obtain ⟨L, X, e, N⟩ := X
  subst hz
  exact Go.of (fun t k => XS.ineg X.here hx rfl (hb hby hd) rfl k) K
theorem k_lneg {x : Int64} {z : Int64} (G : Ctx Γ Z own bytes maxl ret nm rm hs0) (X : W Γ n0 T h C S) (hd : decode bytes pc = .ok (.lneg, 1)) (hp : pc + 1 = pc') (hz : -x = z) (K : Go Γ n0 Q T (mkF Γ.m pc' Ls (.long z :: st))) : Go Γ n0 Q T (mkF Γ.m pc Ls (.long x :: st)) := by
  subst hp
  obtain ⟨hx, hZ, hown, hby, hml, hret, hnm, hlk, hR, hsH⟩ := G
  obtain ⟨L, X, e, N⟩ := X
  subst hz
  exact Go.of (fun t k => XS.lneg X.here hx rfl (hb hby hd) rfl k) K
theorem k_i2l {x : Int32} {z : Int64} (G : Ctx Γ Z own bytes maxl ret nm rm hs0) (X : W Γ n0 T h C S) (hd : decode bytes pc = .ok (.i2l, 1)) (hp : pc + 1 = pc') (hz : x.toInt64 = z) (K : Go Γ n0 Q T (mkF Γ.m pc' Ls (.long z :: st))) : Go Γ n0 Q T (mkF Γ.m pc Ls (.int x :: st)) := by
  subst hp
  obtain ⟨hx, hZ, hown, hby, hml, hret, hnm, hlk, hR, hsH⟩ := G
  obtain ⟨L, X, e, N⟩ := X
  subst hz
  exact Go.of (fun t k => XS.i2l X.here hx rfl (hb hby hd) rfl k) K
theorem k_l2i {x : Int64} {z : Int32} (G : Ctx Γ Z own bytes maxl ret nm rm hs0) (X : W Γ n0 T h C S) (hd : decode bytes pc = .ok (.l2i, 1)) (hp : pc + 1 = pc') (hz : x.toInt32 = z) (K : Go Γ n0 Q T (mkF Γ.m pc' Ls (.int z :: st))) : Go Γ n0 Q T (mkF Γ.m pc Ls (.long x :: st)) := by
  subst hp
  obtain ⟨hx, hZ, hown, hby, hml, hret, hnm, hlk, hR, hsH⟩ := G
  obtain ⟨L, X, e, N⟩ := X
  subst hz
  exact Go.of (fun t k => XS.l2i X.here hx rfl (hb hby hd) rfl k) K
theorem k_i2b {x : Int32} {z : Int32} (G : Ctx Γ Z own bytes maxl ret nm rm hs0) (X : W Γ n0 T h C S) (hd : decode bytes pc = .ok (.i2b, 1)) (hp : pc + 1 = pc') (hz : x.toInt8.toInt32 = z) (K : Go Γ n0 Q T (mkF Γ.m pc' Ls (.int z :: st))) : Go Γ n0 Q T (mkF Γ.m pc Ls (.int x :: st)) := by
  subst hp
  obtain ⟨hx, hZ, hown, hby, hml, hret, hnm, hlk, hR, hsH⟩ := G
  obtain ⟨L, X, e, N⟩ := X
  subst hz
  exact Go.of (fun t k => XS.i2b X.here hx rfl (hb hby hd) rfl k) K
theorem k_i2s {x : Int32} {z : Int32} (G : Ctx Γ Z own bytes maxl ret nm rm hs0) (X : W Γ n0 T h C S) (hd : decode bytes pc = .ok (.i2s, 1)) (hp : pc + 1 = pc') (hz : x.toInt16.toInt32 = z) (K : Go Γ n0 Q T (mkF Γ.m pc' Ls (.int z :: st))) : Go Γ n0 Q T (mkF Γ.m pc Ls (.int x :: st)) := by
  subst hp
  obtain ⟨hx, hZ, hown, hby, hml, hret, hnm, hlk, hR, hsH⟩ := G
  obtain ⟨L, X, e, N⟩ := X
  subst hz
  exact Go.of (fun t k => XS.i2s X.here hx rfl (hb hby hd) rfl k) K
theorem k_i2c {x : Int32} {z : Int32} (G : Ctx Γ Z own bytes maxl ret nm rm hs0) (X : W Γ n0 T h C S) (hd : decode bytes pc = .ok (.i2c, 1)) (hp : pc + 1 = pc') (hz : x.toUInt32.toUInt16.toUInt32.toInt32 = z) (K : Go Γ n0 Q T (mkF Γ.m pc' Ls (.int z :: st))) : Go Γ n0 Q T (mkF Γ.m pc Ls (.int x :: st)) := by
  subst hp
  obtain ⟨hx, hZ, hown, hby, hml, hret, hnm, hlk, hR, hsH⟩ := G
  obtain ⟨L, X, e, N⟩ := X
  subst hz
  exact Go.of (fun t k => XS.i2c X.here hx rfl (hb hby hd) rfl k) K
theorem k_pop {x : Value} (G : Ctx Γ Z own bytes maxl ret nm rm hs0) (X : W Γ n0 T h C S) (hd : decode bytes pc = .ok (.pop, 1)) (hp : pc + 1 = pc') (hc : x.category = 1) (K : Go Γ n0 Q T (mkF Γ.m pc' Ls (st))) : Go Γ n0 Q T (mkF Γ.m pc Ls (x :: st)) := by
  subst hp
  obtain ⟨hx, hZ, hown, hby, hml, hret, hnm, hlk, hR, hsH⟩ := G
  obtain ⟨L, X, e, N⟩ := X
  exact Go.of (fun t k => XS.pop X.here hx rfl (hb hby hd) rfl hc k) K
theorem k_dup {x : Value} (G : Ctx Γ Z own bytes maxl ret nm rm hs0) (X : W Γ n0 T h C S) (hd : decode bytes pc = .ok (.dup, 1)) (hp : pc + 1 = pc') (hc : x.category = 1) (K : Go Γ n0 Q T (mkF Γ.m pc' Ls (x :: x :: st))) : Go Γ n0 Q T (mkF Γ.m pc Ls (x :: st)) := by
  subst hp
  obtain ⟨hx, hZ, hown, hby, hml, hret, hnm, hlk, hR, hsH⟩ := G
  obtain ⟨L, X, e, N⟩ := X
  exact Go.of (fun t k => XS.dup X.here hx rfl (hb hby hd) rfl hc k) K
theorem k_dupx1 {x y : Value} (G : Ctx Γ Z own bytes maxl ret nm rm hs0) (X : W Γ n0 T h C S) (hd : decode bytes pc = .ok (.dup_x1, 1)) (hp : pc + 1 = pc') (hc : x.category = 1) (hc' : y.category = 1) (K : Go Γ n0 Q T (mkF Γ.m pc' Ls (x :: y :: x :: st))) : Go Γ n0 Q T (mkF Γ.m pc Ls (x :: y :: st)) := by
  subst hp
  obtain ⟨hx, hZ, hown, hby, hml, hret, hnm, hlk, hR, hsH⟩ := G
  obtain ⟨L, X, e, N⟩ := X
  exact Go.of (fun t k => XS.dupX1 X.here hx rfl (hb hby hd) rfl hc hc' k) K
theorem k_dup2 {x y : Value} (G : Ctx Γ Z own bytes maxl ret nm rm hs0) (X : W Γ n0 T h C S) (hd : decode bytes pc = .ok (.dup2, 1)) (hp : pc + 1 = pc') (hc : x.category = 1) (hc' : y.category = 1) (K : Go Γ n0 Q T (mkF Γ.m pc' Ls (x :: y :: x :: y :: st))) : Go Γ n0 Q T (mkF Γ.m pc Ls (x :: y :: st)) := by
  subst hp
  obtain ⟨hx, hZ, hown, hby, hml, hret, hnm, hlk, hR, hsH⟩ := G
  obtain ⟨L, X, e, N⟩ := X
  exact Go.of (fun t k => XT.dup2 X.here hx rfl (hb hby hd) rfl hc hc' k) K
theorem k_dup2l {x : Int64} (G : Ctx Γ Z own bytes maxl ret nm rm hs0) (X : W Γ n0 T h C S) (hd : decode bytes pc = .ok (.dup2, 1)) (hp : pc + 1 = pc')  (K : Go Γ n0 Q T (mkF Γ.m pc' Ls (.long x :: .long x :: st))) : Go Γ n0 Q T (mkF Γ.m pc Ls (.long x :: st)) := by
  subst hp
  obtain ⟨hx, hZ, hown, hby, hml, hret, hnm, hlk, hR, hsH⟩ := G
  obtain ⟨L, X, e, N⟩ := X
  exact Go.of (fun t k => XT.dup2L X.here hx rfl (hb hby hd) rfl k) K
theorem k_iinc {k : Nat} {cst : Int} {x z : Int32} {l' : Array Slot} (G : Ctx Γ Z own bytes maxl ret nm rm hs0) (X : W Γ n0 T h C S) (hd : decode bytes pc = .ok (.iinc k cst, 3)) (hp : pc + 3 = pc') (hl : Ls[k]? = some (.val (.int x))) (hz : x + Int32.ofInt cst = z) (hl' : storeLocals Ls k (.int z) = some l') (K : Go Γ n0 Q T (mkF Γ.m pc' l' (st))) : Go Γ n0 Q T (mkF Γ.m pc Ls (st)) := by
  subst hp
  obtain ⟨hx, hZ, hown, hby, hml, hret, hnm, hlk, hR, hsH⟩ := G
  obtain ⟨L, X, e, N⟩ := X
  subst hz
  exact Go.of (fun t k => XS.iinc X.here hx rfl (hb hby hd) hl hl' k) K
theorem k_istoreS {k : Nat} {v : Int32} {o : Slot} {l' : Array Slot} (G : Ctx Γ Z own bytes maxl ret nm rm hs0) (X : W Γ n0 T h C S) (hd : decode bytes pc = .ok (.istore k, 2)) (hp : pc + 2 = pc') (hold : Ls[k]? = some o) (ho : o = .unset ∨ ∃ w, o = .val w ∧ w.category = 1) (hl : Ls.setIfInBounds k (.val (.int v)) = l') (K : Go Γ n0 Q T (mkF Γ.m pc' l' (st))) : Go Γ n0 Q T (mkF Γ.m pc Ls (.int v :: st)) := by
  subst hp
  obtain ⟨hx, hZ, hown, hby, hml, hret, hnm, hlk, hR, hsH⟩ := G
  obtain ⟨L, X, e, N⟩ := X
  subst hl
  exact Go.of (fun t k => XS.istoreS X.here hx rfl (hb hby hd) rfl hold ho k) K
theorem k_istoreNS {k : Fin 4} {v : Int32} {o : Slot} {l' : Array Slot} (G : Ctx Γ Z own bytes maxl ret nm rm hs0) (X : W Γ n0 T h C S) (hd : decode bytes pc = .ok (.istore_n k, 1)) (hp : pc + 1 = pc') (hold : Ls[k.val]? = some o) (ho : o = .unset ∨ ∃ w, o = .val w ∧ w.category = 1) (hl : Ls.setIfInBounds k.val (.val (.int v)) = l') (K : Go Γ n0 Q T (mkF Γ.m pc' l' (st))) : Go Γ n0 Q T (mkF Γ.m pc Ls (.int v :: st)) := by
  subst hp
  obtain ⟨hx, hZ, hown, hby, hml, hret, hnm, hlk, hR, hsH⟩ := G
  obtain ⟨L, X, e, N⟩ := X
  subst hl
  exact Go.of (fun t k => XS.istoreNS X.here hx rfl (hb hby hd) rfl hold ho k) K
theorem k_astoreS {k : Nat} {v : Value} {o : Slot} {l' : Array Slot} (G : Ctx Γ Z own bytes maxl ret nm rm hs0) (X : W Γ n0 T h C S) (hd : decode bytes pc = .ok (.astore k, 2)) (hp : pc + 2 = pc') (hv : v.isRef = true) (hold : Ls[k]? = some o) (ho : o = .unset ∨ ∃ w, o = .val w ∧ w.category = 1) (hl : Ls.setIfInBounds k (.val v) = l') (K : Go Γ n0 Q T (mkF Γ.m pc' l' (st))) : Go Γ n0 Q T (mkF Γ.m pc Ls (v :: st)) := by
  subst hp
  obtain ⟨hx, hZ, hown, hby, hml, hret, hnm, hlk, hR, hsH⟩ := G
  obtain ⟨L, X, e, N⟩ := X
  subst hl
  exact Go.of (fun t k => XS.astoreS X.here hx rfl (hb hby hd) rfl hv (by cases v <;> first | rfl | (simp [Value.isRef] at hv)) hold ho k) K
theorem k_astoreNS {k : Fin 4} {v : Value} {o : Slot} {l' : Array Slot} (G : Ctx Γ Z own bytes maxl ret nm rm hs0) (X : W Γ n0 T h C S) (hd : decode bytes pc = .ok (.astore_n k, 1)) (hp : pc + 1 = pc') (hv : v.isRef = true) (hold : Ls[k.val]? = some o) (ho : o = .unset ∨ ∃ w, o = .val w ∧ w.category = 1) (hl : Ls.setIfInBounds k.val (.val v) = l') (K : Go Γ n0 Q T (mkF Γ.m pc' l' (st))) : Go Γ n0 Q T (mkF Γ.m pc Ls (v :: st)) := by
  subst hp
  obtain ⟨hx, hZ, hown, hby, hml, hret, hnm, hlk, hR, hsH⟩ := G
  obtain ⟨L, X, e, N⟩ := X
  subst hl
  exact Go.of (fun t k => XS.astoreN X.here hx rfl (hb hby hd) rfl hv (XS.store1 hold ho (by cases v <;> first | rfl | (simp [Value.isRef] at hv))) k) K
theorem k_goto {o : Int} (G : Ctx Γ Z own bytes maxl ret nm rm hs0) (X : W Γ n0 T h C S) (hd : decode bytes pc = .ok (.goto o, 3)) (ho : 0 ≤ (pc : Int) + o) (hp : ((pc : Int) + o).toNat = pc') (K : Go Γ n0 Q T (mkF Γ.m pc' Ls st)) : Go Γ n0 Q T (mkF Γ.m pc Ls st) := by
  obtain ⟨hx, hZ, hown, hby, hml, hret, hnm, hlk, hR, hsH⟩ := G
  obtain ⟨L, X, e, N⟩ := X
  exact Go.of (fun t k => XS.goto X.here hx rfl (pc0 := pc) rfl (hb hby hd) ho hp k) K
theorem z32 : (0 : Int32).toInt = 0 := rfl
theorem hold_eq (x y : Int32) : (if_icmp.holds .eq x y = true → x = y) ∧ (if_icmp.holds .eq x y = false → x ≠ y) := by
  constructor <;> intro q <;> simp only [if_icmp.holds] at q <;> simp [Int32.lt_iff_toInt_lt, Int32.le_iff_toInt_le] at q ⊢ <;> first | exact q | omega
theorem hold0_eq (x : Int32) : (ifCond.holds .eq x = true → x = 0) ∧ (ifCond.holds .eq x = false → x ≠ 0) := by
  have z := z32
  constructor <;> intro q <;> simp only [ifCond.holds] at q <;> simp [Int32.lt_iff_toInt_lt, Int32.le_iff_toInt_le] at q ⊢ <;> first | exact q | omega
theorem k_icmp_eq {o : Int} {x y : Int32} {pc'' : Nat} (G : Ctx Γ Z own bytes maxl ret nm rm hs0) (X : W Γ n0 T h C S) (hd : decode bytes pc = .ok (.if_icmp .eq o, 3)) (hp : ((pc : Int) + o).toNat = pc') (ho : 0 ≤ (pc : Int) + o) (hp' : pc + 3 = pc'') (K : x = y → Go Γ n0 Q T (mkF Γ.m pc' Ls st)) (K' : x ≠ y → Go Γ n0 Q T (mkF Γ.m pc'' Ls st)) : Go Γ n0 Q T (mkF Γ.m pc Ls (.int y :: .int x :: st)) := by
  subst hp'
  obtain ⟨hx, hZ, hown, hby, hml, hret, hnm, hlk, hR, hsH⟩ := G
  obtain ⟨L, X, e, N⟩ := X
  cases q : if_icmp.holds .eq x y
  · exact Go.of (fun t k => XS.icmpNo X.here hx rfl (hb hby hd) rfl q k) (K' ((hold_eq x y).2 q))
  · exact Go.of (fun t k => XS.icmpYes X.here hx rfl (pc0 := pc) rfl (hb hby hd) rfl q ho hp k) (K ((hold_eq x y).1 q))
theorem k_if_eq {o : Int} {x : Int32} {pc'' : Nat} (G : Ctx Γ Z own bytes maxl ret nm rm hs0) (X : W Γ n0 T h C S) (hd : decode bytes pc = .ok (.ifCond .eq o, 3)) (hp : ((pc : Int) + o).toNat = pc') (ho : 0 ≤ (pc : Int) + o) (hp' : pc + 3 = pc'') (K : x = 0 → Go Γ n0 Q T (mkF Γ.m pc' Ls st)) (K' : x ≠ 0 → Go Γ n0 Q T (mkF Γ.m pc'' Ls st)) : Go Γ n0 Q T (mkF Γ.m pc Ls (.int x :: st)) := by
  subst hp'
  obtain ⟨hx, hZ, hown, hby, hml, hret, hnm, hlk, hR, hsH⟩ := G
  obtain ⟨L, X, e, N⟩ := X
  cases q : ifCond.holds .eq x
  · exact Go.of (fun t k => XS.ifNo X.here hx rfl (hb hby hd) rfl q k) (K' ((hold0_eq x).2 q))
  · exact Go.of (fun t k => XS.ifYes X.here hx rfl (pc0 := pc) rfl (hb hby hd) rfl q ho hp k) (K ((hold0_eq x).1 q))
theorem hold_ne (x y : Int32) : (if_icmp.holds .ne x y = true → x ≠ y) ∧ (if_icmp.holds .ne x y = false → x = y) := by
  constructor <;> intro q <;> simp only [if_icmp.holds] at q <;> simp [Int32.lt_iff_toInt_lt, Int32.le_iff_toInt_le] at q ⊢ <;> first | exact q | omega
theorem hold0_ne (x : Int32) : (ifCond.holds .ne x = true → x ≠ 0) ∧ (ifCond.holds .ne x = false → x = 0) := by
  have z := z32
  constructor <;> intro q <;> simp only [ifCond.holds] at q <;> simp [Int32.lt_iff_toInt_lt, Int32.le_iff_toInt_le] at q ⊢ <;> first | exact q | omega
theorem k_icmp_ne {o : Int} {x y : Int32} {pc'' : Nat} (G : Ctx Γ Z own bytes maxl ret nm rm hs0) (X : W Γ n0 T h C S) (hd : decode bytes pc = .ok (.if_icmp .ne o, 3)) (hp : ((pc : Int) + o).toNat = pc') (ho : 0 ≤ (pc : Int) + o) (hp' : pc + 3 = pc'') (K : x ≠ y → Go Γ n0 Q T (mkF Γ.m pc' Ls st)) (K' : x = y → Go Γ n0 Q T (mkF Γ.m pc'' Ls st)) : Go Γ n0 Q T (mkF Γ.m pc Ls (.int y :: .int x :: st)) := by
  subst hp'
  obtain ⟨hx, hZ, hown, hby, hml, hret, hnm, hlk, hR, hsH⟩ := G
  obtain ⟨L, X, e, N⟩ := X
  cases q : if_icmp.holds .ne x y
  · exact Go.of (fun t k => XS.icmpNo X.here hx rfl (hb hby hd) rfl q k) (K' ((hold_ne x y).2 q))
  · exact Go.of (fun t k => XS.icmpYes X.here hx rfl (pc0 := pc) rfl (hb hby hd) rfl q ho hp k) (K ((hold_ne x y).1 q))
theorem k_if_ne {o : Int} {x : Int32} {pc'' : Nat} (G : Ctx Γ Z own bytes maxl ret nm rm hs0) (X : W Γ n0 T h C S) (hd : decode bytes pc = .ok (.ifCond .ne o, 3)) (hp : ((pc : Int) + o).toNat = pc') (ho : 0 ≤ (pc : Int) + o) (hp' : pc + 3 = pc'') (K : x ≠ 0 → Go Γ n0 Q T (mkF Γ.m pc' Ls st)) (K' : x = 0 → Go Γ n0 Q T (mkF Γ.m pc'' Ls st)) : Go Γ n0 Q T (mkF Γ.m pc Ls (.int x :: st)) := by
  subst hp'
  obtain ⟨hx, hZ, hown, hby, hml, hret, hnm, hlk, hR, hsH⟩ := G
  obtain ⟨L, X, e, N⟩ := X
  cases q : ifCond.holds .ne x
  · exact Go.of (fun t k => XS.ifNo X.here hx rfl (hb hby hd) rfl q k) (K' ((hold0_ne x).2 q))
  · exact Go.of (fun t k => XS.ifYes X.here hx rfl (pc0 := pc) rfl (hb hby hd) rfl q ho hp k) (K ((hold0_ne x).1 q))
theorem hold_lt (x y : Int32) : (if_icmp.holds .lt x y = true → x.toInt < y.toInt) ∧ (if_icmp.holds .lt x y = false → y.toInt ≤ x.toInt) := by
  constructor <;> intro q <;> simp only [if_icmp.holds] at q <;> simp [Int32.lt_iff_toInt_lt, Int32.le_iff_toInt_le] at q ⊢ <;> first | exact q | omega
theorem hold0_lt (x : Int32) : (ifCond.holds .lt x = true → x.toInt < 0) ∧ (ifCond.holds .lt x = false → 0 ≤ x.toInt) := by
  have z := z32
  constructor <;> intro q <;> simp only [ifCond.holds] at q <;> simp [Int32.lt_iff_toInt_lt, Int32.le_iff_toInt_le] at q ⊢ <;> first | exact q | omega
theorem k_icmp_lt {o : Int} {x y : Int32} {pc'' : Nat} (G : Ctx Γ Z own bytes maxl ret nm rm hs0) (X : W Γ n0 T h C S) (hd : decode bytes pc = .ok (.if_icmp .lt o, 3)) (hp : ((pc : Int) + o).toNat = pc') (ho : 0 ≤ (pc : Int) + o) (hp' : pc + 3 = pc'') (K : x.toInt < y.toInt → Go Γ n0 Q T (mkF Γ.m pc' Ls st)) (K' : y.toInt ≤ x.toInt → Go Γ n0 Q T (mkF Γ.m pc'' Ls st)) : Go Γ n0 Q T (mkF Γ.m pc Ls (.int y :: .int x :: st)) := by
  subst hp'
  obtain ⟨hx, hZ, hown, hby, hml, hret, hnm, hlk, hR, hsH⟩ := G
  obtain ⟨L, X, e, N⟩ := X
  cases q : if_icmp.holds .lt x y
  · exact Go.of (fun t k => XS.icmpNo X.here hx rfl (hb hby hd) rfl q k) (K' ((hold_lt x y).2 q))
  · exact Go.of (fun t k => XS.icmpYes X.here hx rfl (pc0 := pc) rfl (hb hby hd) rfl q ho hp k) (K ((hold_lt x y).1 q))
theorem k_if_lt {o : Int} {x : Int32} {pc'' : Nat} (G : Ctx Γ Z own bytes maxl ret nm rm hs0) (X : W Γ n0 T h C S) (hd : decode bytes pc = .ok (.ifCond .lt o, 3)) (hp : ((pc : Int) + o).toNat = pc') (ho : 0 ≤ (pc : Int) + o) (hp' : pc + 3 = pc'') (K : x.toInt < 0 → Go Γ n0 Q T (mkF Γ.m pc' Ls st)) (K' : 0 ≤ x.toInt → Go Γ n0 Q T (mkF Γ.m pc'' Ls st)) : Go Γ n0 Q T (mkF Γ.m pc Ls (.int x :: st)) := by
  subst hp'
  obtain ⟨hx, hZ, hown, hby, hml, hret, hnm, hlk, hR, hsH⟩ := G
  obtain ⟨L, X, e, N⟩ := X
  cases q : ifCond.holds .lt x
  · exact Go.of (fun t k => XS.ifNo X.here hx rfl (hb hby hd) rfl q k) (K' ((hold0_lt x).2 q))
  · exact Go.of (fun t k => XS.ifYes X.here hx rfl (pc0 := pc) rfl (hb hby hd) rfl q ho hp k) (K ((hold0_lt x).1 q))
theorem hold_ge (x y : Int32) : (if_icmp.holds .ge x y = true → y.toInt ≤ x.toInt) ∧ (if_icmp.holds .ge x y = false → x.toInt < y.toInt) := by
  constructor <;> intro q <;> simp only [if_icmp.holds] at q <;> simp [Int32.lt_iff_toInt_lt, Int32.le_iff_toInt_le] at q ⊢ <;> first | exact q | omega
theorem hold0_ge (x : Int32) : (ifCond.holds .ge x = true → 0 ≤ x.toInt) ∧ (ifCond.holds .ge x = false → x.toInt < 0) := by
  have z := z32
  constructor <;> intro q <;> simp only [ifCond.holds] at q <;> simp [Int32.lt_iff_toInt_lt, Int32.le_iff_toInt_le] at q ⊢ <;> first | exact q | omega
theorem k_icmp_ge {o : Int} {x y : Int32} {pc'' : Nat} (G : Ctx Γ Z own bytes maxl ret nm rm hs0) (X : W Γ n0 T h C S) (hd : decode bytes pc = .ok (.if_icmp .ge o, 3)) (hp : ((pc : Int) + o).toNat = pc') (ho : 0 ≤ (pc : Int) + o) (hp' : pc + 3 = pc'') (K : y.toInt ≤ x.toInt → Go Γ n0 Q T (mkF Γ.m pc' Ls st)) (K' : x.toInt < y.toInt → Go Γ n0 Q T (mkF Γ.m pc'' Ls st)) : Go Γ n0 Q T (mkF Γ.m pc Ls (.int y :: .int x :: st)) := by
  subst hp'
  obtain ⟨hx, hZ, hown, hby, hml, hret, hnm, hlk, hR, hsH⟩ := G
  obtain ⟨L, X, e, N⟩ := X
  cases q : if_icmp.holds .ge x y
  · exact Go.of (fun t k => XS.icmpNo X.here hx rfl (hb hby hd) rfl q k) (K' ((hold_ge x y).2 q))
  · exact Go.of (fun t k => XS.icmpYes X.here hx rfl (pc0 := pc) rfl (hb hby hd) rfl q ho hp k) (K ((hold_ge x y).1 q))
theorem k_if_ge {o : Int} {x : Int32} {pc'' : Nat} (G : Ctx Γ Z own bytes maxl ret nm rm hs0) (X : W Γ n0 T h C S) (hd : decode bytes pc = .ok (.ifCond .ge o, 3)) (hp : ((pc : Int) + o).toNat = pc') (ho : 0 ≤ (pc : Int) + o) (hp' : pc + 3 = pc'') (K : 0 ≤ x.toInt → Go Γ n0 Q T (mkF Γ.m pc' Ls st)) (K' : x.toInt < 0 → Go Γ n0 Q T (mkF Γ.m pc'' Ls st)) : Go Γ n0 Q T (mkF Γ.m pc Ls (.int x :: st)) := by
  subst hp'
  obtain ⟨hx, hZ, hown, hby, hml, hret, hnm, hlk, hR, hsH⟩ := G
  obtain ⟨L, X, e, N⟩ := X
  cases q : ifCond.holds .ge x
  · exact Go.of (fun t k => XS.ifNo X.here hx rfl (hb hby hd) rfl q k) (K' ((hold0_ge x).2 q))
  · exact Go.of (fun t k => XS.ifYes X.here hx rfl (pc0 := pc) rfl (hb hby hd) rfl q ho hp k) (K ((hold0_ge x).1 q))
theorem hold_gt (x y : Int32) : (if_icmp.holds .gt x y = true → y.toInt < x.toInt) ∧ (if_icmp.holds .gt x y = false → x.toInt ≤ y.toInt) := by
  constructor <;> intro q <;> simp only [if_icmp.holds] at q <;> simp [Int32.lt_iff_toInt_lt, Int32.le_iff_toInt_le] at q ⊢ <;> first | exact q | omega
theorem hold0_gt (x : Int32) : (ifCond.holds .gt x = true → 0 < x.toInt) ∧ (ifCond.holds .gt x = false → x.toInt ≤ 0) := by
  have z := z32
  constructor <;> intro q <;> simp only [ifCond.holds] at q <;> simp [Int32.lt_iff_toInt_lt, Int32.le_iff_toInt_le] at q ⊢ <;> first | exact q | omega
theorem k_icmp_gt {o : Int} {x y : Int32} {pc'' : Nat} (G : Ctx Γ Z own bytes maxl ret nm rm hs0) (X : W Γ n0 T h C S) (hd : decode bytes pc = .ok (.if_icmp .gt o, 3)) (hp : ((pc : Int) + o).toNat = pc') (ho : 0 ≤ (pc : Int) + o) (hp' : pc + 3 = pc'') (K : y.toInt < x.toInt → Go Γ n0 Q T (mkF Γ.m pc' Ls st)) (K' : x.toInt ≤ y.toInt → Go Γ n0 Q T (mkF Γ.m pc'' Ls st)) : Go Γ n0 Q T (mkF Γ.m pc Ls (.int y :: .int x :: st)) := by
  subst hp'
  obtain ⟨hx, hZ, hown, hby, hml, hret, hnm, hlk, hR, hsH⟩ := G
  obtain ⟨L, X, e, N⟩ := X
  cases q : if_icmp.holds .gt x y
  · exact Go.of (fun t k => XS.icmpNo X.here hx rfl (hb hby hd) rfl q k) (K' ((hold_gt x y).2 q))
  · exact Go.of (fun t k => XS.icmpYes X.here hx rfl (pc0 := pc) rfl (hb hby hd) rfl q ho hp k) (K ((hold_gt x y).1 q))
theorem k_if_gt {o : Int} {x : Int32} {pc'' : Nat} (G : Ctx Γ Z own bytes maxl ret nm rm hs0) (X : W Γ n0 T h C S) (hd : decode bytes pc = .ok (.ifCond .gt o, 3)) (hp : ((pc : Int) + o).toNat = pc') (ho : 0 ≤ (pc : Int) + o) (hp' : pc + 3 = pc'') (K : 0 < x.toInt → Go Γ n0 Q T (mkF Γ.m pc' Ls st)) (K' : x.toInt ≤ 0 → Go Γ n0 Q T (mkF Γ.m pc'' Ls st)) : Go Γ n0 Q T (mkF Γ.m pc Ls (.int x :: st)) := by
  subst hp'
  obtain ⟨hx, hZ, hown, hby, hml, hret, hnm, hlk, hR, hsH⟩ := G
  obtain ⟨L, X, e, N⟩ := X
  cases q : ifCond.holds .gt x
  · exact Go.of (fun t k => XS.ifNo X.here hx rfl (hb hby hd) rfl q k) (K' ((hold0_gt x).2 q))
  · exact Go.of (fun t k => XS.ifYes X.here hx rfl (pc0 := pc) rfl (hb hby hd) rfl q ho hp k) (K ((hold0_gt x).1 q))
theorem hold_le (x y : Int32) : (if_icmp.holds .le x y = true → x.toInt ≤ y.toInt) ∧ (if_icmp.holds .le x y = false → y.toInt < x.toInt) := by
  constructor <;> intro q <;> simp only [if_icmp.holds] at q <;> simp [Int32.lt_iff_toInt_lt, Int32.le_iff_toInt_le] at q ⊢ <;> first | exact q | omega
theorem hold0_le (x : Int32) : (ifCond.holds .le x = true → x.toInt ≤ 0) ∧ (ifCond.holds .le x = false → 0 < x.toInt) := by
  have z := z32
  constructor <;> intro q <;> simp only [ifCond.holds] at q <;> simp [Int32.lt_iff_toInt_lt, Int32.le_iff_toInt_le] at q ⊢ <;> first | exact q | omega
theorem k_icmp_le {o : Int} {x y : Int32} {pc'' : Nat} (G : Ctx Γ Z own bytes maxl ret nm rm hs0) (X : W Γ n0 T h C S) (hd : decode bytes pc = .ok (.if_icmp .le o, 3)) (hp : ((pc : Int) + o).toNat = pc') (ho : 0 ≤ (pc : Int) + o) (hp' : pc + 3 = pc'') (K : x.toInt ≤ y.toInt → Go Γ n0 Q T (mkF Γ.m pc' Ls st)) (K' : y.toInt < x.toInt → Go Γ n0 Q T (mkF Γ.m pc'' Ls st)) : Go Γ n0 Q T (mkF Γ.m pc Ls (.int y :: .int x :: st)) := by
  subst hp'
  obtain ⟨hx, hZ, hown, hby, hml, hret, hnm, hlk, hR, hsH⟩ := G
  obtain ⟨L, X, e, N⟩ := X
  cases q : if_icmp.holds .le x y
  · exact Go.of (fun t k => XS.icmpNo X.here hx rfl (hb hby hd) rfl q k) (K' ((hold_le x y).2 q))
  · exact Go.of (fun t k => XS.icmpYes X.here hx rfl (pc0 := pc) rfl (hb hby hd) rfl q ho hp k) (K ((hold_le x y).1 q))
theorem k_if_le {o : Int} {x : Int32} {pc'' : Nat} (G : Ctx Γ Z own bytes maxl ret nm rm hs0) (X : W Γ n0 T h C S) (hd : decode bytes pc = .ok (.ifCond .le o, 3)) (hp : ((pc : Int) + o).toNat = pc') (ho : 0 ≤ (pc : Int) + o) (hp' : pc + 3 = pc'') (K : x.toInt ≤ 0 → Go Γ n0 Q T (mkF Γ.m pc' Ls st)) (K' : 0 < x.toInt → Go Γ n0 Q T (mkF Γ.m pc'' Ls st)) : Go Γ n0 Q T (mkF Γ.m pc Ls (.int x :: st)) := by
  subst hp'
  obtain ⟨hx, hZ, hown, hby, hml, hret, hnm, hlk, hR, hsH⟩ := G
  obtain ⟨L, X, e, N⟩ := X
  cases q : ifCond.holds .le x
  · exact Go.of (fun t k => XS.ifNo X.here hx rfl (hb hby hd) rfl q k) (K' ((hold0_le x).2 q))
  · exact Go.of (fun t k => XS.ifYes X.here hx rfl (pc0 := pc) rfl (hb hby hd) rfl q ho hp k) (K ((hold0_le x).1 q))
theorem k_acmp_eq {o : Int} {x y : Value} {pc'' : Nat} (G : Ctx Γ Z own bytes maxl ret nm rm hs0) (X : W Γ n0 T h C S) (hd : decode bytes pc = .ok (.if_acmp .eq o, 3)) (hp : ((pc : Int) + o).toNat = pc') (ho : 0 ≤ (pc : Int) + o) (hp' : pc + 3 = pc'') (h1 : x.isRef = true) (h2 : y.isRef = true) (K : x = y → Go Γ n0 Q T (mkF Γ.m pc' Ls st)) (K' : x ≠ y → Go Γ n0 Q T (mkF Γ.m pc'' Ls st)) : Go Γ n0 Q T (mkF Γ.m pc Ls (y :: x :: st)) := by
  subst hp hp'
  obtain ⟨hx, hZ, hown, hby, hml, hret, hnm, hlk, hR, hsH⟩ := G
  obtain ⟨L, X, e, N⟩ := X
  by_cases q : x = y
  · exact Go.of (fun t k => acmp (g := mkF Γ.m pc Ls (y :: x :: st)) X hx rfl h1 h2 (pc0 := pc) (same := true) rfl (hb hby hd) rfl (decide_eq_true q) ho rfl k) (K q)
  · exact Go.of (fun t k => acmp (g := mkF Γ.m pc Ls (y :: x :: st)) X hx rfl h1 h2 (pc0 := pc) (same := false) rfl (hb hby hd) rfl (decide_eq_false q) ho rfl k) (K' q)
theorem k_acmp_ne {o : Int} {x y : Value} {pc'' : Nat} (G : Ctx Γ Z own bytes maxl ret nm rm hs0) (X : W Γ n0 T h C S) (hd : decode bytes pc = .ok (.if_acmp .ne o, 3)) (hp : ((pc : Int) + o).toNat = pc') (ho : 0 ≤ (pc : Int) + o) (hp' : pc + 3 = pc'') (h1 : x.isRef = true) (h2 : y.isRef = true) (K : x ≠ y → Go Γ n0 Q T (mkF Γ.m pc' Ls st)) (K' : x = y → Go Γ n0 Q T (mkF Γ.m pc'' Ls st)) : Go Γ n0 Q T (mkF Γ.m pc Ls (y :: x :: st)) := by
  subst hp hp'
  obtain ⟨hx, hZ, hown, hby, hml, hret, hnm, hlk, hR, hsH⟩ := G
  obtain ⟨L, X, e, N⟩ := X
  by_cases q : x = y
  · exact Go.of (fun t k => acmp (g := mkF Γ.m pc Ls (y :: x :: st)) X hx rfl h1 h2 (pc0 := pc) (same := true) rfl (hb hby hd) rfl (decide_eq_true q) ho rfl k) (K' q)
  · exact Go.of (fun t k => acmp (g := mkF Γ.m pc Ls (y :: x :: st)) X hx rfl h1 h2 (pc0 := pc) (same := false) rfl (hb hby hd) rfl (decide_eq_false q) ho rfl k) (K q)
theorem k_ifnull {o : Int} {x : Value} {pc'' : Nat} (G : Ctx Γ Z own bytes maxl ret nm rm hs0) (X : W Γ n0 T h C S) (hd : decode bytes pc = .ok (.ifnull o, 3)) (hp : ((pc : Int) + o).toNat = pc') (ho : 0 ≤ (pc : Int) + o) (hp' : pc + 3 = pc'') (h1 : x.isRef = true) (K : x = .null → Go Γ n0 Q T (mkF Γ.m pc' Ls st)) (K' : ∀ a, x = .ref a → Go Γ n0 Q T (mkF Γ.m pc'' Ls st)) : Go Γ n0 Q T (mkF Γ.m pc Ls (x :: st)) := by
  subst hp'
  obtain ⟨hx, hZ, hown, hby, hml, hret, hnm, hlk, hR, hsH⟩ := G
  obtain ⟨L, X, e, N⟩ := X
  rcases ref_cases h1 with rfl | ⟨a, rfl⟩
  · exact Go.of (fun t k => XS.ifnullYes X.here hx rfl (pc0 := pc) rfl (hb hby hd) rfl ho hp k) (K rfl)
  · exact Go.of (fun t k => XS.ifnullNo X.here hx rfl (hb hby hd) rfl k) (K' a rfl)
theorem k_ifnonnull {o : Int} {x : Value} {pc'' : Nat} (G : Ctx Γ Z own bytes maxl ret nm rm hs0) (X : W Γ n0 T h C S) (hd : decode bytes pc = .ok (.ifnonnull o, 3)) (hp : ((pc : Int) + o).toNat = pc') (ho : 0 ≤ (pc : Int) + o) (hp' : pc + 3 = pc'') (h1 : x.isRef = true) (K : ∀ a, x = .ref a → Go Γ n0 Q T (mkF Γ.m pc' Ls st)) (K' : x = .null → Go Γ n0 Q T (mkF Γ.m pc'' Ls st)) : Go Γ n0 Q T (mkF Γ.m pc Ls (x :: st)) := by
  subst hp'
  obtain ⟨hx, hZ, hown, hby, hml, hret, hnm, hlk, hR, hsH⟩ := G
  obtain ⟨L, X, e, N⟩ := X
  rcases ref_cases h1 with rfl | ⟨a, rfl⟩
  · exact Go.of (fun t k => XS.ifnonnullNo X.here hx rfl (hb hby hd) rfl k) (K' rfl)
  · exact Go.of (fun t k => XS.ifnonnullYes X.here hx rfl (pc0 := pc) rfl (hb hby hd) rfl ho hp k) (K a rfl)
theorem k_lswHit {k : Int32} {dflt : Int} {pairs : Array (Int × Int)} {len : Nat} {a off : Int} (G : Ctx Γ Z own bytes maxl ret nm rm hs0) (X : W Γ n0 T h C S) (hd : decode bytes pc = .ok (.lookupswitch dflt pairs, len)) (hs : (pairs.toList.zip (pairs.toList.drop 1)).all (fun (a, next) => a.1 < next.1) = true) (hf : pairs.find? (·.1 == k.toInt) = some (a, off)) (ho : 0 ≤ (pc : Int) + off) (hp : ((pc : Int) + off).toNat = pc') (K : Go Γ n0 Q T (mkF Γ.m pc' Ls st)) : Go Γ n0 Q T (mkF Γ.m pc Ls (.int k :: st)) := by
  subst hp
  obtain ⟨hx, hZ, hown, hby, hml, hret, hnm, hlk, hR, hsH⟩ := G
  obtain ⟨L, X, e, N⟩ := X
  exact Go.of (fun t k' => X.lookupswitchHit hx (g := mkF Γ.m pc Ls (.int k :: st)) rfl rfl (hb hby hd) hs hf ho t k') K
theorem k_lswMiss {k : Int32} {dflt : Int} {pairs : Array (Int × Int)} {len : Nat} (G : Ctx Γ Z own bytes maxl ret nm rm hs0) (X : W Γ n0 T h C S) (hd : decode bytes pc = .ok (.lookupswitch dflt pairs, len)) (hs : (pairs.toList.zip (pairs.toList.drop 1)).all (fun (a, next) => a.1 < next.1) = true) (hf : pairs.find? (·.1 == k.toInt) = none) (ho : 0 ≤ (pc : Int) + dflt) (hp : ((pc : Int) + dflt).toNat = pc') (K : Go Γ n0 Q T (mkF Γ.m pc' Ls st)) : Go Γ n0 Q T (mkF Γ.m pc Ls (.int k :: st)) := by
  subst hp
  obtain ⟨hx, hZ, hown, hby, hml, hret, hnm, hlk, hR, hsH⟩ := G
  obtain ⟨L, X, e, N⟩ := X
  exact Go.of (fun t k' => X.lookupswitchMiss hx (g := mkF Γ.m pc Ls (.int k :: st)) rfl rfl (hb hby hd) hs hf ho t k') K
theorem k_tswIn {k : Int32} {dflt low high : Int} {offs : Array Int} {len : Nat} {off : Int} (G : Ctx Γ Z own bytes maxl ret nm rm hs0) (X : W Γ n0 T h C S) (hd : decode bytes pc = .ok (.tableswitch dflt low high offs, len)) (hin : low ≤ k.toInt ∧ k.toInt ≤ high) (hf : offs[(k.toInt - low).toNat]? = some off) (ho : 0 ≤ (pc : Int) + off) (hp : ((pc : Int) + off).toNat = pc') (K : Go Γ n0 Q T (mkF Γ.m pc' Ls st)) : Go Γ n0 Q T (mkF Γ.m pc Ls (.int k :: st)) := by
  subst hp
  obtain ⟨hx, hZ, hown, hby, hml, hret, hnm, hlk, hR, hsH⟩ := G
  obtain ⟨L, X, e, N⟩ := X
  exact Go.of (fun t k' => X.tableswitchIn hx (g := mkF Γ.m pc Ls (.int k :: st)) rfl rfl (hb hby hd) (by omega) hf ho t k') K
theorem k_tswOut {k : Int32} {dflt low high : Int} {offs : Array Int} {len : Nat} (G : Ctx Γ Z own bytes maxl ret nm rm hs0) (X : W Γ n0 T h C S) (hd : decode bytes pc = .ok (.tableswitch dflt low high offs, len)) (hout : k.toInt < low ∨ high < k.toInt) (ho : 0 ≤ (pc : Int) + dflt) (hp : ((pc : Int) + dflt).toNat = pc') (K : Go Γ n0 Q T (mkF Γ.m pc' Ls st)) : Go Γ n0 Q T (mkF Γ.m pc Ls (.int k :: st)) := by
  subst hp
  obtain ⟨hx, hZ, hown, hby, hml, hret, hnm, hlk, hR, hsH⟩ := G
  obtain ⟨L, X, e, N⟩ := X
  exact Go.of (fun t k' => X.tableswitchOut hx (g := mkF Γ.m pc Ls (.int k :: st)) rfl rfl (hb hby hd) hout ho t k') K
theorem k_ldcI {a0 : Array Value} {idx : Nat} {v : Int32} (G : Ctx Γ Z own bytes maxl ret nm rm hs0) (X : W Γ n0 T h C S) (w : (Cond.constant own idx v).before a0 Z = true) (hd : decode bytes pc = .ok (.ldc idx, 2)) (hp : pc + 2 = pc') (K : Go Γ n0 Q T (mkF Γ.m pc' Ls (.int v :: st))) : Go Γ n0 Q T (mkF Γ.m pc Ls st) := by
  subst hp
  obtain ⟨hx, hZ, hown, hby, hml, hret, hnm, hlk, hR, hsH⟩ := G
  obtain ⟨L, X, e, N⟩ := X
  exact Go.of (fun t k => X.ldcInt hx hown (mvT hZ w) (g := mkF Γ.m pc Ls st) rfl (hb hby hd) t k) K
theorem k_ldcwI {a0 : Array Value} {idx : Nat} {v : Int32} (G : Ctx Γ Z own bytes maxl ret nm rm hs0) (X : W Γ n0 T h C S) (w : (Cond.constant own idx v).before a0 Z = true) (hd : decode bytes pc = .ok (.ldc_w idx, 3)) (hp : pc + 3 = pc') (K : Go Γ n0 Q T (mkF Γ.m pc' Ls (.int v :: st))) : Go Γ n0 Q T (mkF Γ.m pc Ls st) := by
  subst hp
  obtain ⟨hx, hZ, hown, hby, hml, hret, hnm, hlk, hR, hsH⟩ := G
  obtain ⟨L, X, e, N⟩ := X
  exact Go.of (fun t k => X.ldcwInt hx hown (mvT hZ w) (g := mkF Γ.m pc Ls st) rfl (hb hby hd) t k) K
theorem k_ldcL {a0 : Array Value} {idx : Nat} {v : Int64} (G : Ctx Γ Z own bytes maxl ret nm rm hs0) (X : W Γ n0 T h C S) (w : (Cond.constantLong own idx v).before a0 Z = true) (hd : decode bytes pc = .ok (.ldc2_w idx, 3)) (hp : pc + 3 = pc') (K : Go Γ n0 Q T (mkF Γ.m pc' Ls (.long v :: st))) : Go Γ n0 Q T (mkF Γ.m pc Ls st) := by
  subst hp
  obtain ⟨hx, hZ, hown, hby, hml, hret, hnm, hlk, hR, hsH⟩ := G
  obtain ⟨L, X, e, N⟩ := X
  exact Go.of (fun t k => X.ldc2Long hx hown (mvT hZ w) (g := mkF Γ.m pc Ls st) rfl (hb hby hd) t k) K
theorem k_getS {a0 : Array Value} {idx : Nat} {R0 O n d host : String} {v : Value} (G : Ctx Γ Z own bytes maxl ret nm rm hs0) (X : W Γ n0 T h C S) (w : (Cond.fieldLink own idx R0 n d).before a0 Z = true ∨ (Cond.fieldLinkNest own idx R0 n d host).before a0 Z = true) (via : Via Z R0 O n d) (F : Sta Z h O n d v) (hd : decode bytes pc = .ok (.getstatic idx, 3)) (hp : pc + 3 = pc') (K : ∀ T, W Γ n0 T h C S → Go Γ n0 Q T (mkF Γ.m pc' Ls (v :: st))) : Go Γ n0 Q T (mkF Γ.m pc Ls st) := by
  subst hp
  obtain ⟨hx, hZ, hown, hby, hml, hret, hnm, hlk, hR, hsH⟩ := G
  obtain ⟨L, X, e, N⟩ := X
  obtain ⟨T', X', e', st'⟩ := getS2 X hx hZ hown w via e F (g := mkF Γ.m pc Ls st) rfl (hb hby hd)
  exact Go.of st' (K T' ⟨L, X', e', N⟩)
theorem k_getF {a0 : Array Value} {idx : Nat} {R0 O n d host : String} {v : Value} {a : Addr} (G : Ctx Γ Z own bytes maxl ret nm rm hs0) (X : W Γ n0 T h C S) (w : (Cond.fieldLink own idx R0 n d).before a0 Z = true ∨ (Cond.fieldLinkNest own idx R0 n d host).before a0 Z = true) (via : Via Z R0 O n d) (F : Fld Z h a O n d v) (hd : decode bytes pc = .ok (.getfield idx, 3)) (hp : pc + 3 = pc') (K : ∀ T, W Γ n0 T h C S → Go Γ n0 Q T (mkF Γ.m pc' Ls (v :: st))) : Go Γ n0 Q T (mkF Γ.m pc Ls (.ref a :: st)) := by
  subst hp
  obtain ⟨hx, hZ, hown, hby, hml, hret, hnm, hlk, hR, hsH⟩ := G
  obtain ⟨L, X, e, N⟩ := X
  obtain ⟨T', X', e', st'⟩ := getF X hx hZ hown w via e F (g := mkF Γ.m pc Ls (.ref a :: st)) rfl rfl (hb hby hd)
  exact Go.of st' (K T' ⟨L, X', e', N⟩)
theorem k_putF {a0 : Array Value} {idx kk : Nat} {R0 O n d host CC : String} {v old : Value} {ty : FieldType} {a : Addr} (G : Ctx Γ Z own bytes maxl ret nm rm hs0) (X : W Γ n0 T h C S) (w : (Cond.fieldLink own idx R0 n d).before a0 Z = true ∨ (Cond.fieldLinkNest own idx R0 n d host).before a0 Z = true) (via : Via Z R0 O n d) (F : Fld Z h a O n d old) (E : Exa Z h a CC) (lay : (Cond.lays CC O n d).before a0 Z = true ∨ ((Cond.laysFinal CC O n d).before a0 Z = true ∧ own = O ∧ nm = "<init>")) (wi : (Cond.instantiable CC kk).before a0 Z = true) (ht : parseFieldDescriptor d = some ty) (hn : narrow ty v = v) (hf : fits ty v = true) (ga : n0 ≤ a) (hd : decode bytes pc = .ok (.putfield idx, 3)) (hp : pc + 3 = pc') (K : ∀ T h', Wr h h' a (Jvm.RoadKit.slotOf Z O n d) v → W Γ n0 T h' C S → Go Γ n0 Q T (mkF Γ.m pc' Ls st)) : Go Γ n0 Q T (mkF Γ.m pc Ls (v :: .ref a :: st)) := by
  subst hp
  obtain ⟨hx, hZ, hown, hby, hml, hret, hnm, hlk, hR, hsH⟩ := G
  obtain ⟨L, X, e, N⟩ := X
  obtain ⟨T', h', X', e', W', st'⟩ := putF X hx hZ hown w via e F E (by rw [hnm]; exact lay) wi ht hn hf (g := mkF Γ.m pc Ls (v :: .ref a :: st)) rfl rfl (hb hby hd)
  exact Go.of st' (K T' h' W' ⟨_, X', e', Fr.snoc X' N ga⟩)
theorem k_putFN {a0 : Array Value} {idx kk : Nat} {R0 O n d CC : String} {v v' old : Value} {ty : FieldType} {a : Addr} (G : Ctx Γ Z own bytes maxl ret nm rm hs0) (X : W Γ n0 T h C S) (w : (Cond.fieldLink own idx R0 n d).before a0 Z = true) (via : Via Z R0 O n d) (F : Fld Z h a O n d old) (E : Exa Z h a CC) (lay : (Cond.lays CC O n d).before a0 Z = true ∨ ((Cond.laysFinal CC O n d).before a0 Z = true ∧ own = O ∧ nm = "<init>")) (wi : (Cond.instantiable CC kk).before a0 Z = true) (ht : parseFieldDescriptor d = some ty) (hn : narrow ty v = v') (hf : fits ty v' = true) (ga : n0 ≤ a) (hd : decode bytes pc = .ok (.putfield idx, 3)) (hp : pc + 3 = pc') (K : ∀ T h', Wr h h' a (Jvm.RoadKit.slotOf Z O n d) v' → W Γ n0 T h' C S → Go Γ n0 Q T (mkF Γ.m pc' Ls st)) : Go Γ n0 Q T (mkF Γ.m pc Ls (v :: .ref a :: st)) := by
  subst hp
  obtain ⟨hx, hZ, hown, hby, hml, hret, hnm, hlk, hR, hsH⟩ := G
  obtain ⟨L, X, e, N⟩ := X
  obtain ⟨T', h', X', e', W', st'⟩ := putFN X hx hZ hown w via e F E (by rw [hnm]; exact lay) wi ht hn hf (g := mkF Γ.m pc Ls (v :: .ref a :: st)) rfl rfl (hb hby hd)
  exact Go.of st' (K T' h' W' ⟨_, X', e', Fr.snoc X' N ga⟩)
theorem k_new {a0 : Array Value} {idx k : Nat} {CC : String} (G : Ctx Γ Z own bytes maxl ret nm rm hs0) (X : W Γ n0 T h C S) (w : (Cond.classLink own idx CC).before a0 Z = true) (wi : (Cond.instantiable CC k).before a0 Z = true) (wz : (Cond.initialized CC).before a0 Z = true) (hd : decode bytes pc = .ok (.new idx, 3)) (hp : pc + 3 = pc') (hc : C + 1 ≤ rm.cells) (hs : S + k ≤ rm.slots)
    (K : ∀ T h' a, h.size = a → Ext h h' → Exa Z h' a CC → (∀ {O nm d : String} {ty : FieldType}, Laid Z a0 CC O nm d → parseFieldDescriptor d = some ty → Fld Z h' a O nm d (defaultValue ty)) → W Γ n0 T h' (C + 1) (S + k) → Go Γ n0 Q T (mkF Γ.m pc' Ls (.ref a :: st))) : Go Γ n0 Q T (mkF Γ.m pc Ls st) := by
  subst hp
  obtain ⟨hx, hZ, hown, hby, hml, hret, hnm, hlk, hR, hsH⟩ := G
  obtain ⟨L, X, e, N⟩ := X
  obtain ⟨T', h', X', e', E', A', D', -, st'⟩ := newO X hx hZ hown w wi wz e (g := mkF Γ.m pc Ls st) rfl (hb hby hd) (hR ▸ hc) (hR ▸ hs)
  exact Go.of st' (K T' h' _ rfl E' A' D' ⟨L, X', e', N⟩)
theorem k_initO {a0 : Array Value} {idx : Nat} {a : Addr} {wd : Nat} (G : Ctx Γ Z own bytes maxl ret nm rm hs0) (X : W Γ n0 T h C S) (w1 : (Cond.methodLink own idx Lib.objectInit).before a0 Z = true) (w2 : (Cond.instanceMethod Lib.objectInit).before a0 Z = true) (w3 : (Cond.code Lib.objectInit ⟨#[0xb1]⟩ 1 none).before a0 Z = true) (hd : decode bytes pc = .ok (.invokespecial idx, 3)) (hp : pc + 3 = pc') (hL : Ls.size = maxl) (hf : 1 ≤ rm.frames) (hwd : (st.map fun v => v.category).sum = wd) (hl : wd + 12 ≤ rm.locals) (K : ∀ T, W Γ n0 T h C S → Go Γ n0 Q T (mkF Γ.m pc' Ls st)) : Go Γ n0 Q T (mkF Γ.m pc Ls (.ref a :: st)) := by
  subst hp
  obtain ⟨hx, hZ, hown, hby, hml, hret, hnm, hlk, hR, hsH⟩ := G
  obtain ⟨L, X, e, N⟩ := X
  obtain ⟨T', X', e', st'⟩ := initO X hx hZ hown w1 w2 w3 e (g := mkF Γ.m pc Ls (.ref a :: st)) rfl (by rw [hml]; exact hL) rfl (hb hby hd) (hR ▸ hf) (W := wd) (by show 2 * 0 + _ ≤ _; omega) (hR ▸ hl)
  exact Go.of st' (K T' ⟨L, X', e', N⟩)
theorem k_castY {a0 : Array Value} {idx : Nat} {KK : String} {a : Addr} (G : Ctx Γ Z own bytes maxl ret nm rm hs0) (X : W Γ n0 T h C S) (w : (Cond.classLink own idx KK).before a0 Z = true) (F : Ins Z h a KK true) (hd : decode bytes pc = .ok (.checkcast idx, 3)) (hp : pc + 3 = pc') (K : ∀ T, W Γ n0 T h C S → Go Γ n0 Q T (mkF Γ.m pc' Ls (.ref a :: st))) : Go Γ n0 Q T (mkF Γ.m pc Ls (.ref a :: st)) := by
  subst hp
  obtain ⟨hx, hZ, hown, hby, hml, hret, hnm, hlk, hR, hsH⟩ := G
  obtain ⟨L, X, e, N⟩ := X
  obtain ⟨T', X', e', st'⟩ := castY X hx hZ hown w e F (g := mkF Γ.m pc Ls (.ref a :: st)) rfl rfl (hb hby hd)
  exact Go.of st' (K T' ⟨L, X', e', N⟩)
theorem k_instY {a0 : Array Value} {idx : Nat} {KK : String} {a : Addr} (G : Ctx Γ Z own bytes maxl ret nm rm hs0) (X : W Γ n0 T h C S) (w : (Cond.classLink own idx KK).before a0 Z = true) (F : Ins Z h a KK true) (hd : decode bytes pc = .ok (.instanceof idx, 3)) (hp : pc + 3 = pc') (K : ∀ T, W Γ n0 T h C S → Go Γ n0 Q T (mkF Γ.m pc' Ls (.int 1 :: st))) : Go Γ n0 Q T (mkF Γ.m pc Ls (.ref a :: st)) := by
  subst hp
  obtain ⟨hx, hZ, hown, hby, hml, hret, hnm, hlk, hR, hsH⟩ := G
  obtain ⟨L, X, e, N⟩ := X
  obtain ⟨T', X', e', st'⟩ := instY X hx hZ hown w e F (g := mkF Γ.m pc Ls (.ref a :: st)) rfl rfl (hb hby hd)
  exact Go.of st' (K T' ⟨L, X', e', N⟩)
theorem k_callS {a0 : Array Value} {idx : Nat} {y : MethodName} {by' : ByteArray} {maxL' : Nat} {ret' : Option FieldType} {rm' : Room} {ps : List FieldType} {rt : Option FieldType} {wd : Nat} {QY : Option Value → Heap → Prop} {argsL rest : List Value} (G : Ctx Γ Z own bytes maxl ret nm rm hs0) (X : W Γ n0 T h C S) (hst : st = argsL.reverse ++ rest) (w1 : (Cond.methodLink own idx y).before a0 Z = true) (w2 : (Cond.static y).before a0 Z = true) (wz : (Cond.initialized y.cls).before a0 Z = true) (wc : (Cond.code y by' maxL' ret').before a0 Z = true) (hy : y.cls ≠ "java/lang/invoke/MethodHandle" ∧ y.cls ≠ "java/lang/invoke/VarHandle") (M : Met Z y by' maxL' ret' rm' argsL.toArray h n0 QY) (hd : decode bytes pc = .ok (.invokestatic idx, 3)) (pd : parseMethodDescriptor y.desc = some ⟨ps, rt⟩) (hn : argsL.length = ps.length) (hp : pc + 3 = pc') (hL : Ls.size = maxl) (hwd : (rest.map fun v => v.category).sum = wd) (hf : rm'.frames + 1 ≤ rm.frames) (hlo : wd + (maxL' + 11) + rm'.locals ≤ rm.locals) (hc : C + rm'.cells ≤ rm.cells) (hs : S + rm'.slots ≤ rm.slots) (K : ∀ T h' v, W Γ n0 T h' (C + rm'.cells) (S + rm'.slots) → QY v h' → Go Γ n0 Q T (mkF Γ.m pc' Ls (v.toList ++ rest))) : Go Γ n0 Q T (mkF Γ.m pc Ls st) := by
  subst hp hst
  obtain ⟨hx, hZ, hown, hby, hml, hret, hnm, hlk, hR, hsH⟩ := G
  obtain ⟨L, X, e, N⟩ := X
  obtain ⟨v1, _, ⟨T1, L1, k1, n1⟩, -, X1, ⟨Lc1, q1, l1, y1, z1⟩, s1⟩ := Jvm.LawKit.callS X hx hown (mvT hZ w1) (mvT hZ w2) (mvT hZ wz) (mvT hZ wc) hy (backOf (W := wd) (Q := fun v h L => QY v h ∧ Fr n0 L) (M Γ.l) hZ wc wz (hR ▸ hf) (hR ▸ hlo)) (g := mkF Γ.m pc Ls (argsL.reverse ++ rest)) rfl (by rw [hml]; exact hL) (argsL := argsL) (rest := rest) (lenOf pd hn) rfl (by show 2 * 0 + _ ≤ _; omega) (hb hby hd) (fun _ _ => ⟨rfl, e, hR ▸ hc, hR ▸ hs⟩)
  dsimp only [Pt.U, Pt.locs, Pt.cells, Pt.slots] at X1 l1 y1 z1 s1 q1
  subst l1 y1 z1
  exact Go.of s1 (K T1 _ v1 ⟨_, X1, rfl, Fr.app N q1.2⟩ q1.1)
theorem k_callI {a0 : Array Value} {idx : Nat} {y : MethodName} {by' : ByteArray} {maxL' : Nat} {rm' : Room} {ps : List FieldType} {rt : Option FieldType} {wd : Nat} {QY : Option Value → Heap → Prop} {argsL rest : List Value} {a : Addr} (G : Ctx Γ Z own bytes maxl ret nm rm hs0) (X : W Γ n0 T h C S) (hst : st = argsL.reverse ++ .ref a :: rest) (hy1 : y.name = "<init>") (w1 : (Cond.methodLink own idx y).before a0 Z = true) (w2 : (Cond.instanceMethod y).before a0 Z = true) (wz : (Cond.initialized y.cls).before a0 Z = true) (wc : (Cond.code y by' maxL' none).before a0 Z = true) (hy : y.cls ≠ "java/lang/invoke/MethodHandle" ∧ y.cls ≠ "java/lang/invoke/VarHandle") (M : Met Z y by' maxL' none rm' (.ref a :: argsL).toArray h n0 QY) (hd : decode bytes pc = .ok (.invokespecial idx, 3)) (pd : parseMethodDescriptor y.desc = some ⟨ps, rt⟩) (hn : argsL.length = ps.length) (hp : pc + 3 = pc') (hL : Ls.size = maxl) (hwd : (rest.map fun v => v.category).sum = wd) (hf : rm'.frames + 1 ≤ rm.frames) (hlo : wd + (maxL' + 11) + rm'.locals ≤ rm.locals) (hc : C + rm'.cells ≤ rm.cells) (hs : S + rm'.slots ≤ rm.slots) (K : ∀ T h' v, W Γ n0 T h' (C + rm'.cells) (S + rm'.slots) → QY v h' → Go Γ n0 Q T (mkF Γ.m pc' Ls (v.toList ++ rest))) : Go Γ n0 Q T (mkF Γ.m pc Ls st) := by
  subst hp hst
  obtain ⟨hx, hZ, hown, hby, hml, hret, hnm, hlk, hR, hsH⟩ := G
  obtain ⟨L, X, e, N⟩ := X
  obtain ⟨v1, _, ⟨T1, L1, k1, n1⟩, -, X1, ⟨Lc1, q1, l1, y1, z1⟩, s1⟩ := X.specialBack hx hy1 hown (mvT hZ w1) (mvT hZ w2) (mvT hZ wc) hy (backOf (W := wd) (Q := fun v h L => QY v h ∧ Fr n0 L) (M Γ.l) hZ wc wz (hR ▸ hf) (hR ▸ hlo)) (g := mkF Γ.m pc Ls (argsL.reverse ++ .ref a :: rest)) rfl (by rw [hml]; exact hL) (Steps.refl _) (a := a) (argsL := argsL) (rest := rest) (lenOf pd hn) rfl (by show 2 * 0 + _ ≤ _; omega) (hb hby hd) (fun _ _ => ⟨rfl, e, hR ▸ hc, hR ▸ hs⟩)
  dsimp only [Pt.U, Pt.locs, Pt.cells, Pt.slots] at X1 l1 y1 z1 s1 q1
  subst l1 y1 z1
  exact Go.of (fun t k => s1.trans k) (K T1 _ v1 ⟨_, X1, rfl, Fr.app N q1.2⟩ q1.1)
theorem k_callV {a0 : Array Value} {idx : Nat} {y : MethodName} {by' : ByteArray} {maxL' : Nat} {ret' : Option FieldType} {rm' : Room} {ps : List FieldType} {rt : Option FieldType} {wd : Nat} {QY : Option Value → Heap → Prop} {argsL rest : List Value} {a : Addr} {CC : String} {z : MethodName} (G : Ctx Γ Z own bytes maxl ret nm rm hs0) (X : W Γ n0 T h C S) (hst : st = argsL.reverse ++ .ref a :: rest) (E : Exa Z h a CC) (w1 : (Cond.methodLink own idx y).before a0 Z = true) (w2 : (Cond.declares y).before a0 Z = true) (nf : ∀ s : State, Z.Warmed39 s.vm → NotFace s y) (w3 : (Cond.selects CC y z).before a0 Z = true) (w4 : (Cond.instanceMethod z).before a0 Z = true) (wz : (Cond.initialized z.cls).before a0 Z = true) (wc : (Cond.code z by' maxL' ret').before a0 Z = true) (hy : y.cls ≠ "java/lang/invoke/MethodHandle" ∧ y.cls ≠ "java/lang/invoke/VarHandle") (M : Met Z z by' maxL' ret' rm' (.ref a :: argsL).toArray h n0 QY) (hd : decode bytes pc = .ok (.invokevirtual idx, 3)) (pd : parseMethodDescriptor y.desc = some ⟨ps, rt⟩) (hn : argsL.length = ps.length) (hp : pc + 3 = pc') (hL : Ls.size = maxl) (hwd : (rest.map fun v => v.category).sum = wd) (hf : rm'.frames + 1 ≤ rm.frames) (hlo : wd + (maxL' + 11) + rm'.locals ≤ rm.locals) (hc : C + rm'.cells ≤ rm.cells) (hs : S + rm'.slots ≤ rm.slots) (K : ∀ T h' v, W Γ n0 T h' (C + rm'.cells) (S + rm'.slots) → QY v h' → Go Γ n0 Q T (mkF Γ.m pc' Ls (v.toList ++ rest))) : Go Γ n0 Q T (mkF Γ.m pc Ls st) := by
  subst hp hst
  obtain ⟨hx, hZ, hown, hby, hml, hret, hnm, hlk, hR, hsH⟩ := G
  obtain ⟨L, X, e, N⟩ := X
  obtain ⟨cq, kq, qa, qb, qc⟩ := isOf hZ e E
  obtain ⟨v1, _, ⟨T1, L1, k1, n1⟩, -, X1, ⟨Lc1, q1, l1, y1, z1⟩, s1⟩ := X.virtualBack hx hown (mvT hZ w1) (mvT hZ w2) (nf _ hZ) (mvT hZ w3) (mvT hZ w4) hy (backOf (W := wd) (Q := fun v h L => QY v h ∧ Fr n0 L) (M Γ.l) hZ wc wz (hR ▸ hf) (hR ▸ hlo)) qa qc (g := mkF Γ.m pc Ls (argsL.reverse ++ .ref a :: rest)) rfl (by rw [hml]; exact hL) (Steps.refl _) (argsL := argsL) (rest := rest) (lenOf pd hn) rfl (by show 2 * 0 + _ ≤ _; omega) (hb hby hd) (fun _ _ => ⟨rfl, e, hR ▸ hc, hR ▸ hs⟩)
  dsimp only [Pt.U, Pt.locs, Pt.cells, Pt.slots] at X1 l1 y1 z1 s1 q1
  subst l1 y1 z1
  exact Go.of (fun t k => s1.trans k) (K T1 _ v1 ⟨_, X1, rfl, Fr.app N q1.2⟩ q1.1)
theorem nf_sel {a0 : Array Value} {CC : String} {y : MethodName} (w3 : (Cond.selects CC y y).before a0 Z = true) : ∀ s : State, Z.Warmed39 s.vm → NotFace s y := fun s hZ => notFace_of_selects (args := #[]) (mvT hZ w3)
theorem k_callVU {a0 : Array Value} {idx : Nat} {y : MethodName} {by' : ByteArray} {maxL' : Nat} {ret' : Option FieldType} {rm' : Room} {ps : List FieldType} {rt : Option FieldType} {wd : Nat} {QY : Option Value → Heap → Prop} {argsL rest : List Value} {a : Addr} {CC owner : String} {z : MethodName} (G : Ctx Γ Z own bytes maxl ret nm rm hs0) (X : W Γ n0 T h C S) (hst : st = argsL.reverse ++ .ref a :: rest) (E : Exa Z h a CC) (w1 : (Cond.methodLink own idx y).before a0 Z = true) (ws : (Cond.sameMethod y.cls owner y.name y.desc).before a0 Z = true) (w2 : (Cond.declares ⟨owner, y.name, y.desc⟩).before a0 Z = true) (w3 : (Cond.selects CC y z).before a0 Z = true) (w4 : (Cond.instanceMethod z).before a0 Z = true) (wz : (Cond.initialized z.cls).before a0 Z = true) (wc : (Cond.code z by' maxL' ret').before a0 Z = true) (hy : owner ≠ "java/lang/invoke/MethodHandle" ∧ owner ≠ "java/lang/invoke/VarHandle") (M : Met Z z by' maxL' ret' rm' (.ref a :: argsL).toArray h n0 QY) (hd : decode bytes pc = .ok (.invokevirtual idx, 3)) (pd : parseMethodDescriptor y.desc = some ⟨ps, rt⟩) (hn : argsL.length = ps.length) (hp : pc + 3 = pc') (hL : Ls.size = maxl) (hwd : (rest.map fun v => v.category).sum = wd) (hf : rm'.frames + 1 ≤ rm.frames) (hlo : wd + (maxL' + 11) + rm'.locals ≤ rm.locals) (hc : C + rm'.cells ≤ rm.cells) (hs : S + rm'.slots ≤ rm.slots) (K : ∀ T h' v, W Γ n0 T h' (C + rm'.cells) (S + rm'.slots) → QY v h' → Go Γ n0 Q T (mkF Γ.m pc' Ls (v.toList ++ rest))) : Go Γ n0 Q T (mkF Γ.m pc Ls st) := by
  subst hp hst
  obtain ⟨hx, hZ, hown, hby, hml, hret, hnm, hlk, hR, hsH⟩ := G
  obtain ⟨L, X, e, N⟩ := X
  obtain ⟨cq, kq, qa, qb, qc⟩ := isOf hZ e E
  obtain ⟨v1, _, ⟨T1, L1, k1, n1⟩, -, X1, ⟨Lc1, q1, l1, y1, z1⟩, s1⟩ := X.virtualBackUp hx hown (mvT hZ w1) (mvT hZ ws) (mvT hZ w2) hy (mvT hZ w3) (mvT hZ w4) (backOf (W := wd) (Q := fun v h L => QY v h ∧ Fr n0 L) (M Γ.l) hZ wc wz (hR ▸ hf) (hR ▸ hlo)) qa qc (g := mkF Γ.m pc Ls (argsL.reverse ++ .ref a :: rest)) rfl (by rw [hml]; exact hL) (Steps.refl _) (argsL := argsL) (rest := rest) (lenOf pd hn) rfl (by show 2 * 0 + _ ≤ _; omega) (hb hby hd) (fun _ _ => ⟨rfl, e, hR ▸ hc, hR ▸ hs⟩)
  dsimp only [Pt.U, Pt.locs, Pt.cells, Pt.slots] at X1 l1 y1 z1 s1 q1
  subst l1 y1 z1
  exact Go.of (fun t k => s1.trans k) (K T1 _ v1 ⟨_, X1, rfl, Fr.app N q1.2⟩ q1.1)
theorem k_callF {a0 : Array Value} {idx : Nat} {y : MethodName} {by' : ByteArray} {maxL' : Nat} {ret' : Option FieldType} {rm' : Room} {ps : List FieldType} {rt : Option FieldType} {wd : Nat} {QY : Option Value → Heap → Prop} {argsL rest : List Value} {a : Addr} {CC : String} {z : MethodName} {cnt : Nat} (G : Ctx Γ Z own bytes maxl ret nm rm hs0) (X : W Γ n0 T h C S) (hst : st = argsL.reverse ++ .ref a :: rest) (E : Exa Z h a CC) (w1 : (Cond.methodLink own idx y).before a0 Z = true) (w2 : (Cond.declares y).before a0 Z = true) (wf : (Cond.interfaceMethod y.cls y.cls y.name y.desc).before a0 Z = true) (hwf : ((Cond.interfaceMethod y.cls y.cls y.name y.desc).onTables && (Cond.interfaceMethod y.cls y.cls y.name y.desc).keepsFace) = true) (w3 : (Cond.selects CC y z).before a0 Z = true) (w4 : (Cond.instanceMethod z).before a0 Z = true) (wp : (Cond.publicMethod z).before a0 Z = true) (wu : (Cond.unhidden CC y.name y.desc).before a0 Z = true) (wk : (Cond.castable CC y.cls).before a0 Z = true) (wz : (Cond.initialized z.cls).before a0 Z = true) (wc : (Cond.code z by' maxL' ret').before a0 Z = true) (hy : y.cls ≠ "java/lang/invoke/MethodHandle" ∧ y.cls ≠ "java/lang/invoke/VarHandle") (M : Met Z z by' maxL' ret' rm' (.ref a :: argsL).toArray h n0 QY) (hd : decode bytes pc = .ok (.invokeinterface idx cnt, 5)) (pd : parseMethodDescriptor y.desc = some ⟨ps, rt⟩) (hn : argsL.length = ps.length) (hp : pc + 5 = pc') (hL : Ls.size = maxl) (hwd : (rest.map fun v => v.category).sum = wd) (hf : rm'.frames + 1 ≤ rm.frames) (hlo : wd + (maxL' + 11) + rm'.locals ≤ rm.locals) (hc : C + rm'.cells ≤ rm.cells) (hs : S + rm'.slots ≤ rm.slots) (K : ∀ T h' v, W Γ n0 T h' (C + rm'.cells) (S + rm'.slots) → QY v h' → Go Γ n0 Q T (mkF Γ.m pc' Ls (v.toList ++ rest))) : Go Γ n0 Q T (mkF Γ.m pc Ls st) := by
  subst hp hst
  obtain ⟨hx, hZ, hown, hby, hml, hret, hnm, hlk, hR, hsH⟩ := G
  obtain ⟨L, X, e, N⟩ := X
  obtain ⟨cq, kq, qa, qb, qc⟩ := isOf hZ e E
  obtain ⟨v1, _, ⟨T1, L1, k1, n1⟩, -, X1, ⟨Lc1, q1, l1, y1, z1⟩, s1⟩ := X.interfaceBack hx hown (mvT hZ w1) (mvT hZ w2) (mvT hZ wf hwf) (mvT hZ w3) (mvT hZ w4) (mvT hZ wp) (mvT hZ wu) (mvT hZ wk) hy (backOf (W := wd) (Q := fun v h L => QY v h ∧ Fr n0 L) (M Γ.l) hZ wc wz (hR ▸ hf) (hR ▸ hlo)) qa qb qc (g := mkF Γ.m pc Ls (argsL.reverse ++ .ref a :: rest)) rfl (by rw [hml]; exact hL) (Steps.refl _) (argsL := argsL) (rest := rest) (lenOf pd hn) rfl (by show 2 * 0 + _ ≤ _; omega) (hb hby hd) (fun _ _ => ⟨rfl, e, hR ▸ hc, hR ▸ hs⟩)
  dsimp only [Pt.U, Pt.locs, Pt.cells, Pt.slots] at X1 l1 y1 z1 s1 q1
  subst l1 y1 z1
  exact Go.of (fun t k => s1.trans k) (K T1 _ v1 ⟨_, X1, rfl, Fr.app N q1.2⟩ q1.1)
theorem k_callP {a0 : Array Value} {idx : Nat} {y : MethodName} {by' : ByteArray} {maxL' : Nat} {ret' : Option FieldType} {rm' : Room} {ps : List FieldType} {rt : Option FieldType} {wd : Nat} {QY : Option Value → Heap → Prop} {argsL rest : List Value} {a : Addr} {CC : String} (G : Ctx Γ Z own bytes maxl ret nm rm hs0) (X : W Γ n0 T h C S) (hst : st = argsL.reverse ++ .ref a :: rest) (E : Exa Z h a CC) (w1 : (Cond.methodLink own idx y).before a0 Z = true) (w2 : (Cond.instanceMethod y).before a0 Z = true) (w3 : (Cond.selects y.cls y y).before a0 Z = true) (wp : (Cond.privateMethod y).before a0 Z = true) (wz : (Cond.initialized y.cls).before a0 Z = true) (wc : (Cond.code y by' maxL' ret').before a0 Z = true) (hy : y.cls ≠ "java/lang/invoke/MethodHandle" ∧ y.cls ≠ "java/lang/invoke/VarHandle") (M : Met Z y by' maxL' ret' rm' (.ref a :: argsL).toArray h n0 QY) (hd : decode bytes pc = .ok (.invokevirtual idx, 3)) (pd : parseMethodDescriptor y.desc = some ⟨ps, rt⟩) (hn : argsL.length = ps.length) (hp : pc + 3 = pc') (hL : Ls.size = maxl) (hwd : (rest.map fun v => v.category).sum = wd) (hf : rm'.frames + 1 ≤ rm.frames) (hlo : wd + (maxL' + 11) + rm'.locals ≤ rm.locals) (hc : C + rm'.cells ≤ rm.cells) (hs : S + rm'.slots ≤ rm.slots) (K : ∀ T h' v, W Γ n0 T h' (C + rm'.cells) (S + rm'.slots) → QY v h' → Go Γ n0 Q T (mkF Γ.m pc' Ls (v.toList ++ rest))) : Go Γ n0 Q T (mkF Γ.m pc Ls st) := by
  subst hp hst
  obtain ⟨hx, hZ, hown, hby, hml, hret, hnm, hlk, hR, hsH⟩ := G
  obtain ⟨L, X, e, N⟩ := X
  obtain ⟨cq, qa, qb⟩ := E.cell
  obtain ⟨v1, _, ⟨T1, L1, k1, n1⟩, -, X1, ⟨Lc1, q1, l1, y1, z1⟩, s1⟩ := X.privateBack hx hown (mvT hZ w1) (mvT hZ w2) (mvT hZ w3) (Cond.privateMethod_at (mvP hZ wp (args := #[]))) (mvT hZ wc) hy (backOf (W := wd) (Q := fun v h L => QY v h ∧ Fr n0 L) (M Γ.l) hZ wc wz (hR ▸ hf) (hR ▸ hlo)) (g := mkF Γ.m pc Ls (argsL.reverse ++ .ref a :: rest)) rfl (by rw [hml]; exact hL) (Steps.refl _) (a := a) (by rw [e]; exact qa) qb (argsL := argsL) (rest := rest) (lenOf pd hn) rfl (by show 2 * 0 + _ ≤ _; omega) (hb hby hd) (fun _ _ => ⟨rfl, e, hR ▸ hc, hR ▸ hs⟩)
  dsimp only [Pt.U, Pt.locs, Pt.cells, Pt.slots] at X1 l1 y1 z1 s1 q1
  subst l1 y1 z1
  exact Go.of (fun t k => s1.trans k) (K T1 _ v1 ⟨_, X1, rfl, Fr.app N q1.2⟩ q1.1)
theorem k_callU {a0 : Array Value} {idx : Nat} {y : MethodName} {by' : ByteArray} {maxL' : Nat} {ret' : Option FieldType} {rm' : Room} {ps : List FieldType} {rt : Option FieldType} {wd : Nat} {QY : Option Value → Heap → Prop} {argsL rest : List Value} {a : Addr} {KS : String} (G : Ctx Γ Z own bytes maxl ret nm rm hs0) (X : W Γ n0 T h C S) (hst : st = argsL.reverse ++ .ref a :: rest) (I : Ins Z h a KS true) (w1 : (Cond.methodLink own idx y).before a0 Z = true) (w2 : (Cond.sameMethod y.cls y.cls y.name y.desc).before a0 Z = true) (w3 : (Cond.instanceMethod y).before a0 Z = true) (w4 : (Cond.superclass own y.cls).before a0 Z = true) (hni : y.name ≠ "<init>") (wz : (Cond.initialized y.cls).before a0 Z = true) (wc : (Cond.code y by' maxL' ret').before a0 Z = true) (M : Met Z y by' maxL' ret' rm' (.ref a :: argsL).toArray h n0 QY) (hd : decode bytes pc = .ok (.invokespecial idx, 3)) (pd : parseMethodDescriptor y.desc = some ⟨ps, rt⟩) (hn : argsL.length = ps.length) (hp : pc + 3 = pc') (hL : Ls.size = maxl) (hwd : (rest.map fun v => v.category).sum = wd) (hf : rm'.frames + 1 ≤ rm.frames) (hlo : wd + (maxL' + 11) + rm'.locals ≤ rm.locals) (hc : C + rm'.cells ≤ rm.cells) (hs : S + rm'.slots ≤ rm.slots) (K : ∀ T h' v, W Γ n0 T h' (C + rm'.cells) (S + rm'.slots) → QY v h' → Go Γ n0 Q T (mkF Γ.m pc' Ls (v.toList ++ rest))) : Go Γ n0 Q T (mkF Γ.m pc Ls st) := by
  subst hp hst
  obtain ⟨hx, hZ, hown, hby, hml, hret, hnm, hlk, hR, hsH⟩ := G
  obtain ⟨L, X, e, N⟩ := X
  obtain ⟨v1, _, ⟨T1, L1, k1, n1⟩, -, X1, ⟨Lc1, q1, l1, y1, z1⟩, s1⟩ := superBack X hx hZ hown w1 w2 w3 w4 hni (backOf (W := wd) (Q := fun v h L => QY v h ∧ Fr n0 L) (M Γ.l) hZ wc wz (hR ▸ hf) (hR ▸ hlo)) e I (g := mkF Γ.m pc Ls (argsL.reverse ++ .ref a :: rest)) rfl (by rw [hml]; exact hL) wc (argsL := argsL) (rest := rest) (lenOf pd hn) rfl (by show 2 * 0 + _ ≤ _; omega) (hb hby hd) (fun _ _ => ⟨rfl, e, hR ▸ hc, hR ▸ hs⟩)
  dsimp only [Pt.U, Pt.locs, Pt.cells, Pt.slots] at X1 l1 y1 z1 s1 q1
  subst l1 y1 z1
  exact Go.of (fun t k => s1.trans k) (K T1 _ v1 ⟨_, X1, rfl, Fr.app N q1.2⟩ q1.1)
/-! ### arrays: the components by a function of their place -/
def Arf (Z : State) (h : Heap) (a : Addr) (k : ClassId) (ty : FieldType) (n : Nat) (f : Nat → Value) : Prop := ∃ c : Cell, Arr Z h a c ty ∧ c.cls = k ∧ c.slots.size = n ∧ n < 2147483648 ∧ ∀ i, i < n → c.slots[i]? = some (f i) ∧ fits ty (f i) = true
section A
variable {h' : Heap} {a b : Addr} {k : ClassId} {ty : FieldType} {n : Nat} {f g : Nat → Value} {v : Value} {sl : Nat} {ws : List Addr}
theorem Arf.lt (F : Arf Z h a k ty n f) : a < h.size := by obtain ⟨c, A, -⟩ := F; exact A.lt
theorem Arf.ext (F : Arf Z h a k ty n f) (E : Ext h h') : Arf Z h' a k ty n f := by obtain ⟨c, A, r⟩ := F; exact ⟨c, A.ext E, r⟩
theorem Arf.other (F : Arf Z h b k ty n f) (W : Wr h h' a sl v) (q : b ≠ a) : Arf Z h' b k ty n f := by obtain ⟨c, A, r⟩ := F; exact ⟨c, A.other W q, r⟩
theorem Arf.keep (F : Arf Z h a k ty n f) (K : Keep h h' ws) (q : a ∉ ws) : Arf Z h' a k ty n f := by obtain ⟨c, A, r⟩ := F; exact ⟨c, ⟨K.2.1 a c A.1 q, A.2⟩, r⟩
theorem Arf.congr (F : Arf Z h a k ty n f) (q : ∀ i, i < n → f i = g i) : Arf Z h a k ty n g := by
  obtain ⟨c, A, r1, r2, r3, H⟩ := F
  exact ⟨c, A, r1, r2, r3, fun i hi => by rw [← q i hi]; exact H i hi⟩
theorem Arf.size_lt (F : Arf Z h a k ty n f) : n < 2147483648 := by obtain ⟨c, A, r1, r2, r3, H⟩ := F; exact r3
theorem Arf.fits (F : Arf Z h a k ty n f) {i : Nat} (hi : i < n) : fits ty (f i) = true := by obtain ⟨c, A, r1, r2, r3, H⟩ := F; exact (H i hi).2
theorem idx_of {j : Int32} {i : Nat} (hj : j.toInt = i) : ¬ j < 0 ∧ j.toNatClampNeg = i := by
  rw [Int32.lt_iff_toInt_lt, show (0 : Int32).toInt = 0 from rfl, hj]
  exact ⟨by omega, by simp only [Int32.toNatClampNeg, hj]; omega⟩
theorem Arf.set (F : Arf Z h a k ty n f) {i : Nat} (W : Wr h h' a i v) (hi : i < n) (hv : Jvm.fits ty v = true) : Arf Z h' a k ty n (fun x => if x = i then v else f x) := by
  obtain ⟨c, A, r1, r2, r3, H⟩ := F
  refine ⟨_, A.same W, r1, by rw [sz_set]; exact r2, r3, fun x hx => ?_⟩
  by_cases q : x = i
  · subst q
    refine ⟨?_, by simpa using hv⟩
    simp [Cell.setSlot, r2, hx]
  · refine ⟨?_, by simpa [q] using (H x hx).2⟩
    simp only [Cell.setSlot, if_neg q]
    rw [Array.getElem?_setIfInBounds_ne (fun e => q e.symm)]; exact (H x hx).1
theorem Arf.new {z : Int32} (A : Arr Z h a (newA k ty z) ty) (hz : z.toInt = n) : Arf Z h a k ty n (fun _ => defaultValue ty) := by
  have q := idx_of hz
  refine ⟨_, A, rfl, by rw [sz_new, q.2], by have := Int32.toInt_lt z; omega, fun i hi => ⟨?_, by cases ty <;> rfl⟩⟩
  simp [newA, q.2, hi]
theorem Arf.arv (F : Arf Z h a k ty n f) {z : Int32} (hz : z.toInt = n) (dv : Value) : Arv Z h a k ty z ((List.range n).map f) dv := by
  obtain ⟨c, A, r1, r2, r3, H⟩ := F
  have q := idx_of hz
  refine ⟨c, A, r1, by rw [r2, q.2], q.1, fun i hi => ?_, fun i hi => ?_⟩
  · rw [r2] at hi; rw [(H i hi).1]; simp [List.getD_eq_getElem?_getD, hi]
  · rw [r2] at hi; have := (H i hi).2; simpa [List.getD_eq_getElem?_getD, hi] using this
theorem Arf.of_arv {z : Int32} {vs : List Value} {dv : Value} (F : Arv Z h a k ty z vs dv) (hz : z.toInt = n) (q : ∀ i, i < n → vs.getD i dv = f i) : Arf Z h a k ty n f := by
  obtain ⟨c, A, r1, r2, r3, H, G⟩ := F
  have q' := idx_of hz
  refine ⟨c, A, r1, by rw [r2, q'.2], by have := Int32.toInt_lt z; omega, fun i hi => ?_⟩
  have hi' : i < c.slots.size := by rw [r2, q'.2]; exact hi
  rw [← q i hi]; exact ⟨H i hi', G i hi'⟩
theorem Pln_arf (F : Arf Z h a k ty n f) : ∀ cell : Cell, h[a]? = some cell → cell.vm.isStatics = false := fun cell hc => by obtain ⟨c, A, -⟩ := F; cases A.1.symm.trans hc; exact A.plain
theorem Arf.sto (F : Arf Z h a k ty n f) {CC : String} {y : Addr} (O : Ovr Z k CC) (I : Ins Z h y CC true) : Sto Z h a (.ref y) := by
  obtain ⟨c, A, r1, -⟩ := F; exact Sto.ofV A r1 O I
end A

theorem k_newP {a0 : Array Value} {aty : ArrayType} {z : Int32} {n cap : Nat} (G : Ctx Γ Z own bytes maxl ret nm rm hs0) (X : W Γ n0 T h C S) (w : (Cond.arrayClass (newarray.typeOf aty)).before a0 Z = true) (hd : decode bytes pc = .ok (.newarray aty, 2)) (hp : pc + 2 = pc') (hz : z.toInt = n) (hcap : n ≤ cap) (hbig : cap * 8 ≤ 536870912) (hc : C + 1 ≤ rm.cells) (hs : S + cap ≤ rm.slots) (K : ∀ T h' a k, h.size = a → Ext h h' → Arf Z h' a k (newarray.typeOf aty) n (fun _ => defaultValue (newarray.typeOf aty)) → W Γ n0 T h' (C + 1) (S + cap) → Go Γ n0 Q T (mkF Γ.m pc' Ls (.ref a :: st))) : Go Γ n0 Q T (mkF Γ.m pc Ls (.int z :: st)) := by
  subst hp
  obtain ⟨hx, hZ, hown, hby, hml, hret, hnm, hlk, hR, hsH⟩ := G
  obtain ⟨L, X, e, N⟩ := X
  obtain ⟨T', h', k', X', e', E', A', st'⟩ := newP X hx hZ w e (g := mkF Γ.m pc Ls (.int z :: st)) rfl (hb hby hd) rfl (idx_of hz).1 (cap := cap) (by rw [(idx_of hz).2]; exact hcap) hbig (hR ▸ hc) (hR ▸ hs)
  exact Go.of st' (K T' h' _ k' rfl E' (Arf.new A' hz) ⟨L, X', e', N⟩)
theorem k_newR {a0 : Array Value} {idx : Nat} {CC : String} {z : Int32} {n cap : Nat} (G : Ctx Γ Z own bytes maxl ret nm rm hs0) (X : W Γ n0 T h C S) (w1 : (Cond.classLink own idx CC).before a0 Z = true) (w2 : (Cond.arrayOver (.object CC)).before a0 Z = true) (hd : decode bytes pc = .ok (.anewarray idx, 3)) (hp : pc + 3 = pc') (hz : z.toInt = n) (hcap : n ≤ cap) (hbig : cap * 8 ≤ 536870912) (hc : C + 1 ≤ rm.cells) (hs : S + cap ≤ rm.slots) (K : ∀ T h' a k, h.size = a → Ext h h' → Arf Z h' a k (.object CC) n (fun _ => .null) → Ovr Z k CC → W Γ n0 T h' (C + 1) (S + cap) → Go Γ n0 Q T (mkF Γ.m pc' Ls (.ref a :: st))) : Go Γ n0 Q T (mkF Γ.m pc Ls (.int z :: st)) := by
  subst hp
  obtain ⟨hx, hZ, hown, hby, hml, hret, hnm, hlk, hR, hsH⟩ := G
  obtain ⟨L, X, e, N⟩ := X
  obtain ⟨T', h', k', X', e', E', A', O', st'⟩ := newR X hx hZ hown w1 w2 e (g := mkF Γ.m pc Ls (.int z :: st)) rfl (hb hby hd) rfl (idx_of hz).1 (cap := cap) (by rw [(idx_of hz).2]; exact hcap) hbig (hR ▸ hc) (hR ▸ hs)
  exact Go.of st' (K T' h' _ k' rfl E' (Arf.new A' hz) O' ⟨L, X', e', N⟩)
theorem k_alen {a : Addr} {k : ClassId} {ty : FieldType} {n : Nat} {f : Nat → Value} {z : Int32} (G : Ctx Γ Z own bytes maxl ret nm rm hs0) (X : W Γ n0 T h C S) (F : Arf Z h a k ty n f) (hz : z.toInt = n) (hd : decode bytes pc = .ok (.arraylength, 1)) (hp : pc + 1 = pc') (K : Go Γ n0 Q T (mkF Γ.m pc' Ls (.int z :: st))) : Go Γ n0 Q T (mkF Γ.m pc Ls (.ref a :: st)) := by
  subst hp
  obtain ⟨hx, hZ, hown, hby, hml, hret, hnm, hlk, hR, hsH⟩ := G
  obtain ⟨L, X, e, N⟩ := X
  obtain ⟨cl, A, r1, r2, r3, H⟩ := F
  have q : cl.slots.size.toInt32 = z := by rw [r2]; exact Int32.toInt_inj.mp (by rw [len_toInt r3, hz])
  rw [← q] at K
  exact Go.of (fun t k' => X.arraylength hx (by rw [e]; exact A.1) (State.isArrayOf_alike hZ.alike A.2.1) (g := mkF Γ.m pc Ls (.ref a :: st)) rfl rfl (hb hby hd) t k') K
theorem k_iaload {a : Addr} {k : ClassId} {n i : Nat} {f : Nat → Value} {j : Int32} {v : Value} (G : Ctx Γ Z own bytes maxl ret nm rm hs0) (X : W Γ n0 T h C S) (F : Arf Z h a k .int n f) (hj : j.toInt = i) (hi : i < n) (hv : f i = v) (hd : decode bytes pc = .ok (.iaload, 1)) (hp : pc + 1 = pc') (K : Go Γ n0 Q T (mkF Γ.m pc' Ls (v :: st))) : Go Γ n0 Q T (mkF Γ.m pc Ls (.int j :: .ref a :: st)) := by
  subst hp hv
  obtain ⟨hx, hZ, hown, hby, hml, hret, hnm, hlk, hR, hsH⟩ := G
  obtain ⟨L, X, e, N⟩ := X
  obtain ⟨cl, A, r1, r2, r3, H⟩ := F
  have q := idx_of hj
  exact Go.of (fun t k' => X.iaload hx (by rw [e]; exact A.1) (State.isArrayOf_alike hZ.alike A.2.1) A.2.2 (by rw [r2, q.2]; exact fun u => u.elim q.1 (Nat.not_le.mpr hi)) (by rw [q.2]; exact (H i hi).1) (g := mkF Γ.m pc Ls (.int j :: .ref a :: st)) rfl rfl (hb hby hd) t k') K
theorem k_caload {a : Addr} {k : ClassId} {n i : Nat} {f : Nat → Value} {j : Int32} {v : Value} (G : Ctx Γ Z own bytes maxl ret nm rm hs0) (X : W Γ n0 T h C S) (F : Arf Z h a k .char n f) (hj : j.toInt = i) (hi : i < n) (hv : f i = v) (hd : decode bytes pc = .ok (.caload, 1)) (hp : pc + 1 = pc') (K : Go Γ n0 Q T (mkF Γ.m pc' Ls (v :: st))) : Go Γ n0 Q T (mkF Γ.m pc Ls (.int j :: .ref a :: st)) := by
  subst hp hv
  obtain ⟨hx, hZ, hown, hby, hml, hret, hnm, hlk, hR, hsH⟩ := G
  obtain ⟨L, X, e, N⟩ := X
  obtain ⟨cl, A, r1, r2, r3, H⟩ := F
  have q := idx_of hj
  exact Go.of (fun t k' => X.caload hx (by rw [e]; exact A.1) (State.isArrayOf_alike hZ.alike A.2.1) A.2.2 (by rw [r2, q.2]; exact fun u => u.elim q.1 (Nat.not_le.mpr hi)) (by rw [q.2]; exact (H i hi).1) (g := mkF Γ.m pc Ls (.int j :: .ref a :: st)) rfl rfl (hb hby hd) t k') K
theorem k_saload {a : Addr} {k : ClassId} {n i : Nat} {f : Nat → Value} {j : Int32} {v : Value} (G : Ctx Γ Z own bytes maxl ret nm rm hs0) (X : W Γ n0 T h C S) (F : Arf Z h a k .short n f) (hj : j.toInt = i) (hi : i < n) (hv : f i = v) (hd : decode bytes pc = .ok (.saload, 1)) (hp : pc + 1 = pc') (K : Go Γ n0 Q T (mkF Γ.m pc' Ls (v :: st))) : Go Γ n0 Q T (mkF Γ.m pc Ls (.int j :: .ref a :: st)) := by
  subst hp hv
  obtain ⟨hx, hZ, hown, hby, hml, hret, hnm, hlk, hR, hsH⟩ := G
  obtain ⟨L, X, e, N⟩ := X
  obtain ⟨cl, A, r1, r2, r3, H⟩ := F
  have q := idx_of hj
  exact Go.of (fun t k' => X.saload hx (by rw [e]; exact A.1) (State.isArrayOf_alike hZ.alike A.2.1) A.2.2 (by rw [r2, q.2]; exact fun u => u.elim q.1 (Nat.not_le.mpr hi)) (by rw [q.2]; exact (H i hi).1) (g := mkF Γ.m pc Ls (.int j :: .ref a :: st)) rfl rfl (hb hby hd) t k') K
theorem k_laload {a : Addr} {k : ClassId} {n i : Nat} {f : Nat → Value} {j : Int32} {v : Value} (G : Ctx Γ Z own bytes maxl ret nm rm hs0) (X : W Γ n0 T h C S) (F : Arf Z h a k .long n f) (hj : j.toInt = i) (hi : i < n) (hv : f i = v) (hd : decode bytes pc = .ok (.laload, 1)) (hp : pc + 1 = pc') (K : Go Γ n0 Q T (mkF Γ.m pc' Ls (v :: st))) : Go Γ n0 Q T (mkF Γ.m pc Ls (.int j :: .ref a :: st)) := by
  subst hp hv
  obtain ⟨hx, hZ, hown, hby, hml, hret, hnm, hlk, hR, hsH⟩ := G
  obtain ⟨L, X, e, N⟩ := X
  obtain ⟨cl, A, r1, r2, r3, H⟩ := F
  have q := idx_of hj
  exact Go.of (fun t k' => X.laload hx (by rw [e]; exact A.1) (State.isArrayOf_alike hZ.alike A.2.1) A.2.2 (by rw [r2, q.2]; exact fun u => u.elim q.1 (Nat.not_le.mpr hi)) (by rw [q.2]; exact (H i hi).1) (g := mkF Γ.m pc Ls (.int j :: .ref a :: st)) rfl rfl (hb hby hd) t k') K
theorem k_baload {a : Addr} {k : ClassId} {n i : Nat} {f : Nat → Value} {j : Int32} {v : Value} (G : Ctx Γ Z own bytes maxl ret nm rm hs0) (X : W Γ n0 T h C S) (F : Arf Z h a k .byte n f) (hj : j.toInt = i) (hi : i < n) (hv : f i = v) (hd : decode bytes pc = .ok (.baload, 1)) (hp : pc + 1 = pc') (K : Go Γ n0 Q T (mkF Γ.m pc' Ls (v :: st))) : Go Γ n0 Q T (mkF Γ.m pc Ls (.int j :: .ref a :: st)) := by
  subst hp hv
  obtain ⟨hx, hZ, hown, hby, hml, hret, hnm, hlk, hR, hsH⟩ := G
  obtain ⟨L, X, e, N⟩ := X
  obtain ⟨cl, A, r1, r2, r3, H⟩ := F
  have q := idx_of hj
  exact Go.of (fun t k' => X.baloadBytes hx (by rw [e]; exact A.1) (State.isArrayOf_alike hZ.alike A.2.1) A.2.2 (by rw [r2, q.2]; exact fun u => u.elim q.1 (Nat.not_le.mpr hi)) (by rw [q.2]; exact (H i hi).1) (g := mkF Γ.m pc Ls (.int j :: .ref a :: st)) rfl rfl (hb hby hd) t k') K
theorem k_aaload {a : Addr} {k : ClassId} {ty : FieldType} {n i : Nat} {f : Nat → Value} {j : Int32} {v : Value} (G : Ctx Γ Z own bytes maxl ret nm rm hs0) (X : W Γ n0 T h C S) (F : Arf Z h a k ty n f) (hty : ty.isReference = true) (hj : j.toInt = i) (hi : i < n) (hv : f i = v) (hd : decode bytes pc = .ok (.aaload, 1)) (hp : pc + 1 = pc') (K : Go Γ n0 Q T (mkF Γ.m pc' Ls (v :: st))) : Go Γ n0 Q T (mkF Γ.m pc Ls (.int j :: .ref a :: st)) := by
  subst hp hv
  obtain ⟨hx, hZ, hown, hby, hml, hret, hnm, hlk, hR, hsH⟩ := G
  obtain ⟨L, X, e, N⟩ := X
  obtain ⟨cl, A, r1, r2, r3, H⟩ := F
  have q := idx_of hj
  exact Go.of (fun t k' => X.aaload hx (by rw [e]; exact A.1) (State.isArrayOf_alike hZ.alike A.2.1) hty A.2.2 (by rw [r2, q.2]; exact fun u => u.elim q.1 (Nat.not_le.mpr hi)) (by rw [q.2]; exact (H i hi).1) (g := mkF Γ.m pc Ls (.int j :: .ref a :: st)) rfl rfl (hb hby hd) t k') K
theorem k_iastore {a : Addr} {k : ClassId} {n i : Nat} {f : Nat → Value} {j x z : Int32} (G : Ctx Γ Z own bytes maxl ret nm rm hs0) (X : W Γ n0 T h C S) (F : Arf Z h a k .int n f) (hj : j.toInt = i) (hi : i < n) (hz : x = z) (ga : n0 ≤ a) (hd : decode bytes pc = .ok (.iastore, 1)) (hp : pc + 1 = pc') (K : ∀ T h', Wr h h' a i (.int z) → Arf Z h' a k .int n (fun x => if x = i then (.int z) else f x) → W Γ n0 T h' C S → Go Γ n0 Q T (mkF Γ.m pc' Ls st)) : Go Γ n0 Q T (mkF Γ.m pc Ls (.int x :: .int j :: .ref a :: st)) := by
  subst hp hz
  obtain ⟨hx, hZ, hown, hby, hml, hret, hnm, hlk, hR, hsH⟩ := G
  obtain ⟨L, X, e, N⟩ := X
  have F0 := F
  obtain ⟨cl, A, r1, r2, r3, H⟩ := F
  have q := idx_of hj
  obtain ⟨T', h', X', e', W', st'⟩ := stI X hx hZ e A (j := j) (x := x) (by rw [r2, q.2]; exact fun u => u.elim q.1 (Nat.not_le.mpr hi)) (g := mkF Γ.m pc Ls (.int x :: .int j :: .ref a :: st)) rfl rfl (hb hby hd)
  rw [q.2] at W' X'
  exact Go.of st' (K T' h' W' (F0.set W' hi (rfl)) ⟨_, X', e', Fr.snoc X' N ga⟩)
theorem k_castore {a : Addr} {k : ClassId} {n i : Nat} {f : Nat → Value} {j x z : Int32} (G : Ctx Γ Z own bytes maxl ret nm rm hs0) (X : W Γ n0 T h C S) (F : Arf Z h a k .char n f) (hj : j.toInt = i) (hi : i < n) (hz : nar .char x = z) (ga : n0 ≤ a) (hd : decode bytes pc = .ok (.castore, 1)) (hp : pc + 1 = pc') (K : ∀ T h', Wr h h' a i (.int z) → Arf Z h' a k .char n (fun x => if x = i then (.int z) else f x) → W Γ n0 T h' C S → Go Γ n0 Q T (mkF Γ.m pc' Ls st)) : Go Γ n0 Q T (mkF Γ.m pc Ls (.int x :: .int j :: .ref a :: st)) := by
  subst hp hz
  obtain ⟨hx, hZ, hown, hby, hml, hret, hnm, hlk, hR, hsH⟩ := G
  obtain ⟨L, X, e, N⟩ := X
  have F0 := F
  obtain ⟨cl, A, r1, r2, r3, H⟩ := F
  have q := idx_of hj
  obtain ⟨T', h', X', e', W', st'⟩ := stC X hx hZ e A (j := j) (x := x) (by rw [r2, q.2]; exact fun u => u.elim q.1 (Nat.not_le.mpr hi)) (g := mkF Γ.m pc Ls (.int x :: .int j :: .ref a :: st)) rfl rfl (hb hby hd)
  rw [q.2] at W' X'
  exact Go.of st' (K T' h' W' (F0.set W' hi (fits_nar_char _)) ⟨_, X', e', Fr.snoc X' N ga⟩)
theorem k_sastore {a : Addr} {k : ClassId} {n i : Nat} {f : Nat → Value} {j x z : Int32} (G : Ctx Γ Z own bytes maxl ret nm rm hs0) (X : W Γ n0 T h C S) (F : Arf Z h a k .short n f) (hj : j.toInt = i) (hi : i < n) (hz : nar .short x = z) (ga : n0 ≤ a) (hd : decode bytes pc = .ok (.sastore, 1)) (hp : pc + 1 = pc') (K : ∀ T h', Wr h h' a i (.int z) → Arf Z h' a k .short n (fun x => if x = i then (.int z) else f x) → W Γ n0 T h' C S → Go Γ n0 Q T (mkF Γ.m pc' Ls st)) : Go Γ n0 Q T (mkF Γ.m pc Ls (.int x :: .int j :: .ref a :: st)) := by
  subst hp hz
  obtain ⟨hx, hZ, hown, hby, hml, hret, hnm, hlk, hR, hsH⟩ := G
  obtain ⟨L, X, e, N⟩ := X
  have F0 := F
  obtain ⟨cl, A, r1, r2, r3, H⟩ := F
  have q := idx_of hj
  obtain ⟨T', h', X', e', W', st'⟩ := stS X hx hZ e A (j := j) (x := x) (by rw [r2, q.2]; exact fun u => u.elim q.1 (Nat.not_le.mpr hi)) (g := mkF Γ.m pc Ls (.int x :: .int j :: .ref a :: st)) rfl rfl (hb hby hd)
  rw [q.2] at W' X'
  exact Go.of st' (K T' h' W' (F0.set W' hi (fits_nar_short _)) ⟨_, X', e', Fr.snoc X' N ga⟩)
theorem k_bastore {a : Addr} {k : ClassId} {n i : Nat} {f : Nat → Value} {j x z : Int32} (G : Ctx Γ Z own bytes maxl ret nm rm hs0) (X : W Γ n0 T h C S) (F : Arf Z h a k .byte n f) (hj : j.toInt = i) (hi : i < n) (hz : nar .byte x = z) (ga : n0 ≤ a) (hd : decode bytes pc = .ok (.bastore, 1)) (hp : pc + 1 = pc') (K : ∀ T h', Wr h h' a i (.int z) → Arf Z h' a k .byte n (fun x => if x = i then (.int z) else f x) → W Γ n0 T h' C S → Go Γ n0 Q T (mkF Γ.m pc' Ls st)) : Go Γ n0 Q T (mkF Γ.m pc Ls (.int x :: .int j :: .ref a :: st)) := by
  subst hp hz
  obtain ⟨hx, hZ, hown, hby, hml, hret, hnm, hlk, hR, hsH⟩ := G
  obtain ⟨L, X, e, N⟩ := X
  have F0 := F
  obtain ⟨cl, A, r1, r2, r3, H⟩ := F
  have q := idx_of hj
  obtain ⟨T', h', X', e', W', st'⟩ := stB X hx hZ e A (j := j) (x := x) (by rw [r2, q.2]; exact fun u => u.elim q.1 (Nat.not_le.mpr hi)) (g := mkF Γ.m pc Ls (.int x :: .int j :: .ref a :: st)) rfl rfl (hb hby hd)
  rw [q.2] at W' X'
  exact Go.of st' (K T' h' W' (F0.set W' hi (fits_nar_byte _)) ⟨_, X', e', Fr.snoc X' N ga⟩)
theorem k_lastore {a : Addr} {k : ClassId} {n i : Nat} {f : Nat → Value} {j : Int32} {y : Int64} (G : Ctx Γ Z own bytes maxl ret nm rm hs0) (X : W Γ n0 T h C S) (F : Arf Z h a k .long n f) (hj : j.toInt = i) (hi : i < n) (ga : n0 ≤ a) (hd : decode bytes pc = .ok (.lastore, 1)) (hp : pc + 1 = pc') (K : ∀ T h', Wr h h' a i (.long y) → Arf Z h' a k .long n (fun x => if x = i then (.long y) else f x) → W Γ n0 T h' C S → Go Γ n0 Q T (mkF Γ.m pc' Ls st)) : Go Γ n0 Q T (mkF Γ.m pc Ls (.long y :: .int j :: .ref a :: st)) := by
  subst hp
  obtain ⟨hx, hZ, hown, hby, hml, hret, hnm, hlk, hR, hsH⟩ := G
  obtain ⟨L, X, e, N⟩ := X
  have F0 := F
  obtain ⟨cl, A, r1, r2, r3, H⟩ := F
  have q := idx_of hj
  obtain ⟨T', h', X', e', W', st'⟩ := stJ X hx hZ e A (j := j) (x := y) (by rw [r2, q.2]; exact fun u => u.elim q.1 (Nat.not_le.mpr hi)) (g := mkF Γ.m pc Ls (.long y :: .int j :: .ref a :: st)) rfl rfl (hb hby hd)
  rw [q.2] at W' X'
  exact Go.of st' (K T' h' W' (F0.set W' hi rfl) ⟨_, X', e', Fr.snoc X' N ga⟩)
theorem k_aastore {a : Addr} {k : ClassId} {ty : FieldType} {n i : Nat} {f : Nat → Value} {j : Int32} {v : Value} (G : Ctx Γ Z own bytes maxl ret nm rm hs0) (X : W Γ n0 T h C S) (F : Arf Z h a k ty n f) (hty : ty.isReference = true) (hj : j.toInt = i) (hi : i < n) (O : Sto Z h a v) (hv : fits ty v = true) (ga : n0 ≤ a) (hd : decode bytes pc = .ok (.aastore, 1)) (hp : pc + 1 = pc') (K : ∀ T h', Wr h h' a i v → Arf Z h' a k ty n (fun x => if x = i then v else f x) → W Γ n0 T h' C S → Go Γ n0 Q T (mkF Γ.m pc' Ls st)) : Go Γ n0 Q T (mkF Γ.m pc Ls (v :: .int j :: .ref a :: st)) := by
  subst hp
  obtain ⟨hx, hZ, hown, hby, hml, hret, hnm, hlk, hR, hsH⟩ := G
  obtain ⟨L, X, e, N⟩ := X
  have F0 := F
  obtain ⟨cl, A, r1, r2, r3, H⟩ := F
  have q := idx_of hj
  obtain ⟨T', h', X', e', W', st'⟩ := stR X hx hZ e A (j := j) (v := v) (by rw [r2, q.2]; exact fun u => u.elim q.1 (Nat.not_le.mpr hi)) hty O (g := mkF Γ.m pc Ls (v :: .int j :: .ref a :: st)) rfl rfl (hb hby hd)
  rw [q.2] at W' X'
  exact Go.of st' (K T' h' W' (F0.set W' hi hv) ⟨_, X', e', Fr.snoc X' N ga⟩)
theorem k_copy {a0 : Array Value} {idx : Nat} {a b : Addr} {k k' : ClassId} {ty : FieldType} {n n' sp dp nn wd : Nat} {f g : Nat → Value} {js jd jn : Int32} (G : Ctx Γ Z own bytes maxl ret nm rm hs0) (X : W Γ n0 T h C S) (F : Arf Z h a k ty n f) (F' : Arf Z h b k' ty n' g) (hty : refKind ty = false)
    (w1 : (Cond.methodLink own idx Jvm.Stand.acN).before a0 Z = true) (w2 : (Cond.native Jvm.Stand.acN).before a0 Z = true) (w3 : (Cond.static Jvm.Stand.acN).before a0 Z = true) (w4 : (Cond.initialized "java/lang/System").before a0 Z = true)
    (hjs : js.toInt = sp) (hjd : jd.toInt = dp) (hjn : jn.toInt = nn) (h1 : sp + nn ≤ n) (h2 : dp + nn ≤ n') (gb : n0 ≤ b) (hd : decode bytes pc = .ok (.invokestatic idx, 3)) (hp : pc + 3 = pc') (hL : Ls.size = maxl) (hf : 1 ≤ rm.frames) (hwd : (st.map fun v => v.category).sum = wd) (hlo : wd + (nativeFrameWords "java/lang/System" "arraycopy" 5 + 11) ≤ rm.locals)
    (K : ∀ T h', Keep h h' [b] → Arf Z h' b k' ty n' (fun i => if dp ≤ i ∧ i < dp + nn then f (sp + (i - dp)) else g i) → W Γ n0 T h' C S → Go Γ n0 Q T (mkF Γ.m pc' Ls st)) : Go Γ n0 Q T (mkF Γ.m pc Ls (.int jn :: .int jd :: .ref b :: .int js :: .ref a :: st)) := by
  subst hp
  obtain ⟨hx, hZ, hown, hby, hml, hret, hnm, hlk, hR, hsH⟩ := G
  obtain ⟨L, X, e, N⟩ := X
  obtain ⟨z, hz⟩ : ∃ z : Int32, z.toInt = n := ⟨n.toInt32, len_toInt F.size_lt⟩
  obtain ⟨z', hz'⟩ : ∃ z : Int32, z.toInt = n' := ⟨n'.toInt32, len_toInt F'.size_lt⟩
  have A := F.arv hz .null
  have B := F'.arv hz' .null
  obtain ⟨qs1, qs2⟩ := idx_of hjs
  obtain ⟨qd1, qd2⟩ := idx_of hjd
  obtain ⟨qn1, qn2⟩ := idx_of hjn
  obtain ⟨T', h', L', X', e', N', K', A', st'⟩ := cpA X hx hZ hown w1 w2 w3 w4 e A B (Or.inl ⟨rfl, hty⟩) qs1 qd1 qn1 (by rw [qs2, qn2, (idx_of hz).2]; exact h1) (by rw [qd2, qn2, (idx_of hz').2]; exact h2) rfl (by rw [qd2, qn2]; simpa using h2) N gb (g := mkF Γ.m pc Ls (.int jn :: .int jd :: .ref b :: .int js :: .ref a :: st)) rfl (by rw [hml]; exact hL) rfl (hb hby hd) (hR ▸ hf) (W := wd) (by show 2 * 0 + _ ≤ _; omega) (hR ▸ hlo)
  refine Go.of st' (K T' h' K' (Arf.of_arv A' hz' fun i hi => ?_) ⟨L', X', e', N'⟩)
  rw [qs2, qd2, qn2]
  simp only [List.getD_eq_getElem?_getD]
  have lt : (((List.range n').map g).take dp).length = dp := by simp; omega
  by_cases c1 : i < dp
  · rw [List.append_assoc, List.getElem?_append_left (by rw [lt]; exact c1), List.getElem?_take_of_lt c1, if_neg (by omega)]
    simp [hi]
  · by_cases c2 : i < dp + nn
    · rw [List.getElem?_append_left (by rw [List.length_append, lt]; simp; omega), List.getElem?_append_right (by omega), lt, if_pos (by omega)]
      have q1 : i - dp < nn := by omega
      have q2 : sp + (i - dp) < n := by omega
      simp [q1, q2]
    · rw [List.getElem?_append_right (by rw [List.length_append, lt]; simp; omega), if_neg (by omega), List.getElem?_drop]
      have q3 : dp + nn + (i - (((List.range n').map g).take dp ++ (List.range nn).map fun i => (((List.range n).map f)[sp + i]?).getD .null).length) = i := by rw [List.length_append, lt]; simp; omega
      rw [q3]; simp [hi]
theorem k_instNull {idx : Nat} (G : Ctx Γ Z own bytes maxl ret nm rm hs0) (X : W Γ n0 T h C S) (hd : decode bytes pc = .ok (.instanceof idx, 3)) (hp : pc + 3 = pc') (K : Go Γ n0 Q T (mkF Γ.m pc' Ls (.int 0 :: st))) : Go Γ n0 Q T (mkF Γ.m pc Ls (.null :: st)) := by
  subst hp
  obtain ⟨hx, hZ, hown, hby, hml, hret, hnm, hlk, hR, hsH⟩ := G
  obtain ⟨L, X, e, N⟩ := X
  exact Go.of (fun t k => X.instanceofNull hx (g := mkF Γ.m pc Ls (.null :: st)) rfl rfl (hb hby hd) t k) K
theorem k_castNull {idx : Nat} (G : Ctx Γ Z own bytes maxl ret nm rm hs0) (X : W Γ n0 T h C S) (hd : decode bytes pc = .ok (.checkcast idx, 3)) (hp : pc + 3 = pc') (K : Go Γ n0 Q T (mkF Γ.m pc' Ls (.null :: st))) : Go Γ n0 Q T (mkF Γ.m pc Ls (.null :: st)) := by
  subst hp
  obtain ⟨hx, hZ, hown, hby, hml, hret, hnm, hlk, hR, hsH⟩ := G
  obtain ⟨L, X, e, N⟩ := X
  exact Go.of (fun t k => X.checkcastNull hx (g := mkF Γ.m pc Ls (.null :: st)) rfl rfl (hb hby hd) t k) K
theorem k_instN {a0 : Array Value} {idx : Nat} {KK CC : String} {a : Addr} (G : Ctx Γ Z own bytes maxl ret nm rm hs0) (X : W Γ n0 T h C S) (w : (Cond.classLink own idx KK).before a0 Z = true) (F : Ins Z hs0 a KK false) (E : Exa Z hs0 a CC) (hd : decode bytes pc = .ok (.instanceof idx, 3)) (hp : pc + 3 = pc') (K : ∀ T, W Γ n0 T h C S → Go Γ n0 Q T (mkF Γ.m pc' Ls (.int 0 :: st))) : Go Γ n0 Q T (mkF Γ.m pc Ls (.ref a :: st)) := by
  subst hp
  obtain ⟨hx, hZ, hown, hby, hml, hret, hnm, hlk, hR, hsH⟩ := G
  obtain ⟨L, X, e, N⟩ := X
  obtain ⟨T', X', e', st'⟩ := instN X hx hZ hown w e (show Ins Z Γ.s.heap a KK false by rw [hsH]; exact F) (show Exa Z Γ.s.heap a CC by rw [hsH]; exact E) (g := mkF Γ.m pc Ls (.ref a :: st)) rfl rfl (hb hby hd)
  exact Go.of st' (K T' ⟨L, X', e', N⟩)
theorem k_instNo {a0 : Array Value} {idx : Nat} {KK CC : String} {a : Addr} (G : Ctx Γ Z own bytes maxl ret nm rm hs0) (X : W Γ n0 T h C S) (w : (Cond.classLink own idx KK).before a0 Z = true) (E : Exa Z h a CC) (F : ∃ c t, Z.vm.findClass CC = some c ∧ Z.vm.findClass KK = some t ∧ Z.vm.assignable c t = false) (hd : decode bytes pc = .ok (.instanceof idx, 3)) (hp : pc + 3 = pc') (K : ∀ T, W Γ n0 T h C S → Go Γ n0 Q T (mkF Γ.m pc' Ls (.int 0 :: st))) : Go Γ n0 Q T (mkF Γ.m pc Ls (.ref a :: st)) := by
  subst hp
  obtain ⟨hx, hZ, hown, hby, hml, hret, hnm, hlk, hR, hsH⟩ := G
  obtain ⟨L, X, e, N⟩ := X
  obtain ⟨T', X', e', st'⟩ := instNo X hx hZ hown w e E F (g := mkF Γ.m pc Ls (.ref a :: st)) rfl rfl (hb hby hd)
  exact Go.of st' (K T' ⟨L, X', e', N⟩)
theorem selP {a0 : Array Value} {y : MethodName} {n : Nat} (wi : (Cond.instantiable y.cls n).before a0 Z = true) (wp : (Cond.privateMethod y).before a0 Z = true) (w2 : (Cond.instanceMethod y).before a0 Z = true) (hy : y.cls ≠ "java/lang/invoke/MethodHandle" ∧ y.cls ≠ "java/lang/invoke/VarHandle") : (Cond.selects y.cls y y).before a0 Z = true := by
  obtain ⟨t, kt, g0, g1, g2, gr⟩ := Cond.instantiable_spec wi
  have gi : kt.isInterface = false := by have := gr.1; simp at this; exact this.1
  exact Jvm.Stand.selects_self_of_private g0 g1 gi (Cond.privateMethod_at wp) w2 hy
theorem noInst {a0 : Array Value} {CC KK : String} {n : Nat} (w : (Cond.superclass CC "java/lang/Object").before a0 Z = true) (wo : (Cond.noSuperclass "java/lang/Object").before a0 Z = true) (wi : (Cond.instantiable KK n).before a0 Z = true) (h1 : CC ≠ KK) (h2 : "java/lang/Object" ≠ KK) : ∃ c t, Z.vm.findClass CC = some c ∧ Z.vm.findClass KK = some t ∧ Z.vm.assignable c t = false := by
  obtain ⟨t, kt, g0, g1, g2, gr⟩ := Cond.instantiable_spec wi
  have gi : kt.isInterface = false := by have := gr.1; simp at this; exact this.1
  obtain ⟨o, ko, o1, o2, o3, -⟩ := Cond.noSuperclass_spec wo
  obtain ⟨c, h0⟩ := found_sup w
  obtain ⟨p, k, kp, q1, q2, q3, q4, q5, -, q7⟩ := Cond.superclass_spec h0 w
  cases o1.symm.trans q1
  have ne1 := ids_ne h0 g0 h1
  have ne2 := ids_ne o1 g0 h2
  have n3 : ∀ fuel, Z.vm.isSubclassAux fuel c t = false := fun fuel => by
    cases fuel with
    | zero => rfl
    | succ f =>
      have n2 : Z.vm.isSubclassAux f o t = false := by
        cases f with
        | zero => rfl
        | succ f => simp [Vm.isSubclassAux, ne2, o2, o3]
      simp [Vm.isSubclassAux, ne1, q2, q4, n2]
  refine ⟨c, t, h0, g0, ?_⟩
  show Z.vm.assignableAux (255 + 1) c t = false
  simp [Vm.assignableAux, ne1, q2, g1, q5, g2, gi, Vm.isSubclass, n3]
/-! ### facts -/
theorem W.eq {h' : Heap} (X : W Γ n0 T h' C S) (e : h' = h) : W Γ n0 T h C S := e ▸ X
theorem Old_le (O : Old Z n0 h) : n0 ≤ h.size := by rw [← O.1]; exact O.2.1
theorem Sta_old {CC n d : String} {v : Value} (O : Old Z n0 h) (F : Sta Z Z.heap CC n d v) : Sta Z h CC n d v := F.ext O.2
theorem Fld_old {CC n d : String} {v : Value} {a : Addr} (O : Old Z n0 h) (F : Fld Z Z.heap a CC n d v) : Fld Z h a CC n d v := F.ext O.2
theorem Exa_old {CC : String} {a : Addr} (O : Old Z n0 h) (F : Exa Z Z.heap a CC) : Exa Z h a CC := F.ext O.2
theorem Sta_keep {h' : Heap} {CC n d : String} {v : Value} (F : Sta Z h CC n d v) (K : Keep h h' []) : Sta Z h' CC n d v := by
  obtain ⟨cf, i, k, f, st, cell, h1, h2, h3, h4, h5, h6, h7⟩ := F
  exact ⟨cf, i, k, f, st, cell, h1, h2, h3, h4, K.2.1 _ _ h5 nin0, h6, h7⟩
def Pln (h : Heap) (a : Addr) : Prop := ∀ cell : Cell, h[a]? = some cell → cell.vm.isStatics = false
theorem Pln_exa {a : Addr} {CC : String} (E : Exa Z h a CC) : Pln h a := fun cell hc => by obtain ⟨c1, _, h1, -, -, h4, -⟩ := E; cases h1.symm.trans hc; exact h4
theorem Pln_fld {a : Addr} {CC n d : String} {v : Value} (F : Fld Z h a CC n d v) : Pln h a := old_plain F
theorem Sta_keepL {h' : Heap} {CC n d : String} {v : Value} {ws : List Addr} (F : Sta Z h CC n d v) (K : Keep h h' ws) (q : ∀ w ∈ ws, Pln h w) : Sta Z h' CC n d v := by
  obtain ⟨cf, i, k, f, st, cell, h1, h2, h3, h4, h5, h6, h7⟩ := F
  exact ⟨cf, i, k, f, st, cell, h1, h2, h3, h4, K.2.1 _ _ h5 (fun hm => by have := q _ hm _ h5; rw [h6] at this; cases this), h6, h7⟩
end K
section Words
variable {s : State} {args : Array Value}
theorem s_exa {CC K n d : String} (hx : (Cond.exactly (Term.static CC n d) K).value args s none s [] = some true) (hi : (Cond.initialized CC).before args s = true) (hl : (Cond.laysStatic CC n d).before args s = true) : ∃ a, Sta s s.heap CC n d (.ref a) ∧ Exa s s.heap a K ∧ (Term.static CC n d).eval args s none [] s = some (.ref a) := by
  obtain ⟨a, ev⟩ := exa_v hx
  exact ⟨a, Sta.start ev (Or.inr ⟨hi, hl⟩), Exa.start ev hx, ev⟩
theorem s_fldI {t : Term} {a : Addr} {O n d : String} {z : Int32} (ev : t.eval args s none [] s = some (.ref a)) (hx : (Cond.eq (Term.field t O n d) (Term.int z)).value args s none s [] = some true) : Fld s s.heap a O n d (.int z) := by
  refine Fld.start ?_
  rw [← fld_at (args := args) (first := s) (o := none) (idx := []) ev]
  simp only [Cond.value, Term.int_eval] at hx
  cases hf : (Term.field t O n d).eval args s none [] s with
  | none => simp [hf] at hx
  | some v => cases v <;> simp [hf] at hx; rw [hx]
theorem s_fldN {t : Term} {a : Addr} {O n d : String} (ev : t.eval args s none [] s = some (.ref a)) (hx : (Cond.eq (Term.field t O n d) Term.null).value args s none s [] = some true) : Fld s s.heap a O n d .null := by
  refine Fld.start ?_
  rw [← fld_at (args := args) (first := s) (o := none) (idx := []) ev]
  exact null_v hx
theorem s_fldX {t : Term} {a : Addr} {O n d K : String} (ev : t.eval args s none [] s = some (.ref a)) (hx : (Cond.exactly (Term.field t O n d) K).value args s none s [] = some true) : ∃ b, Fld s s.heap a O n d (.ref b) ∧ Exa s s.heap b K := by
  obtain ⟨b, eb⟩ := exa_v hx
  refine ⟨b, Fld.start ?_, Exa.start eb hx⟩
  rw [← fld_at (args := args) (first := s) (o := none) (idx := []) ev]; exact eb
theorem len_none {t : Term} {x : Addr} {cl : Cell} {first : State} {o : Option Outcome} {idx : List Nat} (ht : t.eval args first o idx s = some (.ref x)) (ha : s.arrayAt? x = some cl) (hl : ¬ cl.slots.size < 2 ^ 31) : (Term.length t).eval args first o idx s = none := by simp [Term.eval, ht, ha, hl]
theorem s_arr2 {CC n d : String} {E : String} (hx : (Cond.exactly (Term.static CC n d) E).before args s = true) (hi : (Cond.initializedFor CC n d).before args s = true ∨ ((Cond.initialized CC).before args s = true ∧ (Cond.laysStatic CC n d).before args s = true)) (ha : (Cond.arrayOf (Term.static CC n d) (.object "java/lang/Object")).before args s = true) (hl : (Cond.eq (Term.length (Term.static CC n d)) (Term.int 0)).before args s = true) : ∃ a k, Sta s s.heap CC n d (.ref a) ∧ Arf s s.heap a k (.object "java/lang/Object") 0 (fun _ => .null) := by
  obtain ⟨a, ev⟩ := exa_v (Cond.before_iff.mp hx)
  obtain ⟨c, A⟩ := Arr.start ev (Cond.before_iff.mp ha)
  refine ⟨a, c.cls, Sta.start ev hi, c, A, rfl, ?_, by decide, fun i hi => absurd hi (Nat.not_lt_zero _)⟩
  have hl' := Cond.before_iff.mp hl
  have A2 := A.fin (Vm.Alike.refl _)
  by_cases hb : c.slots.size < 2 ^ 31
  · have q := gotT (Cond.eq_ints (len_f ev A2 hb) (Term.int_eval 0)) hl'
    have := congrArg Int32.toInt q
    rw [len_toInt hb, z32] at this
    omega
  · exfalso
    have : (Term.length (Term.static CC n d)).eval args s none [] s = none := len_none ev A2 hb
    simp [Cond.value, this] at hl'
theorem s_cs {CC n d : String} (h0 : (Cond.initializedFor CC n d).before args s = true) (h1 : (Cond.isInt (Term.static CC n d)).before args s = true) (h2 : (Cond.not (Cond.eq (Term.static CC n d) (Term.int 0))).before args s = true) : ∃ cs : Int32, Sta s s.heap CC n d (.int cs) ∧ cs ≠ 0 := by
  obtain ⟨x, ev⟩ := is_v (Cond.before_iff.mp h1)
  refine ⟨x, Sta.start ev (Or.inl h0), fun q => ?_⟩
  have := not_v (Cond.before_iff.mp h2)
  subst q
  rw [eq_i ev (Term.int_eval 0) rfl] at this
  cases this
end Words
theorem lcmp_self (x : Int64) : (if x > x then (1 : Int32) else if x = x then 0 else -1) = 0 := by rw [if_neg (Int64.lt_irrefl), if_pos rfl]
theorem of_toInt {z w : Int32} (h : z.toInt = w.toInt) : z = w := Int32.toInt_inj.mp h
theorem of_toInt64 {z w : Int64} (h : z.toInt = w.toInt) : z = w := Int64.toInt_inj.mp h
theorem rgI (x : Int32) : -2147483648 ≤ x.toInt ∧ x.toInt < 2147483648 := ⟨Int32.le_toInt x, Int32.toInt_lt x⟩
theorem rgL (x : Int64) : -9223372036854775808 ≤ x.toInt ∧ x.toInt < 9223372036854775808 := ⟨Int64.le_toInt x, Int64.toInt_lt x⟩
theorem and_rng (x : Int32) {m : Int32} (k : Int) (hk : m.toInt = k) (h : 0 ≤ k) : 0 ≤ (x &&& m).toInt ∧ (x &&& m).toInt ≤ k := by subst hk; exact c_and x m h
theorem rem_rng (x : Int32) {y : Int32} (d : Int) (hy : y.toInt = d) (hd : 0 < d) (hx : 0 ≤ x.toInt) : 0 ≤ (x % y).toInt ∧ (x % y).toInt < d := by
  rw [(c_irem x y d hy).1 hx]; exact ⟨Int.emod_nonneg _ (by omega), Int.emod_lt_of_pos _ hd⟩
theorem iadd_toInt {x y : Int32} (h1 : -2147483648 ≤ x.toInt + y.toInt) (h2 : x.toInt + y.toInt < 2147483648) : (x + y).toInt = x.toInt + y.toInt := by
  have := c_iadd x y; have := rgI (x + y); omega
theorem isub_toInt {x y : Int32} (h1 : -2147483648 ≤ x.toInt - y.toInt) (h2 : x.toInt - y.toInt < 2147483648) : (x - y).toInt = x.toInt - y.toInt := by
  have := c_isub x y; have := rgI (x - y); omega
theorem ladd_toInt {x y : Int64} (h1 : -9223372036854775808 ≤ x.toInt + y.toInt) (h2 : x.toInt + y.toInt < 9223372036854775808) : (x + y).toInt = x.toInt + y.toInt := by
  have := c_ladd x y; have := rgL (x + y); omega
theorem lcmp_toInt {x y : Int64} {z : Int32} (q : (if x > y then (1 : Int32) else if x = y then 0 else -1) = z) : (x.toInt < y.toInt → z.toInt = -1) ∧ (x.toInt = y.toInt → z.toInt = 0) ∧ (y.toInt < x.toInt → z.toInt = 1) := by
  subst q; exact c_lcmp x y
theorem and3 (x : Int32) : x &&& 3 = 0 ∨ x &&& 3 = 1 ∨ x &&& 3 = 2 ∨ x &&& 3 = 3 := by
  have h : ∀ b : BitVec 32, b &&& 3#32 = 0#32 ∨ b &&& 3#32 = 1#32 ∨ b &&& 3#32 = 2#32 ∨ b &&& 3#32 = 3#32 := fun b => by
    have e : (b &&& 3#32).toNat < 4 := by rw [BitVec.toNat_and]; exact Nat.lt_of_le_of_lt Nat.and_le_right (by decide)
    have : (b &&& 3#32).toNat = 0 ∨ (b &&& 3#32).toNat = 1 ∨ (b &&& 3#32).toNat = 2 ∨ (b &&& 3#32).toNat = 3 := by omega
    rcases this with q | q | q | q
    · exact Or.inl (BitVec.eq_of_toNat_eq q)
    · exact Or.inr (Or.inl (BitVec.eq_of_toNat_eq q))
    · exact Or.inr (Or.inr (Or.inl (BitVec.eq_of_toNat_eq q)))
    · exact Or.inr (Or.inr (Or.inr (BitVec.eq_of_toNat_eq q)))
  rcases h x.toBitVec with q | q | q | q
  · exact Or.inl (Int32.toBitVec_inj.mp q)
  · exact Or.inr (Or.inl (Int32.toBitVec_inj.mp q))
  · exact Or.inr (Or.inr (Or.inl (Int32.toBitVec_inj.mp q)))
  · exact Or.inr (Or.inr (Or.inr (Int32.toBitVec_inj.mp q)))
end Jvm.OwnK
namespace Jvm.Pilot.@@N@@
open Jvm Jvm.ClassFile Sem Op Lib Jvm.Free Jvm.Stand Jvm.LawKit Jvm.RoadKit Jvm.OwnK Bundle Jvm.Pilot.@@N@@.Jvm.D
abbrev HW (a0 : Array Value) (Z : State) : Prop := ∀ d ∈ tables_1, d.before a0 Z = true
section Wds
variable {a0 : Array Value} {Z : State}
theorem w0 (hw : HW a0 Z) : Jvm.Cond.before (Jvm.Cond.arrayClass Jvm.ClassFile.FieldType.byte) a0 Z = true := hw _ (List.mem_of_getElem? (i := 0) rfl)
theorem w1 (hw : HW a0 Z) : Jvm.Cond.before (Jvm.Cond.classLink "com/example/changeline/changeline/format/JsonOutputToBytesPinLaw" (7 : Nat) "com/example/changeline/changeline/format/JsonOutput") a0 Z = true := hw _ (List.mem_of_getElem? (i := 1) rfl)
theorem w2 (hw : HW a0 Z) : Jvm.Cond.before (Jvm.Cond.instantiable "com/example/changeline/changeline/format/JsonOutput" (5 : Nat)) a0 Z = true := hw _ (List.mem_of_getElem? (i := 2) rfl)
theorem w3 (hw : HW a0 Z) : Jvm.Cond.before (Jvm.Cond.initialized "com/example/changeline/changeline/format/JsonOutput") a0 Z = true := hw _ (List.mem_of_getElem? (i := 3) rfl)
theorem w4 (hw : HW a0 Z) : Jvm.Cond.before (Jvm.Cond.methodLink "com/example/changeline/changeline/format/JsonOutputToBytesPinLaw" (9 : Nat) ({ cls := "com/example/changeline/changeline/format/JsonOutput", name := "<init>", desc := "()V" } : Jvm.MethodName)) a0 Z = true := hw _ (List.mem_of_getElem? (i := 4) rfl)
theorem w5 (hw : HW a0 Z) : Jvm.Cond.before (Jvm.Cond.instanceMethod ({ cls := "com/example/changeline/changeline/format/JsonOutput", name := "<init>", desc := "()V" } : Jvm.MethodName)) a0 Z = true := hw _ (List.mem_of_getElem? (i := 5) rfl)
theorem w6 (hw : HW a0 Z) : Jvm.Cond.before (Jvm.Cond.code ({ cls := "com/example/changeline/changeline/format/JsonOutput", name := "<init>", desc := "()V" } : Jvm.MethodName) prog_29_method_1_code (1 : Nat) (Option.none : Option Jvm.ClassFile.FieldType)) a0 Z = true := hw _ (List.mem_of_getElem? (i := 6) rfl)
theorem w7 (hw : HW a0 Z) : Jvm.Cond.before (Jvm.Cond.methodLink "com/example/changeline/changeline/format/JsonOutput" (1 : Nat) ({ cls := "java/lang/Object", name := "<init>", desc := "()V" } : Jvm.MethodName)) a0 Z = true := hw _ (List.mem_of_getElem? (i := 7) rfl)
theorem w8 (hw : HW a0 Z) : Jvm.Cond.before (Jvm.Cond.instanceMethod ({ cls := "java/lang/Object", name := "<init>", desc := "()V" } : Jvm.MethodName)) a0 Z = true := hw _ (List.mem_of_getElem? (i := 8) rfl)
theorem w9 (hw : HW a0 Z) : Jvm.Cond.before (Jvm.Cond.code ({ cls := "java/lang/Object", name := "<init>", desc := "()V" } : Jvm.MethodName) object_method_1_code (1 : Nat) (Option.none : Option Jvm.ClassFile.FieldType)) a0 Z = true := hw _ (List.mem_of_getElem? (i := 9) rfl)
theorem w10 (hw : HW a0 Z) : Jvm.Cond.before (Jvm.Cond.classLink "com/example/changeline/changeline/format/JsonOutput" (7 : Nat) "java/util/IdentityHashMap") a0 Z = true := hw _ (List.mem_of_getElem? (i := 10) rfl)
theorem w11 (hw : HW a0 Z) : Jvm.Cond.before (Jvm.Cond.instantiable "java/util/IdentityHashMap" (6 : Nat)) a0 Z = true := hw _ (List.mem_of_getElem? (i := 11) rfl)
theorem w12 (hw : HW a0 Z) : Jvm.Cond.before (Jvm.Cond.initialized "java/util/IdentityHashMap") a0 Z = true := hw _ (List.mem_of_getElem? (i := 12) rfl)
theorem w13 (hw : HW a0 Z) : Jvm.Cond.before (Jvm.Cond.methodLink "com/example/changeline/changeline/format/JsonOutput" (9 : Nat) ({ cls := "java/util/IdentityHashMap", name := "<init>", desc := "()V" } : Jvm.MethodName)) a0 Z = true := hw _ (List.mem_of_getElem? (i := 13) rfl)
theorem w14 (hw : HW a0 Z) : Jvm.Cond.before (Jvm.Cond.instanceMethod ({ cls := "java/util/IdentityHashMap", name := "<init>", desc := "()V" } : Jvm.MethodName)) a0 Z = true := hw _ (List.mem_of_getElem? (i := 14) rfl)
theorem w15 (hw : HW a0 Z) : Jvm.Cond.before (Jvm.Cond.code ({ cls := "java/util/IdentityHashMap", name := "<init>", desc := "()V" } : Jvm.MethodName) jdk_2581_method_3_code (1 : Nat) (Option.none : Option Jvm.ClassFile.FieldType)) a0 Z = true := hw _ (List.mem_of_getElem? (i := 15) rfl)
theorem w16 (hw : HW a0 Z) : Jvm.Cond.before (Jvm.Cond.methodLink "java/util/IdentityHashMap" (7 : Nat) ({ cls := "java/util/AbstractMap", name := "<init>", desc := "()V" } : Jvm.MethodName)) a0 Z = true := hw _ (List.mem_of_getElem? (i := 16) rfl)
theorem w17 (hw : HW a0 Z) : Jvm.Cond.before (Jvm.Cond.instanceMethod ({ cls := "java/util/AbstractMap", name := "<init>", desc := "()V" } : Jvm.MethodName)) a0 Z = true := hw _ (List.mem_of_getElem? (i := 17) rfl)
theorem w20 (hw : HW a0 Z) : Jvm.Cond.before (Jvm.Cond.initialized "java/util/AbstractMap") a0 Z = true := hw _ (List.mem_of_getElem? (i := 20) rfl)
theorem w21 (hw : HW a0 Z) : Jvm.Cond.before (Jvm.Cond.code ({ cls := "java/util/AbstractMap", name := "<init>", desc := "()V" } : Jvm.MethodName) jdk_71_method_1_code (1 : Nat) (Option.none : Option Jvm.ClassFile.FieldType)) a0 Z = true := hw _ (List.mem_of_getElem? (i := 21) rfl)
theorem w22 (hw : HW a0 Z) : Jvm.Cond.before (Jvm.Cond.methodLink "java/util/AbstractMap" (1 : Nat) ({ cls := "java/lang/Object", name := "<init>", desc := "()V" } : Jvm.MethodName)) a0 Z = true := hw _ (List.mem_of_getElem? (i := 22) rfl)
theorem w23 (hw : HW a0 Z) : Jvm.Cond.before (Jvm.Cond.methodLink "java/util/IdentityHashMap" (13 : Nat) ({ cls := "java/util/IdentityHashMap", name := "init", desc := "(I)V" } : Jvm.MethodName)) a0 Z = true := hw _ (List.mem_of_getElem? (i := 23) rfl)
theorem w24 (hw : HW a0 Z) : Jvm.Cond.before (Jvm.Cond.instanceMethod ({ cls := "java/util/IdentityHashMap", name := "init", desc := "(I)V" } : Jvm.MethodName)) a0 Z = true := hw _ (List.mem_of_getElem? (i := 24) rfl)
theorem w25 (hw : HW a0 Z) : Jvm.Cond.before (Jvm.Cond.privateMethod ({ cls := "java/util/IdentityHashMap", name := "init", desc := "(I)V" } : Jvm.MethodName)) a0 Z = true := hw _ (List.mem_of_getElem? (i := 25) rfl)
theorem w26 (hw : HW a0 Z) : Jvm.Cond.before (Jvm.Cond.selects "java/util/IdentityHashMap" ({ cls := "java/util/IdentityHashMap", name := "init", desc := "(I)V" } : Jvm.MethodName) ({ cls := "java/util/IdentityHashMap", name := "init", desc := "(I)V" } : Jvm.MethodName)) a0 Z = true := hw _ (List.mem_of_getElem? (i := 26) rfl)
theorem w27 (hw : HW a0 Z) : Jvm.Cond.before (Jvm.Cond.code ({ cls := "java/util/IdentityHashMap", name := "init", desc := "(I)V" } : Jvm.MethodName) jdk_2581_method_6_code (2 : Nat) (Option.none : Option Jvm.ClassFile.FieldType)) a0 Z = true := hw _ (List.mem_of_getElem? (i := 27) rfl)
theorem w28 (hw : HW a0 Z) : Jvm.Cond.before (Jvm.Cond.classLink "java/util/IdentityHashMap" (49 : Nat) "java/lang/Object") a0 Z = true := hw _ (List.mem_of_getElem? (i := 28) rfl)
theorem w29 (hw : HW a0 Z) : Jvm.Cond.before (Jvm.Cond.arrayOver (Jvm.ClassFile.FieldType.object "java/lang/Object")) a0 Z = true := hw _ (List.mem_of_getElem? (i := 29) rfl)
theorem w30 (hw : HW a0 Z) : Jvm.Cond.before (Jvm.Cond.fieldLink "java/util/IdentityHashMap" (51 : Nat) "java/util/IdentityHashMap" "table" "[Ljava/lang/Object;") a0 Z = true := hw _ (List.mem_of_getElem? (i := 30) rfl)
theorem w31 (hw : HW a0 Z) : Jvm.Cond.before (Jvm.Cond.lays "java/util/IdentityHashMap" "java/util/IdentityHashMap" "table" "[Ljava/lang/Object;") a0 Z = true := hw _ (List.mem_of_getElem? (i := 31) rfl)
theorem w32 (hw : HW a0 Z) : Jvm.Cond.before (Jvm.Cond.fieldLink "com/example/changeline/changeline/format/JsonOutput" (10 : Nat) "com/example/changeline/changeline/format/JsonOutput" "names" "Ljava/util/Map;") a0 Z = true := hw _ (List.mem_of_getElem? (i := 32) rfl)
theorem w33 (hw : HW a0 Z) : Jvm.Cond.before (Jvm.Cond.laysFinal "com/example/changeline/changeline/format/JsonOutput" "com/example/changeline/changeline/format/JsonOutput" "names" "Ljava/util/Map;") a0 Z = true := hw _ (List.mem_of_getElem? (i := 33) rfl)
theorem w34 (hw : HW a0 Z) : Jvm.Cond.before (Jvm.Cond.fieldLink "com/example/changeline/changeline/format/JsonOutput" (16 : Nat) "com/example/changeline/changeline/format/JsonOutput" "bytes" "[B") a0 Z = true := hw _ (List.mem_of_getElem? (i := 34) rfl)
theorem w35 (hw : HW a0 Z) : Jvm.Cond.before (Jvm.Cond.lays "com/example/changeline/changeline/format/JsonOutput" "com/example/changeline/changeline/format/JsonOutput" "bytes" "[B") a0 Z = true := hw _ (List.mem_of_getElem? (i := 35) rfl)
theorem w36 (hw : HW a0 Z) : Jvm.Cond.before (Jvm.Cond.classLink "com/example/changeline/changeline/format/JsonOutput" (20 : Nat) "com/example/changeline/changeline/format/JsonOutput$Scope") a0 Z = true := hw _ (List.mem_of_getElem? (i := 36) rfl)
theorem w37 (hw : HW a0 Z) : Jvm.Cond.before (Jvm.Cond.arrayOver (Jvm.ClassFile.FieldType.object "com/example/changeline/changeline/format/JsonOutput$Scope")) a0 Z = true := hw _ (List.mem_of_getElem? (i := 37) rfl)
theorem w38 (hw : HW a0 Z) : Jvm.Cond.before (Jvm.Cond.fieldLink "com/example/changeline/changeline/format/JsonOutput" (22 : Nat) "com/example/changeline/changeline/format/JsonOutput" "scopes" "[Lcom/example/changeline/changeline/format/JsonOutput$Scope;") a0 Z = true := hw _ (List.mem_of_getElem? (i := 38) rfl)
theorem w39 (hw : HW a0 Z) : Jvm.Cond.before (Jvm.Cond.lays "com/example/changeline/changeline/format/JsonOutput" "com/example/changeline/changeline/format/JsonOutput" "scopes" "[Lcom/example/changeline/changeline/format/JsonOutput$Scope;") a0 Z = true := hw _ (List.mem_of_getElem? (i := 39) rfl)
theorem w40 (hw : HW a0 Z) : Jvm.Cond.before (Jvm.Cond.fieldLink "com/example/changeline/changeline/format/JsonOutput" (26 : Nat) "com/example/changeline/changeline/format/JsonOutput" "depth" "I") a0 Z = true := hw _ (List.mem_of_getElem? (i := 40) rfl)
theorem w41 (hw : HW a0 Z) : Jvm.Cond.before (Jvm.Cond.lays "com/example/changeline/changeline/format/JsonOutput" "com/example/changeline/changeline/format/JsonOutput" "depth" "I") a0 Z = true := hw _ (List.mem_of_getElem? (i := 41) rfl)
theorem w42 (hw : HW a0 Z) : Jvm.Cond.before (Jvm.Cond.fieldLink "com/example/changeline/changeline/format/JsonOutput" (30 : Nat) "com/example/changeline/changeline/format/JsonOutput$Scope" "EMPTY_DOCUMENT" "Lcom/example/changeline/changeline/format/JsonOutput$Scope;") a0 Z = true := hw _ (List.mem_of_getElem? (i := 42) rfl)
theorem w43 (hw : HW a0 Z) : Jvm.Cond.before (Jvm.Cond.initialized "com/example/changeline/changeline/format/JsonOutput$Scope") a0 Z = true := hw _ (List.mem_of_getElem? (i := 43) rfl)
theorem w44 (hw : HW a0 Z) : Jvm.Cond.before (Jvm.Cond.laysStatic "com/example/changeline/changeline/format/JsonOutput$Scope" "EMPTY_DOCUMENT" "Lcom/example/changeline/changeline/format/JsonOutput$Scope;") a0 Z = true := hw _ (List.mem_of_getElem? (i := 44) rfl)
theorem w46 (hw : HW a0 Z) : Jvm.Cond.before (Jvm.Cond.methodLink "com/example/changeline/changeline/format/JsonOutputToBytesPinLaw" (14 : Nat) ({ cls := "com/example/changeline/changeline/format/JsonOutput", name := "jsonValue", desc := "([B)Lcom/example/changeline/changeline/format/JsonOutput;" } : Jvm.MethodName)) a0 Z = true := hw _ (List.mem_of_getElem? (i := 46) rfl)
theorem w47 (hw : HW a0 Z) : Jvm.Cond.before (Jvm.Cond.declares ({ cls := "com/example/changeline/changeline/format/JsonOutput", name := "jsonValue", desc := "([B)Lcom/example/changeline/changeline/format/JsonOutput;" } : Jvm.MethodName)) a0 Z = true := hw _ (List.mem_of_getElem? (i := 47) rfl)
theorem w48 (hw : HW a0 Z) : Jvm.Cond.before (Jvm.Cond.instanceMethod ({ cls := "com/example/changeline/changeline/format/JsonOutput", name := "jsonValue", desc := "([B)Lcom/example/changeline/changeline/format/JsonOutput;" } : Jvm.MethodName)) a0 Z = true := hw _ (List.mem_of_getElem? (i := 48) rfl)
theorem w49 (hw : HW a0 Z) : Jvm.Cond.before (Jvm.Cond.selects "com/example/changeline/changeline/format/JsonOutput" ({ cls := "com/example/changeline/changeline/format/JsonOutput", name := "jsonValue", desc := "([B)Lcom/example/changeline/changeline/format/JsonOutput;" } : Jvm.MethodName) ({ cls := "com/example/changeline/changeline/format/JsonOutput", name := "jsonValue", desc := "([B)Lcom/example/changeline/changeline/format/JsonOutput;" } : Jvm.MethodName)) a0 Z = true := hw _ (List.mem_of_getElem? (i := 49) rfl)
theorem w50 (hw : HW a0 Z) : Jvm.Cond.before (Jvm.Cond.code ({ cls := "com/example/changeline/changeline/format/JsonOutput", name := "jsonValue", desc := "([B)Lcom/example/changeline/changeline/format/JsonOutput;" } : Jvm.MethodName) prog_29_method_13_code (2 : Nat) (Option.some (Jvm.ClassFile.FieldType.object "com/example/changeline/changeline/format/JsonOutput"))) a0 Z = true := hw _ (List.mem_of_getElem? (i := 50) rfl)
theorem w51 (hw : HW a0 Z) : Jvm.Cond.before (Jvm.Cond.methodLink "com/example/changeline/changeline/format/JsonOutput" (38 : Nat) ({ cls := "com/example/changeline/changeline/format/JsonOutput", name := "beforeValue", desc := "()V" } : Jvm.MethodName)) a0 Z = true := hw _ (List.mem_of_getElem? (i := 51) rfl)
theorem w52 (hw : HW a0 Z) : Jvm.Cond.before (Jvm.Cond.instanceMethod ({ cls := "com/example/changeline/changeline/format/JsonOutput", name := "beforeValue", desc := "()V" } : Jvm.MethodName)) a0 Z = true := hw _ (List.mem_of_getElem? (i := 52) rfl)
theorem w53 (hw : HW a0 Z) : Jvm.Cond.before (Jvm.Cond.privateMethod ({ cls := "com/example/changeline/changeline/format/JsonOutput", name := "beforeValue", desc := "()V" } : Jvm.MethodName)) a0 Z = true := hw _ (List.mem_of_getElem? (i := 53) rfl)
theorem w54 (hw : HW a0 Z) : Jvm.Cond.before (Jvm.Cond.code ({ cls := "com/example/changeline/changeline/format/JsonOutput", name := "beforeValue", desc := "()V" } : Jvm.MethodName) prog_29_method_16_code (2 : Nat) (Option.none : Option Jvm.ClassFile.FieldType)) a0 Z = true := hw _ (List.mem_of_getElem? (i := 54) rfl)
theorem w55 (hw : HW a0 Z) : Jvm.Cond.before (Jvm.Cond.methodLink "com/example/changeline/changeline/format/JsonOutput" (145 : Nat) ({ cls := "com/example/changeline/changeline/format/JsonOutput$Scope", name := "ordinal", desc := "()I" } : Jvm.MethodName)) a0 Z = true := hw _ (List.mem_of_getElem? (i := 55) rfl)
theorem w56 (hw : HW a0 Z) : Jvm.Cond.before (Jvm.Cond.sameMethod "com/example/changeline/changeline/format/JsonOutput$Scope" "java/lang/Enum" "ordinal" "()I") a0 Z = true := hw _ (List.mem_of_getElem? (i := 56) rfl)
theorem w57 (hw : HW a0 Z) : Jvm.Cond.before (Jvm.Cond.declares ({ cls := "java/lang/Enum", name := "ordinal", desc := "()I" } : Jvm.MethodName)) a0 Z = true := hw _ (List.mem_of_getElem? (i := 57) rfl)
theorem w58 (hw : HW a0 Z) : Jvm.Cond.before (Jvm.Cond.instanceMethod ({ cls := "java/lang/Enum", name := "ordinal", desc := "()I" } : Jvm.MethodName)) a0 Z = true := hw _ (List.mem_of_getElem? (i := 58) rfl)
theorem w59 (hw : HW a0 Z) : Jvm.Cond.before (Jvm.Cond.selects "com/example/changeline/changeline/format/JsonOutput$Scope" ({ cls := "com/example/changeline/changeline/format/JsonOutput$Scope", name := "ordinal", desc := "()I" } : Jvm.MethodName) ({ cls := "java/lang/Enum", name := "ordinal", desc := "()I" } : Jvm.MethodName)) a0 Z = true := hw _ (List.mem_of_getElem? (i := 59) rfl)
theorem w60 (hw : HW a0 Z) : Jvm.Cond.before (Jvm.Cond.initialized "java/lang/Enum") a0 Z = true := hw _ (List.mem_of_getElem? (i := 60) rfl)
theorem w61 (hw : HW a0 Z) : Jvm.Cond.before (Jvm.Cond.code ({ cls := "java/lang/Enum", name := "ordinal", desc := "()I" } : Jvm.MethodName) jdk_37_method_2_code (1 : Nat) (Option.some Jvm.ClassFile.FieldType.int)) a0 Z = true := hw _ (List.mem_of_getElem? (i := 61) rfl)
theorem w62 (hw : HW a0 Z) : Jvm.Cond.before (Jvm.Cond.fieldLink "java/lang/Enum" (7 : Nat) "java/lang/Enum" "ordinal" "I") a0 Z = true := hw _ (List.mem_of_getElem? (i := 62) rfl)
theorem w64 (hw : HW a0 Z) : Jvm.Cond.before (Jvm.Cond.fieldLink "com/example/changeline/changeline/format/JsonOutput" (148 : Nat) "com/example/changeline/changeline/format/JsonOutput$Scope" "DOCUMENT" "Lcom/example/changeline/changeline/format/JsonOutput$Scope;") a0 Z = true := hw _ (List.mem_of_getElem? (i := 64) rfl)
theorem w65 (hw : HW a0 Z) : Jvm.Cond.before (Jvm.Cond.laysStatic "com/example/changeline/changeline/format/JsonOutput$Scope" "DOCUMENT" "Lcom/example/changeline/changeline/format/JsonOutput$Scope;") a0 Z = true := hw _ (List.mem_of_getElem? (i := 65) rfl)
theorem w66 (hw : HW a0 Z) : Jvm.Cond.before (Jvm.Cond.methodLink "com/example/changeline/changeline/format/JsonOutput" (79 : Nat) ({ cls := "com/example/changeline/changeline/format/JsonOutput", name := "put", desc := "([B)V" } : Jvm.MethodName)) a0 Z = true := hw _ (List.mem_of_getElem? (i := 66) rfl)
theorem w67 (hw : HW a0 Z) : Jvm.Cond.before (Jvm.Cond.instanceMethod ({ cls := "com/example/changeline/changeline/format/JsonOutput", name := "put", desc := "([B)V" } : Jvm.MethodName)) a0 Z = true := hw _ (List.mem_of_getElem? (i := 67) rfl)
theorem w68 (hw : HW a0 Z) : Jvm.Cond.before (Jvm.Cond.privateMethod ({ cls := "com/example/changeline/changeline/format/JsonOutput", name := "put", desc := "([B)V" } : Jvm.MethodName)) a0 Z = true := hw _ (List.mem_of_getElem? (i := 68) rfl)
theorem w69 (hw : HW a0 Z) : Jvm.Cond.before (Jvm.Cond.code ({ cls := "com/example/changeline/changeline/format/JsonOutput", name := "put", desc := "([B)V" } : Jvm.MethodName) prog_29_method_22_code (2 : Nat) (Option.none : Option Jvm.ClassFile.FieldType)) a0 Z = true := hw _ (List.mem_of_getElem? (i := 69) rfl)
theorem w70 (hw : HW a0 Z) : Jvm.Cond.before (Jvm.Cond.fieldLink "com/example/changeline/changeline/format/JsonOutput" (35 : Nat) "com/example/changeline/changeline/format/JsonOutput" "length" "I") a0 Z = true := hw _ (List.mem_of_getElem? (i := 70) rfl)
theorem w71 (hw : HW a0 Z) : Jvm.Cond.before (Jvm.Cond.lays "com/example/changeline/changeline/format/JsonOutput" "com/example/changeline/changeline/format/JsonOutput" "length" "I") a0 Z = true := hw _ (List.mem_of_getElem? (i := 71) rfl)
theorem w72 (hw : HW a0 Z) : Jvm.Cond.before (Jvm.Cond.methodLink "com/example/changeline/changeline/format/JsonOutput" (105 : Nat) ({ cls := "com/example/changeline/changeline/format/JsonOutput", name := "ensure", desc := "(I)V" } : Jvm.MethodName)) a0 Z = true := hw _ (List.mem_of_getElem? (i := 72) rfl)
theorem w73 (hw : HW a0 Z) : Jvm.Cond.before (Jvm.Cond.instanceMethod ({ cls := "com/example/changeline/changeline/format/JsonOutput", name := "ensure", desc := "(I)V" } : Jvm.MethodName)) a0 Z = true := hw _ (List.mem_of_getElem? (i := 73) rfl)
theorem w74 (hw : HW a0 Z) : Jvm.Cond.before (Jvm.Cond.privateMethod ({ cls := "com/example/changeline/changeline/format/JsonOutput", name := "ensure", desc := "(I)V" } : Jvm.MethodName)) a0 Z = true := hw _ (List.mem_of_getElem? (i := 74) rfl)
theorem w75 (hw : HW a0 Z) : Jvm.Cond.before (Jvm.Cond.code ({ cls := "com/example/changeline/changeline/format/JsonOutput", name := "ensure", desc := "(I)V" } : Jvm.MethodName) prog_29_method_23_code (2 : Nat) (Option.none : Option Jvm.ClassFile.FieldType)) a0 Z = true := hw _ (List.mem_of_getElem? (i := 75) rfl)
theorem w76 (hw : HW a0 Z) : Jvm.Cond.before (Jvm.Cond.methodLink "com/example/changeline/changeline/format/JsonOutput" (204 : Nat) ({ cls := "java/lang/System", name := "arraycopy", desc := "(Ljava/lang/Object;ILjava/lang/Object;II)V" } : Jvm.MethodName)) a0 Z = true := hw _ (List.mem_of_getElem? (i := 76) rfl)
theorem w77 (hw : HW a0 Z) : Jvm.Cond.before (Jvm.Cond.static ({ cls := "java/lang/System", name := "arraycopy", desc := "(Ljava/lang/Object;ILjava/lang/Object;II)V" } : Jvm.MethodName)) a0 Z = true := hw _ (List.mem_of_getElem? (i := 77) rfl)
theorem w78 (hw : HW a0 Z) : Jvm.Cond.before (Jvm.Cond.initialized "java/lang/System") a0 Z = true := hw _ (List.mem_of_getElem? (i := 78) rfl)
theorem w79 (hw : HW a0 Z) : Jvm.Cond.before (Jvm.Cond.native ({ cls := "java/lang/System", name := "arraycopy", desc := "(Ljava/lang/Object;ILjava/lang/Object;II)V" } : Jvm.MethodName)) a0 Z = true := hw _ (List.mem_of_getElem? (i := 79) rfl)
theorem w80 (hw : HW a0 Z) : Jvm.Cond.before (Jvm.Cond.methodLink "com/example/changeline/changeline/format/JsonOutputToBytesPinLaw" (21 : Nat) ({ cls := "com/example/changeline/changeline/format/JsonOutput", name := "toBytes", desc := "()[B" } : Jvm.MethodName)) a0 Z = true := hw _ (List.mem_of_getElem? (i := 80) rfl)
theorem w81 (hw : HW a0 Z) : Jvm.Cond.before (Jvm.Cond.declares ({ cls := "com/example/changeline/changeline/format/JsonOutput", name := "toBytes", desc := "()[B" } : Jvm.MethodName)) a0 Z = true := hw _ (List.mem_of_getElem? (i := 81) rfl)
theorem w82 (hw : HW a0 Z) : Jvm.Cond.before (Jvm.Cond.instanceMethod ({ cls := "com/example/changeline/changeline/format/JsonOutput", name := "toBytes", desc := "()[B" } : Jvm.MethodName)) a0 Z = true := hw _ (List.mem_of_getElem? (i := 82) rfl)
theorem w83 (hw : HW a0 Z) : Jvm.Cond.before (Jvm.Cond.selects "com/example/changeline/changeline/format/JsonOutput" ({ cls := "com/example/changeline/changeline/format/JsonOutput", name := "toBytes", desc := "()[B" } : Jvm.MethodName) ({ cls := "com/example/changeline/changeline/format/JsonOutput", name := "toBytes", desc := "()[B" } : Jvm.MethodName)) a0 Z = true := hw _ (List.mem_of_getElem? (i := 83) rfl)
theorem w84 (hw : HW a0 Z) : Jvm.Cond.before (Jvm.Cond.code ({ cls := "com/example/changeline/changeline/format/JsonOutput", name := "toBytes", desc := "()[B" } : Jvm.MethodName) prog_29_method_14_code (1 : Nat) (Option.some (Jvm.ClassFile.FieldType.array Jvm.ClassFile.FieldType.byte))) a0 Z = true := hw _ (List.mem_of_getElem? (i := 84) rfl)
theorem w85 (hw : HW a0 Z) : Jvm.Cond.before (Jvm.Cond.methodLink "com/example/changeline/changeline/format/JsonOutput" (138 : Nat) ({ cls := "java/util/Arrays", name := "copyOf", desc := "([BI)[B" } : Jvm.MethodName)) a0 Z = true := hw _ (List.mem_of_getElem? (i := 85) rfl)
theorem w86 (hw : HW a0 Z) : Jvm.Cond.before (Jvm.Cond.static ({ cls := "java/util/Arrays", name := "copyOf", desc := "([BI)[B" } : Jvm.MethodName)) a0 Z = true := hw _ (List.mem_of_getElem? (i := 86) rfl)
theorem w87 (hw : HW a0 Z) : Jvm.Cond.before (Jvm.Cond.initialized "java/util/Arrays") a0 Z = true := hw _ (List.mem_of_getElem? (i := 87) rfl)
theorem w88 (hw : HW a0 Z) : Jvm.Cond.before (Jvm.Cond.code ({ cls := "java/util/Arrays", name := "copyOf", desc := "([BI)[B" } : Jvm.MethodName) jdk_65_method_121_code (3 : Nat) (Option.some (Jvm.ClassFile.FieldType.array Jvm.ClassFile.FieldType.byte))) a0 Z = true := hw _ (List.mem_of_getElem? (i := 88) rfl)
theorem w89 (hw : HW a0 Z) : Jvm.Cond.before (Jvm.Cond.methodLink "java/util/Arrays" (304 : Nat) ({ cls := "java/lang/Math", name := "min", desc := "(II)I" } : Jvm.MethodName)) a0 Z = true := hw _ (List.mem_of_getElem? (i := 89) rfl)
theorem w90 (hw : HW a0 Z) : Jvm.Cond.before (Jvm.Cond.static ({ cls := "java/lang/Math", name := "min", desc := "(II)I" } : Jvm.MethodName)) a0 Z = true := hw _ (List.mem_of_getElem? (i := 90) rfl)
theorem w91 (hw : HW a0 Z) : Jvm.Cond.before (Jvm.Cond.initialized "java/lang/Math") a0 Z = true := hw _ (List.mem_of_getElem? (i := 91) rfl)
theorem w92 (hw : HW a0 Z) : Jvm.Cond.before (Jvm.Cond.code ({ cls := "java/lang/Math", name := "min", desc := "(II)I" } : Jvm.MethodName) jdk_29_method_69_code (2 : Nat) (Option.some Jvm.ClassFile.FieldType.int)) a0 Z = true := hw _ (List.mem_of_getElem? (i := 92) rfl)
theorem w93 (hw : HW a0 Z) : Jvm.Cond.before (Jvm.Cond.methodLink "java/util/Arrays" (150 : Nat) ({ cls := "java/lang/System", name := "arraycopy", desc := "(Ljava/lang/Object;ILjava/lang/Object;II)V" } : Jvm.MethodName)) a0 Z = true := hw _ (List.mem_of_getElem? (i := 93) rfl)
theorem w94 (hw : HW a0 Z) : Jvm.Cond.before (Jvm.Cond.methodLink "com/example/changeline/changeline/format/JsonOutputToBytesPinLaw" (25 : Nat) ({ cls := "com/example/changeline/changeline/format/JsonOutputToBytesPinLaw", name := "check", desc := "([BIIBBBZ)Z" } : Jvm.MethodName)) a0 Z = true := hw _ (List.mem_of_getElem? (i := 94) rfl)
theorem w95 (hw : HW a0 Z) : Jvm.Cond.before (Jvm.Cond.static ({ cls := "com/example/changeline/changeline/format/JsonOutputToBytesPinLaw", name := "check", desc := "([BIIBBBZ)Z" } : Jvm.MethodName)) a0 Z = true := hw _ (List.mem_of_getElem? (i := 95) rfl)
theorem w96 (hw : HW a0 Z) : Jvm.Cond.before (Jvm.Cond.initialized "com/example/changeline/changeline/format/JsonOutputToBytesPinLaw") a0 Z = true := hw _ (List.mem_of_getElem? (i := 96) rfl)
theorem w97 (hw : HW a0 Z) : Jvm.Cond.before (Jvm.Cond.code ({ cls := "com/example/changeline/changeline/format/JsonOutputToBytesPinLaw", name := "check", desc := "([BIIBBBZ)Z" } : Jvm.MethodName) method_2_code (8 : Nat) (Option.some Jvm.ClassFile.FieldType.boolean)) a0 Z = true := hw _ (List.mem_of_getElem? (i := 97) rfl)
theorem w98 (hw : HW a0 Z) : Jvm.Cond.before (Jvm.Cond.methodLink "com/example/changeline/changeline/format/JsonOutput" (210 : Nat) ({ cls := "java/lang/Math", name := "max", desc := "(II)I" } : Jvm.MethodName)) a0 Z = true := hw _ (List.mem_of_getElem? (i := 98) rfl)
theorem w99 (hw : HW a0 Z) : Jvm.Cond.before (Jvm.Cond.static ({ cls := "java/lang/Math", name := "max", desc := "(II)I" } : Jvm.MethodName)) a0 Z = true := hw _ (List.mem_of_getElem? (i := 99) rfl)
theorem w100 (hw : HW a0 Z) : Jvm.Cond.before (Jvm.Cond.code ({ cls := "java/lang/Math", name := "max", desc := "(II)I" } : Jvm.MethodName) jdk_29_method_65_code (2 : Nat) (Option.some Jvm.ClassFile.FieldType.int)) a0 Z = true := hw _ (List.mem_of_getElem? (i := 100) rfl)
theorem w101 (hw : HW a0 Z) : Jvm.Cond.before (Jvm.Cond.methodLink "com/example/changeline/changeline/format/JsonOutputToBytesPinLaw" (10 : Nat) ({ cls := "com/example/changeline/changeline/format/JsonOutput", name := "beginArray", desc := "()Lcom/example/changeline/changeline/format/JsonOutput;" } : Jvm.MethodName)) a0 Z = true := hw _ (List.mem_of_getElem? (i := 101) rfl)
theorem w102 (hw : HW a0 Z) : Jvm.Cond.before (Jvm.Cond.declares ({ cls := "com/example/changeline/changeline/format/JsonOutput", name := "beginArray", desc := "()Lcom/example/changeline/changeline/format/JsonOutput;" } : Jvm.MethodName)) a0 Z = true := hw _ (List.mem_of_getElem? (i := 102) rfl)
theorem w103 (hw : HW a0 Z) : Jvm.Cond.before (Jvm.Cond.instanceMethod ({ cls := "com/example/changeline/changeline/format/JsonOutput", name := "beginArray", desc := "()Lcom/example/changeline/changeline/format/JsonOutput;" } : Jvm.MethodName)) a0 Z = true := hw _ (List.mem_of_getElem? (i := 103) rfl)
theorem w104 (hw : HW a0 Z) : Jvm.Cond.before (Jvm.Cond.selects "com/example/changeline/changeline/format/JsonOutput" ({ cls := "com/example/changeline/changeline/format/JsonOutput", name := "beginArray", desc := "()Lcom/example/changeline/changeline/format/JsonOutput;" } : Jvm.MethodName) ({ cls := "com/example/changeline/changeline/format/JsonOutput", name := "beginArray", desc := "()Lcom/example/changeline/changeline/format/JsonOutput;" } : Jvm.MethodName)) a0 Z = true := hw _ (List.mem_of_getElem? (i := 104) rfl)
theorem w105 (hw : HW a0 Z) : Jvm.Cond.before (Jvm.Cond.code ({ cls := "com/example/changeline/changeline/format/JsonOutput", name := "beginArray", desc := "()Lcom/example/changeline/changeline/format/JsonOutput;" } : Jvm.MethodName) prog_29_method_5_code (1 : Nat) (Option.some (Jvm.ClassFile.FieldType.object "com/example/changeline/changeline/format/JsonOutput"))) a0 Z = true := hw _ (List.mem_of_getElem? (i := 105) rfl)
theorem w106 (hw : HW a0 Z) : Jvm.Cond.before (Jvm.Cond.methodLink "com/example/changeline/changeline/format/JsonOutput" (41 : Nat) ({ cls := "com/example/changeline/changeline/format/JsonOutput", name := "put", desc := "(C)V" } : Jvm.MethodName)) a0 Z = true := hw _ (List.mem_of_getElem? (i := 106) rfl)
theorem w107 (hw : HW a0 Z) : Jvm.Cond.before (Jvm.Cond.instanceMethod ({ cls := "com/example/changeline/changeline/format/JsonOutput", name := "put", desc := "(C)V" } : Jvm.MethodName)) a0 Z = true := hw _ (List.mem_of_getElem? (i := 107) rfl)
theorem w108 (hw : HW a0 Z) : Jvm.Cond.before (Jvm.Cond.privateMethod ({ cls := "com/example/changeline/changeline/format/JsonOutput", name := "put", desc := "(C)V" } : Jvm.MethodName)) a0 Z = true := hw _ (List.mem_of_getElem? (i := 108) rfl)
theorem w109 (hw : HW a0 Z) : Jvm.Cond.before (Jvm.Cond.code ({ cls := "com/example/changeline/changeline/format/JsonOutput", name := "put", desc := "(C)V" } : Jvm.MethodName) prog_29_method_21_code (2 : Nat) (Option.none : Option Jvm.ClassFile.FieldType)) a0 Z = true := hw _ (List.mem_of_getElem? (i := 109) rfl)
theorem w110 (hw : HW a0 Z) : Jvm.Cond.before (Jvm.Cond.fieldLink "com/example/changeline/changeline/format/JsonOutput" (59 : Nat) "com/example/changeline/changeline/format/JsonOutput$Scope" "EMPTY_ARRAY" "Lcom/example/changeline/changeline/format/JsonOutput$Scope;") a0 Z = true := hw _ (List.mem_of_getElem? (i := 110) rfl)
theorem w111 (hw : HW a0 Z) : Jvm.Cond.before (Jvm.Cond.laysStatic "com/example/changeline/changeline/format/JsonOutput$Scope" "EMPTY_ARRAY" "Lcom/example/changeline/changeline/format/JsonOutput$Scope;") a0 Z = true := hw _ (List.mem_of_getElem? (i := 111) rfl)
theorem w112 (hw : HW a0 Z) : Jvm.Cond.before (Jvm.Cond.methodLink "com/example/changeline/changeline/format/JsonOutput" (48 : Nat) ({ cls := "com/example/changeline/changeline/format/JsonOutput", name := "push", desc := "(Lcom/example/changeline/changeline/format/JsonOutput$Scope;)V" } : Jvm.MethodName)) a0 Z = true := hw _ (List.mem_of_getElem? (i := 112) rfl)
theorem w113 (hw : HW a0 Z) : Jvm.Cond.before (Jvm.Cond.instanceMethod ({ cls := "com/example/changeline/changeline/format/JsonOutput", name := "push", desc := "(Lcom/example/changeline/changeline/format/JsonOutput$Scope;)V" } : Jvm.MethodName)) a0 Z = true := hw _ (List.mem_of_getElem? (i := 113) rfl)
theorem w114 (hw : HW a0 Z) : Jvm.Cond.before (Jvm.Cond.privateMethod ({ cls := "com/example/changeline/changeline/format/JsonOutput", name := "push", desc := "(Lcom/example/changeline/changeline/format/JsonOutput$Scope;)V" } : Jvm.MethodName)) a0 Z = true := hw _ (List.mem_of_getElem? (i := 114) rfl)
theorem w115 (hw : HW a0 Z) : Jvm.Cond.before (Jvm.Cond.code ({ cls := "com/example/changeline/changeline/format/JsonOutput", name := "push", desc := "(Lcom/example/changeline/changeline/format/JsonOutput$Scope;)V" } : Jvm.MethodName) prog_29_method_17_code (2 : Nat) (Option.none : Option Jvm.ClassFile.FieldType)) a0 Z = true := hw _ (List.mem_of_getElem? (i := 115) rfl)
theorem w116 (hw : HW a0 Z) : Jvm.Cond.before (Jvm.Cond.fieldLink "com/example/changeline/changeline/format/JsonOutput" (62 : Nat) "com/example/changeline/changeline/format/JsonOutput$Scope" "ARRAY" "Lcom/example/changeline/changeline/format/JsonOutput$Scope;") a0 Z = true := hw _ (List.mem_of_getElem? (i := 116) rfl)
theorem w117 (hw : HW a0 Z) : Jvm.Cond.before (Jvm.Cond.laysStatic "com/example/changeline/changeline/format/JsonOutput$Scope" "ARRAY" "Lcom/example/changeline/changeline/format/JsonOutput$Scope;") a0 Z = true := hw _ (List.mem_of_getElem? (i := 117) rfl)
theorem w118 (hw : HW a0 Z) : Jvm.Cond.before (Jvm.Cond.methodLink "com/example/changeline/changeline/format/JsonOutputToBytesPinLaw" (18 : Nat) ({ cls := "com/example/changeline/changeline/format/JsonOutput", name := "endArray", desc := "()Lcom/example/changeline/changeline/format/JsonOutput;" } : Jvm.MethodName)) a0 Z = true := hw _ (List.mem_of_getElem? (i := 118) rfl)
theorem w119 (hw : HW a0 Z) : Jvm.Cond.before (Jvm.Cond.declares ({ cls := "com/example/changeline/changeline/format/JsonOutput", name := "endArray", desc := "()Lcom/example/changeline/changeline/format/JsonOutput;" } : Jvm.MethodName)) a0 Z = true := hw _ (List.mem_of_getElem? (i := 119) rfl)
theorem w120 (hw : HW a0 Z) : Jvm.Cond.before (Jvm.Cond.instanceMethod ({ cls := "com/example/changeline/changeline/format/JsonOutput", name := "endArray", desc := "()Lcom/example/changeline/changeline/format/JsonOutput;" } : Jvm.MethodName)) a0 Z = true := hw _ (List.mem_of_getElem? (i := 120) rfl)
theorem w121 (hw : HW a0 Z) : Jvm.Cond.before (Jvm.Cond.selects "com/example/changeline/changeline/format/JsonOutput" ({ cls := "com/example/changeline/changeline/format/JsonOutput", name := "endArray", desc := "()Lcom/example/changeline/changeline/format/JsonOutput;" } : Jvm.MethodName) ({ cls := "com/example/changeline/changeline/format/JsonOutput", name := "endArray", desc := "()Lcom/example/changeline/changeline/format/JsonOutput;" } : Jvm.MethodName)) a0 Z = true := hw _ (List.mem_of_getElem? (i := 121) rfl)
theorem w122 (hw : HW a0 Z) : Jvm.Cond.before (Jvm.Cond.code ({ cls := "com/example/changeline/changeline/format/JsonOutput", name := "endArray", desc := "()Lcom/example/changeline/changeline/format/JsonOutput;" } : Jvm.MethodName) prog_29_method_6_code (1 : Nat) (Option.some (Jvm.ClassFile.FieldType.object "com/example/changeline/changeline/format/JsonOutput"))) a0 Z = true := hw _ (List.mem_of_getElem? (i := 122) rfl)
theorem w123 (hw : HW a0 Z) : Jvm.Cond.before (Jvm.Cond.methodLink "com/example/changeline/changeline/format/JsonOutput" (55 : Nat) ({ cls := "com/example/changeline/changeline/format/JsonOutput", name := "close", desc := "(Lcom/example/changeline/changeline/format/JsonOutput$Scope;Lcom/example/changeline/changeline/format/JsonOutput$Scope;)V" } : Jvm.MethodName)) a0 Z = true := hw _ (List.mem_of_getElem? (i := 123) rfl)
theorem w124 (hw : HW a0 Z) : Jvm.Cond.before (Jvm.Cond.instanceMethod ({ cls := "com/example/changeline/changeline/format/JsonOutput", name := "close", desc := "(Lcom/example/changeline/changeline/format/JsonOutput$Scope;Lcom/example/changeline/changeline/format/JsonOutput$Scope;)V" } : Jvm.MethodName)) a0 Z = true := hw _ (List.mem_of_getElem? (i := 124) rfl)
theorem w125 (hw : HW a0 Z) : Jvm.Cond.before (Jvm.Cond.privateMethod ({ cls := "com/example/changeline/changeline/format/JsonOutput", name := "close", desc := "(Lcom/example/changeline/changeline/format/JsonOutput$Scope;Lcom/example/changeline/changeline/format/JsonOutput$Scope;)V" } : Jvm.MethodName)) a0 Z = true := hw _ (List.mem_of_getElem? (i := 125) rfl)
theorem w126 (hw : HW a0 Z) : Jvm.Cond.before (Jvm.Cond.code ({ cls := "com/example/changeline/changeline/format/JsonOutput", name := "close", desc := "(Lcom/example/changeline/changeline/format/JsonOutput$Scope;Lcom/example/changeline/changeline/format/JsonOutput$Scope;)V" } : Jvm.MethodName) prog_29_method_18_code (4 : Nat) (Option.none : Option Jvm.ClassFile.FieldType)) a0 Z = true := hw _ (List.mem_of_getElem? (i := 126) rfl)
end Wds
theorem d1_0 : decode prog_29_method_1_code 0 = .ok (.aload_n 0, 1) := by decide +kernel
theorem d1_1 : decode prog_29_method_1_code 1 = .ok (.invokespecial 1, 3) := by decide +kernel
theorem d1_4 : decode prog_29_method_1_code 4 = .ok (.aload_n 0, 1) := by decide +kernel
theorem d1_5 : decode prog_29_method_1_code 5 = .ok (.new 7, 3) := by decide +kernel
theorem d1_8 : decode prog_29_method_1_code 8 = .ok (.dup, 1) := by decide +kernel
theorem d1_9 : decode prog_29_method_1_code 9 = .ok (.invokespecial 9, 3) := by decide +kernel
theorem d1_12 : decode prog_29_method_1_code 12 = .ok (.putfield 10, 3) := by decide +kernel
theorem d1_15 : decode prog_29_method_1_code 15 = .ok (.aload_n 0, 1) := by decide +kernel
theorem d1_16 : decode prog_29_method_1_code 16 = .ok (.sipush 512, 3) := by decide +kernel
theorem d1_19 : decode prog_29_method_1_code 19 = .ok (.newarray .byte, 2) := by decide +kernel
theorem d1_21 : decode prog_29_method_1_code 21 = .ok (.putfield 16, 3) := by decide +kernel
theorem d1_24 : decode prog_29_method_1_code 24 = .ok (.aload_n 0, 1) := by decide +kernel
theorem d1_25 : decode prog_29_method_1_code 25 = .ok (.bipush 8, 2) := by decide +kernel
theorem d1_27 : decode prog_29_method_1_code 27 = .ok (.anewarray 20, 3) := by decide +kernel
theorem d1_30 : decode prog_29_method_1_code 30 = .ok (.putfield 22, 3) := by decide +kernel
theorem d1_33 : decode prog_29_method_1_code 33 = .ok (.aload_n 0, 1) := by decide +kernel
theorem d1_34 : decode prog_29_method_1_code 34 = .ok (.getfield 22, 3) := by decide +kernel
theorem d1_37 : decode prog_29_method_1_code 37 = .ok (.aload_n 0, 1) := by decide +kernel
theorem d1_38 : decode prog_29_method_1_code 38 = .ok (.dup, 1) := by decide +kernel
theorem d1_39 : decode prog_29_method_1_code 39 = .ok (.getfield 26, 3) := by decide +kernel
theorem d1_42 : decode prog_29_method_1_code 42 = .ok (.dup_x1, 1) := by decide +kernel
theorem d1_43 : decode prog_29_method_1_code 43 = .ok (.iconst 1, 1) := by decide +kernel
theorem d1_44 : decode prog_29_method_1_code 44 = .ok (.iadd, 1) := by decide +kernel
theorem d1_45 : decode prog_29_method_1_code 45 = .ok (.putfield 26, 3) := by decide +kernel
theorem d1_48 : decode prog_29_method_1_code 48 = .ok (.getstatic 30, 3) := by decide +kernel
theorem d1_51 : decode prog_29_method_1_code 51 = .ok (.aastore, 1) := by decide +kernel
theorem d1_52 : decode prog_29_method_1_code 52 = .ok (.return_, 1) := by decide +kernel
theorem d3_0 : decode jdk_2581_method_3_code 0 = .ok (.aload_n 0, 1) := by decide +kernel
theorem d3_1 : decode jdk_2581_method_3_code 1 = .ok (.invokespecial 7, 3) := by decide +kernel
theorem d3_4 : decode jdk_2581_method_3_code 4 = .ok (.aload_n 0, 1) := by decide +kernel
theorem d3_5 : decode jdk_2581_method_3_code 5 = .ok (.bipush 32, 2) := by decide +kernel
theorem d3_7 : decode jdk_2581_method_3_code 7 = .ok (.invokevirtual 13, 3) := by decide +kernel
theorem d3_10 : decode jdk_2581_method_3_code 10 = .ok (.return_, 1) := by decide +kernel
theorem d4_0 : decode jdk_71_method_1_code 0 = .ok (.aload_n 0, 1) := by decide +kernel
theorem d4_1 : decode jdk_71_method_1_code 1 = .ok (.invokespecial 1, 3) := by decide +kernel
theorem d4_4 : decode jdk_71_method_1_code 4 = .ok (.return_, 1) := by decide +kernel
theorem d5_0 : decode jdk_2581_method_6_code 0 = .ok (.aload_n 0, 1) := by decide +kernel
theorem d5_1 : decode jdk_2581_method_6_code 1 = .ok (.iconst 2, 1) := by decide +kernel
theorem d5_2 : decode jdk_2581_method_6_code 2 = .ok (.iload_n 1, 1) := by decide +kernel
theorem d5_3 : decode jdk_2581_method_6_code 3 = .ok (.imul, 1) := by decide +kernel
theorem d5_4 : decode jdk_2581_method_6_code 4 = .ok (.anewarray 49, 3) := by decide +kernel
theorem d5_7 : decode jdk_2581_method_6_code 7 = .ok (.putfield 51, 3) := by decide +kernel
theorem d5_10 : decode jdk_2581_method_6_code 10 = .ok (.return_, 1) := by decide +kernel
theorem d6_0 : decode prog_29_method_13_code 0 = .ok (.aload_n 0, 1) := by decide +kernel
theorem d6_1 : decode prog_29_method_13_code 1 = .ok (.invokevirtual 38, 3) := by decide +kernel
theorem d6_4 : decode prog_29_method_13_code 4 = .ok (.aload_n 0, 1) := by decide +kernel
theorem d6_5 : decode prog_29_method_13_code 5 = .ok (.aload_n 1, 1) := by decide +kernel
theorem d6_6 : decode prog_29_method_13_code 6 = .ok (.invokevirtual 79, 3) := by decide +kernel
theorem d6_9 : decode prog_29_method_13_code 9 = .ok (.aload_n 0, 1) := by decide +kernel
theorem d6_10 : decode prog_29_method_13_code 10 = .ok (.areturn, 1) := by decide +kernel
theorem d7_0 : decode prog_29_method_16_code 0 = .ok (.aload_n 0, 1) := by decide +kernel
theorem d7_1 : decode prog_29_method_16_code 1 = .ok (.getfield 22, 3) := by decide +kernel
theorem d7_4 : decode prog_29_method_16_code 4 = .ok (.aload_n 0, 1) := by decide +kernel
theorem d7_5 : decode prog_29_method_16_code 5 = .ok (.getfield 26, 3) := by decide +kernel
theorem d7_8 : decode prog_29_method_16_code 8 = .ok (.iconst 1, 1) := by decide +kernel
theorem d7_9 : decode prog_29_method_16_code 9 = .ok (.isub, 1) := by decide +kernel
theorem d7_10 : decode prog_29_method_16_code 10 = .ok (.aaload, 1) := by decide +kernel
theorem d7_11 : decode prog_29_method_16_code 11 = .ok (.astore_n 1, 1) := by decide +kernel
theorem d7_12 : decode prog_29_method_16_code 12 = .ok (.aload_n 1, 1) := by decide +kernel
theorem d7_13 : decode prog_29_method_16_code 13 = .ok (.invokevirtual 145, 3) := by decide +kernel
theorem d7_16 : decode prog_29_method_16_code 16 = .ok (.tableswitch 114 0 6 #[44, 104, 114, 114, 87, 61, 78], 44) := by decide +kernel
theorem d7_60 : decode prog_29_method_16_code 60 = .ok (.aload_n 0, 1) := by decide +kernel
theorem d7_61 : decode prog_29_method_16_code 61 = .ok (.getfield 22, 3) := by decide +kernel
theorem d7_64 : decode prog_29_method_16_code 64 = .ok (.aload_n 0, 1) := by decide +kernel
theorem d7_65 : decode prog_29_method_16_code 65 = .ok (.getfield 26, 3) := by decide +kernel
theorem d7_68 : decode prog_29_method_16_code 68 = .ok (.iconst 1, 1) := by decide +kernel
theorem d7_69 : decode prog_29_method_16_code 69 = .ok (.isub, 1) := by decide +kernel
theorem d7_70 : decode prog_29_method_16_code 70 = .ok (.getstatic 148, 3) := by decide +kernel
theorem d7_73 : decode prog_29_method_16_code 73 = .ok (.aastore, 1) := by decide +kernel
theorem d7_74 : decode prog_29_method_16_code 74 = .ok (.goto 66, 3) := by decide +kernel
theorem d7_77 : decode prog_29_method_16_code 77 = .ok (.aload_n 0, 1) := by decide +kernel
theorem d7_78 : decode prog_29_method_16_code 78 = .ok (.getfield 22, 3) := by decide +kernel
theorem d7_81 : decode prog_29_method_16_code 81 = .ok (.aload_n 0, 1) := by decide +kernel
theorem d7_82 : decode prog_29_method_16_code 82 = .ok (.getfield 26, 3) := by decide +kernel
theorem d7_85 : decode prog_29_method_16_code 85 = .ok (.iconst 1, 1) := by decide +kernel
theorem d7_86 : decode prog_29_method_16_code 86 = .ok (.isub, 1) := by decide +kernel
theorem d7_87 : decode prog_29_method_16_code 87 = .ok (.getstatic 62, 3) := by decide +kernel
theorem d7_90 : decode prog_29_method_16_code 90 = .ok (.aastore, 1) := by decide +kernel
theorem d7_91 : decode prog_29_method_16_code 91 = .ok (.goto 49, 3) := by decide +kernel
theorem d7_140 : decode prog_29_method_16_code 140 = .ok (.return_, 1) := by decide +kernel
theorem d8_0 : decode jdk_37_method_2_code 0 = .ok (.aload_n 0, 1) := by decide +kernel
theorem d8_1 : decode jdk_37_method_2_code 1 = .ok (.getfield 7, 3) := by decide +kernel
theorem d8_4 : decode jdk_37_method_2_code 4 = .ok (.ireturn, 1) := by decide +kernel
theorem d9_0 : decode prog_29_method_22_code 0 = .ok (.aload_n 0, 1) := by decide +kernel
theorem d9_1 : decode prog_29_method_22_code 1 = .ok (.aload_n 0, 1) := by decide +kernel
theorem d9_2 : decode prog_29_method_22_code 2 = .ok (.getfield 35, 3) := by decide +kernel
theorem d9_5 : decode prog_29_method_22_code 5 = .ok (.aload_n 1, 1) := by decide +kernel
theorem d9_6 : decode prog_29_method_22_code 6 = .ok (.arraylength, 1) := by decide +kernel
theorem d9_7 : decode prog_29_method_22_code 7 = .ok (.iadd, 1) := by decide +kernel
theorem d9_8 : decode prog_29_method_22_code 8 = .ok (.invokevirtual 105, 3) := by decide +kernel
theorem d9_11 : decode prog_29_method_22_code 11 = .ok (.aload_n 1, 1) := by decide +kernel
theorem d9_12 : decode prog_29_method_22_code 12 = .ok (.iconst 0, 1) := by decide +kernel
theorem d9_13 : decode prog_29_method_22_code 13 = .ok (.aload_n 0, 1) := by decide +kernel
theorem d9_14 : decode prog_29_method_22_code 14 = .ok (.getfield 16, 3) := by decide +kernel
theorem d9_17 : decode prog_29_method_22_code 17 = .ok (.aload_n 0, 1) := by decide +kernel
theorem d9_18 : decode prog_29_method_22_code 18 = .ok (.getfield 35, 3) := by decide +kernel
theorem d9_21 : decode prog_29_method_22_code 21 = .ok (.aload_n 1, 1) := by decide +kernel
theorem d9_22 : decode prog_29_method_22_code 22 = .ok (.arraylength, 1) := by decide +kernel
theorem d9_23 : decode prog_29_method_22_code 23 = .ok (.invokestatic 204, 3) := by decide +kernel
theorem d9_26 : decode prog_29_method_22_code 26 = .ok (.aload_n 0, 1) := by decide +kernel
theorem d9_27 : decode prog_29_method_22_code 27 = .ok (.dup, 1) := by decide +kernel
theorem d9_28 : decode prog_29_method_22_code 28 = .ok (.getfield 35, 3) := by decide +kernel
theorem d9_31 : decode prog_29_method_22_code 31 = .ok (.aload_n 1, 1) := by decide +kernel
theorem d9_32 : decode prog_29_method_22_code 32 = .ok (.arraylength, 1) := by decide +kernel
theorem d9_33 : decode prog_29_method_22_code 33 = .ok (.iadd, 1) := by decide +kernel
theorem d9_34 : decode prog_29_method_22_code 34 = .ok (.putfield 35, 3) := by decide +kernel
theorem d9_37 : decode prog_29_method_22_code 37 = .ok (.return_, 1) := by decide +kernel
theorem d10_0 : decode prog_29_method_23_code 0 = .ok (.iload_n 1, 1) := by decide +kernel
theorem d10_1 : decode prog_29_method_23_code 1 = .ok (.aload_n 0, 1) := by decide +kernel
theorem d10_2 : decode prog_29_method_23_code 2 = .ok (.getfield 16, 3) := by decide +kernel
theorem d10_5 : decode prog_29_method_23_code 5 = .ok (.arraylength, 1) := by decide +kernel
theorem d10_6 : decode prog_29_method_23_code 6 = .ok (.if_icmp .le 25, 3) := by decide +kernel
theorem d10_9 : decode prog_29_method_23_code 9 = .ok (.aload_n 0, 1) := by decide +kernel
theorem d10_10 : decode prog_29_method_23_code 10 = .ok (.aload_n 0, 1) := by decide +kernel
theorem d10_11 : decode prog_29_method_23_code 11 = .ok (.getfield 16, 3) := by decide +kernel
theorem d10_14 : decode prog_29_method_23_code 14 = .ok (.iload_n 1, 1) := by decide +kernel
theorem d10_15 : decode prog_29_method_23_code 15 = .ok (.aload_n 0, 1) := by decide +kernel
theorem d10_16 : decode prog_29_method_23_code 16 = .ok (.getfield 16, 3) := by decide +kernel
theorem d10_19 : decode prog_29_method_23_code 19 = .ok (.arraylength, 1) := by decide +kernel
theorem d10_20 : decode prog_29_method_23_code 20 = .ok (.iconst 2, 1) := by decide +kernel
theorem d10_21 : decode prog_29_method_23_code 21 = .ok (.imul, 1) := by decide +kernel
theorem d10_22 : decode prog_29_method_23_code 22 = .ok (.invokestatic 210, 3) := by decide +kernel
theorem d10_25 : decode prog_29_method_23_code 25 = .ok (.invokestatic 138, 3) := by decide +kernel
theorem d10_28 : decode prog_29_method_23_code 28 = .ok (.putfield 16, 3) := by decide +kernel
theorem d10_31 : decode prog_29_method_23_code 31 = .ok (.return_, 1) := by decide +kernel
theorem d11_0 : decode prog_29_method_14_code 0 = .ok (.aload_n 0, 1) := by decide +kernel
theorem d11_1 : decode prog_29_method_14_code 1 = .ok (.getfield 16, 3) := by decide +kernel
theorem d11_4 : decode prog_29_method_14_code 4 = .ok (.aload_n 0, 1) := by decide +kernel
theorem d11_5 : decode prog_29_method_14_code 5 = .ok (.getfield 35, 3) := by decide +kernel
theorem d11_8 : decode prog_29_method_14_code 8 = .ok (.invokestatic 138, 3) := by decide +kernel
theorem d11_11 : decode prog_29_method_14_code 11 = .ok (.areturn, 1) := by decide +kernel
theorem d12_0 : decode jdk_65_method_121_code 0 = .ok (.iload_n 1, 1) := by decide +kernel
theorem d12_1 : decode jdk_65_method_121_code 1 = .ok (.aload_n 0, 1) := by decide +kernel
theorem d12_2 : decode jdk_65_method_121_code 2 = .ok (.arraylength, 1) := by decide +kernel
theorem d12_3 : decode jdk_65_method_121_code 3 = .ok (.if_icmp .ne 11, 3) := by decide +kernel
theorem d12_14 : decode jdk_65_method_121_code 14 = .ok (.iload_n 1, 1) := by decide +kernel
theorem d12_15 : decode jdk_65_method_121_code 15 = .ok (.newarray .byte, 2) := by decide +kernel
theorem d12_17 : decode jdk_65_method_121_code 17 = .ok (.astore_n 2, 1) := by decide +kernel
theorem d12_18 : decode jdk_65_method_121_code 18 = .ok (.aload_n 0, 1) := by decide +kernel
theorem d12_19 : decode jdk_65_method_121_code 19 = .ok (.iconst 0, 1) := by decide +kernel
theorem d12_20 : decode jdk_65_method_121_code 20 = .ok (.aload_n 2, 1) := by decide +kernel
theorem d12_21 : decode jdk_65_method_121_code 21 = .ok (.iconst 0, 1) := by decide +kernel
theorem d12_22 : decode jdk_65_method_121_code 22 = .ok (.aload_n 0, 1) := by decide +kernel
theorem d12_23 : decode jdk_65_method_121_code 23 = .ok (.arraylength, 1) := by decide +kernel
theorem d12_24 : decode jdk_65_method_121_code 24 = .ok (.iload_n 1, 1) := by decide +kernel
theorem d12_25 : decode jdk_65_method_121_code 25 = .ok (.invokestatic 304, 3) := by decide +kernel
theorem d12_28 : decode jdk_65_method_121_code 28 = .ok (.invokestatic 150, 3) := by decide +kernel
theorem d12_31 : decode jdk_65_method_121_code 31 = .ok (.aload_n 2, 1) := by decide +kernel
theorem d12_32 : decode jdk_65_method_121_code 32 = .ok (.areturn, 1) := by decide +kernel
theorem d13_0 : decode jdk_29_method_69_code 0 = .ok (.iload_n 0, 1) := by decide +kernel
theorem d13_1 : decode jdk_29_method_69_code 1 = .ok (.iload_n 1, 1) := by decide +kernel
theorem d13_2 : decode jdk_29_method_69_code 2 = .ok (.if_icmp .gt 7, 3) := by decide +kernel
theorem d13_5 : decode jdk_29_method_69_code 5 = .ok (.iload_n 0, 1) := by decide +kernel
theorem d13_6 : decode jdk_29_method_69_code 6 = .ok (.goto 4, 3) := by decide +kernel
theorem d13_9 : decode jdk_29_method_69_code 9 = .ok (.iload_n 1, 1) := by decide +kernel
theorem d13_10 : decode jdk_29_method_69_code 10 = .ok (.ireturn, 1) := by decide +kernel
theorem d14_0 : decode method_2_code 0 = .ok (.iload_n 1, 1) := by decide +kernel
theorem d14_1 : decode method_2_code 1 = .ok (.iconst 2, 1) := by decide +kernel
theorem d14_2 : decode method_2_code 2 = .ok (.iload_n 2, 1) := by decide +kernel
theorem d14_3 : decode method_2_code 3 = .ok (.imul, 1) := by decide +kernel
theorem d14_4 : decode method_2_code 4 = .ok (.iadd, 1) := by decide +kernel
theorem d14_5 : decode method_2_code 5 = .ok (.istore 7, 2) := by decide +kernel
theorem d14_7 : decode method_2_code 7 = .ok (.aload_n 0, 1) := by decide +kernel
theorem d14_8 : decode method_2_code 8 = .ok (.arraylength, 1) := by decide +kernel
theorem d14_9 : decode method_2_code 9 = .ok (.iload 7, 2) := by decide +kernel
theorem d14_11 : decode method_2_code 11 = .ok (.if_icmp .eq 5, 3) := by decide +kernel
theorem d14_16 : decode method_2_code 16 = .ok (.iload_n 2, 1) := by decide +kernel
theorem d14_17 : decode method_2_code 17 = .ok (.iconst 1, 1) := by decide +kernel
theorem d14_18 : decode method_2_code 18 = .ok (.if_icmp .ne 24, 3) := by decide +kernel
theorem d14_21 : decode method_2_code 21 = .ok (.aload_n 0, 1) := by decide +kernel
theorem d14_22 : decode method_2_code 22 = .ok (.iconst 0, 1) := by decide +kernel
theorem d14_23 : decode method_2_code 23 = .ok (.baload, 1) := by decide +kernel
theorem d14_24 : decode method_2_code 24 = .ok (.bipush 91, 2) := by decide +kernel
theorem d14_26 : decode method_2_code 26 = .ok (.if_icmp .ne 14, 3) := by decide +kernel
theorem d14_29 : decode method_2_code 29 = .ok (.aload_n 0, 1) := by decide +kernel
theorem d14_30 : decode method_2_code 30 = .ok (.iload 7, 2) := by decide +kernel
theorem d14_32 : decode method_2_code 32 = .ok (.iconst 1, 1) := by decide +kernel
theorem d14_33 : decode method_2_code 33 = .ok (.isub, 1) := by decide +kernel
theorem d14_34 : decode method_2_code 34 = .ok (.baload, 1) := by decide +kernel
theorem d14_35 : decode method_2_code 35 = .ok (.bipush 93, 2) := by decide +kernel
theorem d14_37 : decode method_2_code 37 = .ok (.if_icmp .eq 5, 3) := by decide +kernel
theorem d14_42 : decode method_2_code 42 = .ok (.iload_n 1, 1) := by decide +kernel
theorem d14_43 : decode method_2_code 43 = .ok (.iconst 1, 1) := by decide +kernel
theorem d14_44 : decode method_2_code 44 = .ok (.if_icmp .lt 12, 3) := by decide +kernel
theorem d14_47 : decode method_2_code 47 = .ok (.aload_n 0, 1) := by decide +kernel
theorem d14_48 : decode method_2_code 48 = .ok (.iload_n 2, 1) := by decide +kernel
theorem d14_49 : decode method_2_code 49 = .ok (.baload, 1) := by decide +kernel
theorem d14_50 : decode method_2_code 50 = .ok (.iload_n 3, 1) := by decide +kernel
theorem d14_51 : decode method_2_code 51 = .ok (.if_icmp .eq 5, 3) := by decide +kernel
theorem d14_56 : decode method_2_code 56 = .ok (.iload_n 1, 1) := by decide +kernel
theorem d14_57 : decode method_2_code 57 = .ok (.iconst 2, 1) := by decide +kernel
theorem d14_58 : decode method_2_code 58 = .ok (.if_icmp .lt 15, 3) := by decide +kernel
theorem d14_61 : decode method_2_code 61 = .ok (.aload_n 0, 1) := by decide +kernel
theorem d14_62 : decode method_2_code 62 = .ok (.iload_n 2, 1) := by decide +kernel
theorem d14_63 : decode method_2_code 63 = .ok (.iconst 1, 1) := by decide +kernel
theorem d14_64 : decode method_2_code 64 = .ok (.iadd, 1) := by decide +kernel
theorem d14_65 : decode method_2_code 65 = .ok (.baload, 1) := by decide +kernel
theorem d14_66 : decode method_2_code 66 = .ok (.iload 4, 2) := by decide +kernel
theorem d14_68 : decode method_2_code 68 = .ok (.if_icmp .eq 5, 3) := by decide +kernel
theorem d14_73 : decode method_2_code 73 = .ok (.iload_n 1, 1) := by decide +kernel
theorem d14_74 : decode method_2_code 74 = .ok (.iconst 3, 1) := by decide +kernel
theorem d14_75 : decode method_2_code 75 = .ok (.if_icmp .lt 17, 3) := by decide +kernel
theorem d14_78 : decode method_2_code 78 = .ok (.aload_n 0, 1) := by decide +kernel
theorem d14_79 : decode method_2_code 79 = .ok (.iload_n 2, 1) := by decide +kernel
theorem d14_80 : decode method_2_code 80 = .ok (.iload_n 1, 1) := by decide +kernel
theorem d14_81 : decode method_2_code 81 = .ok (.iadd, 1) := by decide +kernel
theorem d14_82 : decode method_2_code 82 = .ok (.iconst 1, 1) := by decide +kernel
theorem d14_83 : decode method_2_code 83 = .ok (.isub, 1) := by decide +kernel
theorem d14_84 : decode method_2_code 84 = .ok (.baload, 1) := by decide +kernel
theorem d14_85 : decode method_2_code 85 = .ok (.iload 5, 2) := by decide +kernel
theorem d14_87 : decode method_2_code 87 = .ok (.if_icmp .eq 5, 3) := by decide +kernel
theorem d14_92 : decode method_2_code 92 = .ok (.iload 6, 2) := by decide +kernel
theorem d14_94 : decode method_2_code 94 = .ok (.ifCond .eq 15, 3) := by decide +kernel
theorem d14_97 : decode method_2_code 97 = .ok (.aload_n 0, 1) := by decide +kernel
theorem d14_98 : decode method_2_code 98 = .ok (.iload_n 2, 1) := by decide +kernel
theorem d14_99 : decode method_2_code 99 = .ok (.sipush 300, 3) := by decide +kernel
theorem d14_102 : decode method_2_code 102 = .ok (.iadd, 1) := by decide +kernel
theorem d14_103 : decode method_2_code 103 = .ok (.baload, 1) := by decide +kernel
theorem d14_104 : decode method_2_code 104 = .ok (.ifCond .eq 5, 3) := by decide +kernel
theorem d14_109 : decode method_2_code 109 = .ok (.iconst 1, 1) := by decide +kernel
theorem d14_110 : decode method_2_code 110 = .ok (.ireturn, 1) := by decide +kernel
theorem d15_0 : decode jdk_29_method_65_code 0 = .ok (.iload_n 0, 1) := by decide +kernel
theorem d15_1 : decode jdk_29_method_65_code 1 = .ok (.iload_n 1, 1) := by decide +kernel
theorem d15_2 : decode jdk_29_method_65_code 2 = .ok (.if_icmp .lt 7, 3) := by decide +kernel
theorem d15_5 : decode jdk_29_method_65_code 5 = .ok (.iload_n 0, 1) := by decide +kernel
theorem d15_6 : decode jdk_29_method_65_code 6 = .ok (.goto 4, 3) := by decide +kernel
theorem d15_9 : decode jdk_29_method_65_code 9 = .ok (.iload_n 1, 1) := by decide +kernel
theorem d15_10 : decode jdk_29_method_65_code 10 = .ok (.ireturn, 1) := by decide +kernel
theorem d16_0 : decode prog_29_method_5_code 0 = .ok (.aload_n 0, 1) := by decide +kernel
theorem d16_1 : decode prog_29_method_5_code 1 = .ok (.invokevirtual 38, 3) := by decide +kernel
theorem d16_4 : decode prog_29_method_5_code 4 = .ok (.aload_n 0, 1) := by decide +kernel
theorem d16_5 : decode prog_29_method_5_code 5 = .ok (.bipush 91, 2) := by decide +kernel
theorem d16_7 : decode prog_29_method_5_code 7 = .ok (.invokevirtual 41, 3) := by decide +kernel
theorem d16_10 : decode prog_29_method_5_code 10 = .ok (.aload_n 0, 1) := by decide +kernel
theorem d16_11 : decode prog_29_method_5_code 11 = .ok (.getstatic 59, 3) := by decide +kernel
theorem d16_14 : decode prog_29_method_5_code 14 = .ok (.invokevirtual 48, 3) := by decide +kernel
theorem d16_17 : decode prog_29_method_5_code 17 = .ok (.aload_n 0, 1) := by decide +kernel
theorem d16_18 : decode prog_29_method_5_code 18 = .ok (.areturn, 1) := by decide +kernel
theorem d17_0 : decode prog_29_method_21_code 0 = .ok (.aload_n 0, 1) := by decide +kernel
theorem d17_1 : decode prog_29_method_21_code 1 = .ok (.aload_n 0, 1) := by decide +kernel
theorem d17_2 : decode prog_29_method_21_code 2 = .ok (.getfield 35, 3) := by decide +kernel
theorem d17_5 : decode prog_29_method_21_code 5 = .ok (.iconst 1, 1) := by decide +kernel
theorem d17_6 : decode prog_29_method_21_code 6 = .ok (.iadd, 1) := by decide +kernel
theorem d17_7 : decode prog_29_method_21_code 7 = .ok (.invokevirtual 105, 3) := by decide +kernel
theorem d17_10 : decode prog_29_method_21_code 10 = .ok (.aload_n 0, 1) := by decide +kernel
theorem d17_11 : decode prog_29_method_21_code 11 = .ok (.getfield 16, 3) := by decide +kernel
theorem d17_14 : decode prog_29_method_21_code 14 = .ok (.aload_n 0, 1) := by decide +kernel
theorem d17_15 : decode prog_29_method_21_code 15 = .ok (.dup, 1) := by decide +kernel
theorem d17_16 : decode prog_29_method_21_code 16 = .ok (.getfield 35, 3) := by decide +kernel
theorem d17_19 : decode prog_29_method_21_code 19 = .ok (.dup_x1, 1) := by decide +kernel
theorem d17_20 : decode prog_29_method_21_code 20 = .ok (.iconst 1, 1) := by decide +kernel
theorem d17_21 : decode prog_29_method_21_code 21 = .ok (.iadd, 1) := by decide +kernel
theorem d17_22 : decode prog_29_method_21_code 22 = .ok (.putfield 35, 3) := by decide +kernel
theorem d17_25 : decode prog_29_method_21_code 25 = .ok (.iload_n 1, 1) := by decide +kernel
theorem d17_26 : decode prog_29_method_21_code 26 = .ok (.i2b, 1) := by decide +kernel
theorem d17_27 : decode prog_29_method_21_code 27 = .ok (.bastore, 1) := by decide +kernel
theorem d17_28 : decode prog_29_method_21_code 28 = .ok (.return_, 1) := by decide +kernel
theorem d18_0 : decode prog_29_method_17_code 0 = .ok (.aload_n 0, 1) := by decide +kernel
theorem d18_1 : decode prog_29_method_17_code 1 = .ok (.getfield 26, 3) := by decide +kernel
theorem d18_4 : decode prog_29_method_17_code 4 = .ok (.aload_n 0, 1) := by decide +kernel
theorem d18_5 : decode prog_29_method_17_code 5 = .ok (.getfield 22, 3) := by decide +kernel
theorem d18_8 : decode prog_29_method_17_code 8 = .ok (.arraylength, 1) := by decide +kernel
theorem d18_9 : decode prog_29_method_17_code 9 = .ok (.if_icmp .ne 23, 3) := by decide +kernel
theorem d18_32 : decode prog_29_method_17_code 32 = .ok (.aload_n 0, 1) := by decide +kernel
theorem d18_33 : decode prog_29_method_17_code 33 = .ok (.getfield 22, 3) := by decide +kernel
theorem d18_36 : decode prog_29_method_17_code 36 = .ok (.aload_n 0, 1) := by decide +kernel
theorem d18_37 : decode prog_29_method_17_code 37 = .ok (.dup, 1) := by decide +kernel
theorem d18_38 : decode prog_29_method_17_code 38 = .ok (.getfield 26, 3) := by decide +kernel
theorem d18_41 : decode prog_29_method_17_code 41 = .ok (.dup_x1, 1) := by decide +kernel
theorem d18_42 : decode prog_29_method_17_code 42 = .ok (.iconst 1, 1) := by decide +kernel
theorem d18_43 : decode prog_29_method_17_code 43 = .ok (.iadd, 1) := by decide +kernel
theorem d18_44 : decode prog_29_method_17_code 44 = .ok (.putfield 26, 3) := by decide +kernel
theorem d18_47 : decode prog_29_method_17_code 47 = .ok (.aload_n 1, 1) := by decide +kernel
theorem d18_48 : decode prog_29_method_17_code 48 = .ok (.aastore, 1) := by decide +kernel
theorem d18_49 : decode prog_29_method_17_code 49 = .ok (.return_, 1) := by decide +kernel
theorem d19_0 : decode prog_29_method_6_code 0 = .ok (.aload_n 0, 1) := by decide +kernel
theorem d19_1 : decode prog_29_method_6_code 1 = .ok (.getstatic 59, 3) := by decide +kernel
theorem d19_4 : decode prog_29_method_6_code 4 = .ok (.getstatic 62, 3) := by decide +kernel
theorem d19_7 : decode prog_29_method_6_code 7 = .ok (.invokevirtual 55, 3) := by decide +kernel
theorem d19_10 : decode prog_29_method_6_code 10 = .ok (.aload_n 0, 1) := by decide +kernel
theorem d19_11 : decode prog_29_method_6_code 11 = .ok (.bipush 93, 2) := by decide +kernel
theorem d19_13 : decode prog_29_method_6_code 13 = .ok (.invokevirtual 41, 3) := by decide +kernel
theorem d19_16 : decode prog_29_method_6_code 16 = .ok (.aload_n 0, 1) := by decide +kernel
theorem d19_17 : decode prog_29_method_6_code 17 = .ok (.areturn, 1) := by decide +kernel
theorem d20_0 : decode prog_29_method_18_code 0 = .ok (.aload_n 0, 1) := by decide +kernel
theorem d20_1 : decode prog_29_method_18_code 1 = .ok (.getfield 22, 3) := by decide +kernel
theorem d20_4 : decode prog_29_method_18_code 4 = .ok (.aload_n 0, 1) := by decide +kernel
theorem d20_5 : decode prog_29_method_18_code 5 = .ok (.getfield 26, 3) := by decide +kernel
theorem d20_8 : decode prog_29_method_18_code 8 = .ok (.iconst 1, 1) := by decide +kernel
theorem d20_9 : decode prog_29_method_18_code 9 = .ok (.isub, 1) := by decide +kernel
theorem d20_10 : decode prog_29_method_18_code 10 = .ok (.aaload, 1) := by decide +kernel
theorem d20_11 : decode prog_29_method_18_code 11 = .ok (.astore_n 3, 1) := by decide +kernel
theorem d20_12 : decode prog_29_method_18_code 12 = .ok (.aload_n 3, 1) := by decide +kernel
theorem d20_13 : decode prog_29_method_18_code 13 = .ok (.aload_n 1, 1) := by decide +kernel
theorem d20_14 : decode prog_29_method_18_code 14 = .ok (.if_acmp .eq 35, 3) := by decide +kernel
theorem d20_17 : decode prog_29_method_18_code 17 = .ok (.aload_n 3, 1) := by decide +kernel
theorem d20_18 : decode prog_29_method_18_code 18 = .ok (.aload_n 2, 1) := by decide +kernel
theorem d20_19 : decode prog_29_method_18_code 19 = .ok (.if_acmp .eq 30, 3) := by decide +kernel
theorem d20_49 : decode prog_29_method_18_code 49 = .ok (.aload_n 0, 1) := by decide +kernel
theorem d20_50 : decode prog_29_method_18_code 50 = .ok (.dup, 1) := by decide +kernel
theorem d20_51 : decode prog_29_method_18_code 51 = .ok (.getfield 26, 3) := by decide +kernel
theorem d20_54 : decode prog_29_method_18_code 54 = .ok (.iconst 1, 1) := by decide +kernel
theorem d20_55 : decode prog_29_method_18_code 55 = .ok (.isub, 1) := by decide +kernel
theorem d20_56 : decode prog_29_method_18_code 56 = .ok (.putfield 26, 3) := by decide +kernel
theorem d20_59 : decode prog_29_method_18_code 59 = .ok (.return_, 1) := by decide +kernel
theorem pd0 : parseMethodDescriptor "()V" = some ⟨[], none⟩ := by decide +kernel
theorem pd1 : parseMethodDescriptor "(I)V" = some ⟨[.int], none⟩ := by decide +kernel
theorem pd2 : parseMethodDescriptor "(II)I" = some ⟨[.int, .int], some .int⟩ := by decide +kernel
theorem pd3 : parseMethodDescriptor "([BI)[B" = some ⟨[(.array .byte), .int], some (.array .byte)⟩ := by decide +kernel
theorem pd4 : parseMethodDescriptor "()I" = some ⟨[], some .int⟩ := by decide +kernel
theorem pd5 : parseMethodDescriptor "([B)V" = some ⟨[(.array .byte)], none⟩ := by decide +kernel
theorem pd6 : parseMethodDescriptor "(C)V" = some ⟨[.char], none⟩ := by decide +kernel
theorem pd7 : parseMethodDescriptor "(Lcom/example/changeline/changeline/format/JsonOutput$Scope;)V" = some ⟨[(.object "com/example/changeline/changeline/format/JsonOutput$Scope")], none⟩ := by decide +kernel
theorem pd8 : parseMethodDescriptor "(Lcom/example/changeline/changeline/format/JsonOutput$Scope;Lcom/example/changeline/changeline/format/JsonOutput$Scope;)V" = some ⟨[(.object "com/example/changeline/changeline/format/JsonOutput$Scope"), (.object "com/example/changeline/changeline/format/JsonOutput$Scope")], none⟩ := by decide +kernel
theorem pd9 : parseMethodDescriptor "([B)Lcom/example/changeline/changeline/format/JsonOutput;" = some ⟨[(.array .byte)], some (.object "com/example/changeline/changeline/format/JsonOutput")⟩ := by decide +kernel
theorem pd10 : parseMethodDescriptor "()[B" = some ⟨[], some (.array .byte)⟩ := by decide +kernel
theorem pd11 : parseMethodDescriptor "([BIIBBBZ)Z" = some ⟨[(.array .byte), .int, .int, .byte, .byte, .byte, .boolean], some .boolean⟩ := by decide +kernel
theorem pd12 : parseMethodDescriptor "()Lcom/example/changeline/changeline/format/JsonOutput;" = some ⟨[], some (.object "com/example/changeline/changeline/format/JsonOutput")⟩ := by decide +kernel
theorem pn_8 : plainFor (⟨"java/lang/Enum", "ordinal", "()I"⟩ : MethodName) = true := plainFor_of_name (by first | (simp [plainName, overriddenIn]; done) | decide +kernel)
set_option maxRecDepth 65536 in
set_option maxHeartbeats 40000000 in
theorem ord {Z : State} {a0 : Array Value} (hw : HW a0 Z) (a : Addr) (w : Int32) (h0 : Heap) (n0 : Nat) (F : Fld Z h0 a "java/lang/Enum" "ordinal" "I" (.int w)) :
    MetW Z (⟨"java/lang/Enum", "ordinal", "()I"⟩ : MethodName) jdk_37_method_2_code 1 (some .int) [] ({ frames := 0, cells := 0, slots := 0, locals := 0 } : Room) #[(.ref a)] h0 n0 (fun v h => v = some (.int w) ∧ h = h0) := by
  refine k_body (f := (fun m => mkF m 0 #[.val (.ref a)] [])) pn_8 (fun m => by first | (simp [entryFrame, mkF, argsToLocals, Value.category, maxLocals]; done) | rfl) ?_
  intro Γ T G X
  show Go Γ n0 _ T (mkF Γ.m 0 #[.val (.ref a)] [])
  refine k_aloadN G X d8_0 (pc' := 1) rfl rfl rfl ?_
  refine k_getF G X (host := "") (Or.inl (w62 hw)) Via.refl F d8_1 (pc' := 4) rfl (fun T X => ?_)
  refine k_reti G X d8_4 rfl ?_ (by decide) (by decide)
  exact ⟨rfl, rfl⟩
theorem pn_15 : plainFor (⟨"java/lang/Math", "max", "(II)I"⟩ : MethodName) = true := Jvm.Free.JP.mathPlain rfl (by decide +kernel)
set_option maxRecDepth 65536 in
set_option maxHeartbeats 40000000 in
theorem m_max {Z : State} {a0 : Array Value} (hw : HW a0 Z) (a b : Int32) (h0 : Heap) (n0 : Nat) :
    MetW Z (⟨"java/lang/Math", "max", "(II)I"⟩ : MethodName) jdk_29_method_65_code 2 (some .int) [] ({ frames := 0, cells := 0, slots := 0, locals := 0 } : Room) #[(.int a), (.int b)] h0 n0 (fun v h => ∃ r, v = some (.int r) ∧ (b.toInt ≤ a.toInt → r.toInt = a.toInt) ∧ (a.toInt < b.toInt → r.toInt = b.toInt) ∧ h = h0) := by
  refine k_body (f := (fun m => mkF m 0 #[.val (.int a), .val (.int b)] [])) pn_15 (fun m => by first | (simp [entryFrame, mkF, argsToLocals, Value.category, maxLocals]; done) | rfl) ?_
  intro Γ T G X
  show Go Γ n0 _ T (mkF Γ.m 0 #[.val (.int a), .val (.int b)] [])
  refine k_iloadN G X d15_0 (pc' := 1) rfl rfl ?_
  refine k_iloadN G X d15_1 (pc' := 2) rfl rfl ?_
  refine k_icmp_lt G X d15_2 (pc' := 9) rfl (by decide) (pc'' := 5) rfl (fun c2 => ?_) (fun c2 => ?_)
  · refine k_iloadN G X d15_9 (pc' := 10) rfl rfl ?_
    refine k_reti G X d15_10 rfl ?_ (by decide) (by decide)
    exact ⟨_, rfl, by intros; first | rfl | omega, by intros; first | rfl | omega, rfl⟩
  · refine k_iloadN G X d15_5 (pc' := 6) rfl rfl ?_
    refine k_goto G X d15_6 (by decide) (pc' := 10) rfl ?_
    refine k_reti G X d15_10 rfl ?_ (by decide) (by decide)
    exact ⟨_, rfl, by intros; first | rfl | omega, by intros; first | rfl | omega, rfl⟩
theorem pn_13 : plainFor (⟨"java/lang/Math", "min", "(II)I"⟩ : MethodName) = true := Jvm.Free.JP.mathPlain rfl (by decide +kernel)
set_option maxRecDepth 65536 in
set_option maxHeartbeats 40000000 in
theorem m_min {Z : State} {a0 : Array Value} (hw : HW a0 Z) (a b : Int32) (h0 : Heap) (n0 : Nat) :
    MetW Z (⟨"java/lang/Math", "min", "(II)I"⟩ : MethodName) jdk_29_method_69_code 2 (some .int) [] ({ frames := 0, cells := 0, slots := 0, locals := 0 } : Room) #[(.int a), (.int b)] h0 n0 (fun v h => ∃ r, v = some (.int r) ∧ (b.toInt ≤ a.toInt → r.toInt = b.toInt) ∧ (a.toInt < b.toInt → r.toInt = a.toInt) ∧ h = h0) := by
  refine k_body (f := (fun m => mkF m 0 #[.val (.int a), .val (.int b)] [])) pn_13 (fun m => by first | (simp [entryFrame, mkF, argsToLocals, Value.category, maxLocals]; done) | rfl) ?_
  intro Γ T G X
  show Go Γ n0 _ T (mkF Γ.m 0 #[.val (.int a), .val (.int b)] [])
  refine k_iloadN G X d13_0 (pc' := 1) rfl rfl ?_
  refine k_iloadN G X d13_1 (pc' := 2) rfl rfl ?_
  refine k_icmp_gt G X d13_2 (pc' := 9) rfl (by decide) (pc'' := 5) rfl (fun c2 => ?_) (fun c2 => ?_)
  · refine k_iloadN G X d13_9 (pc' := 10) rfl rfl ?_
    refine k_reti G X d13_10 rfl ?_ (by decide) (by decide)
    exact ⟨_, rfl, by intros; first | rfl | omega, by intros; first | rfl | omega, rfl⟩
  · refine k_iloadN G X d13_5 (pc' := 6) rfl rfl ?_
    refine k_goto G X d13_6 (by decide) (pc' := 10) rfl ?_
    refine k_reti G X d13_10 rfl ?_ (by decide) (by decide)
    exact ⟨_, rfl, by intros; first | rfl | omega, by intros; first | rfl | omega, rfl⟩
theorem pn_4 : plainFor (⟨"java/util/AbstractMap", "<init>", "()V"⟩ : MethodName) = true := plainFor_of_name (by first | (simp [plainName, overriddenIn]; done) | decide +kernel)
set_option maxRecDepth 65536 in
set_option maxHeartbeats 40000000 in
theorem ihm4 {Z : State} {a0 : Array Value} (hw : HW a0 Z) (l : Addr) (h0 : Heap) (n0 : Nat) :
    MetW Z (⟨"java/util/AbstractMap", "<init>", "()V"⟩ : MethodName) jdk_71_method_1_code 1 none [] ({ frames := 1, cells := 0, slots := 0, locals := 12 } : Room) #[(.ref l)] h0 n0 (fun v h => v = none ∧ h = h0) := by
  refine k_body (f := (fun m => mkF m 0 #[.val (.ref l)] [])) pn_4 (fun m => by first | (simp [entryFrame, mkF, argsToLocals, Value.category, maxLocals]; done) | rfl) ?_
  intro Γ T G X
  show Go Γ n0 _ T (mkF Γ.m 0 #[.val (.ref l)] [])
  refine k_aloadN G X d4_0 (pc' := 1) rfl rfl rfl ?_
  refine k_initO G X (w22 hw) (w8 hw) (w9 hw) d4_1 (pc' := 4) rfl rfl (by decide) (wd := 0) rfl (by decide) (fun T X => ?_)
  refine k_retv G X d4_4 rfl ?_ (by decide) (by decide)
  exact ⟨rfl, rfl⟩
theorem pn_5 : plainFor (⟨"java/util/IdentityHashMap", "init", "(I)V"⟩ : MethodName) = true := plainFor_of_name (by first | (simp [plainName, overriddenIn]; done) | decide +kernel)
set_option maxRecDepth 65536 in
set_option maxHeartbeats 40000000 in
theorem ihm5 {Z : State} {a0 : Array Value} (hw : HW a0 Z) (mm : Addr) (h0 : Heap) (n0 : Nat) (ge_mm : n0 ≤ mm) (O : Old Z n0 h0) (E : Exa Z h0 mm "java/util/IdentityHashMap") (T_ : Fld Z h0 mm "java/util/IdentityHashMap" "table" "[Ljava/lang/Object;" .null) :
    MetW Z (⟨"java/util/IdentityHashMap", "init", "(I)V"⟩ : MethodName) jdk_2581_method_6_code 2 none [] ({ frames := 0, cells := 1, slots := 64, locals := 0 } : Room) #[(.ref mm), (.int (32 : Int32))] h0 n0 (fun v h => v = none ∧ Keep h0 h [mm]) := by
  refine k_body (f := (fun m => mkF m 0 #[.val (.ref mm), .val (.int (32 : Int32))] [])) pn_5 (fun m => by first | (simp [entryFrame, mkF, argsToLocals, Value.category, maxLocals]; done) | rfl) ?_
  intro Γ T G X
  have KP := Keep.refl h0 [mm]
  show Go Γ n0 _ T (mkF Γ.m 0 #[.val (.ref mm), .val (.int (32 : Int32))] [])
  refine k_aloadN G X d5_0 (pc' := 1) rfl rfl rfl ?_
  refine k_iconst G X d5_1 (pc' := 2) rfl (z := (2 : Int32)) (by decide) ?_
  refine k_iloadN G X d5_2 (pc' := 3) rfl rfl ?_
  refine k_imul G X d5_3 (pc' := 4) rfl (z := (64 : Int32)) (by decide) ?_
  refine k_newR G X (n := 64) (cap := 64) (w28 hw) (w29 hw) d5_4 (pc' := 7) rfl rfl (by decide) (by decide) (by decide) (by decide) (fun T h4 b4 k4 s_b4 E4 A_b4 O_b4 X => ?_)
  have ne_mm_b4 : mm ≠ b4 := Nat.ne_of_lt (Nat.lt_of_lt_of_eq E.lt s_b4)
  have ge_b4 : n0 ≤ b4 := Nat.le_trans (Jvm.OwnK.Old_le O) (Nat.le_of_eq s_b4)
  have sz_b4 : h0.size ≤ b4 := Nat.le_trans KP.1 (Nat.le_of_eq s_b4)
  replace E := E.ext E4
  replace T_ := T_.ext E4
  replace O := O.ext E4
  replace KP := KP.ext E4
  replace A_b4 : Arf Z h4 b4 k4 (.object "java/lang/Object") 64 (fun _ => .null) := A_b4
  refine k_putF G X (host := "") (Or.inl (w30 hw)) Via.refl T_ E (Or.inl (w31 hw)) (w11 hw) (ty := (.array (.object "java/lang/Object"))) (by decide) rfl rfl ge_mm d5_7 (pc' := 10) rfl (fun T h7 W7 X => ?_)
  replace E := E.wr W7
  replace T_ := T_.same W7
  replace O := O.wr W7 ge_mm
  replace KP := KP.wr W7 (Or.inl (List.mem_of_getElem? (i := 0) rfl))
  replace A_b4 := A_b4.other W7 (Ne.symm ne_mm_b4)
  refine k_retv G X d5_10 rfl ?_ (by decide) (by decide)
  exact ⟨rfl, KP⟩
theorem pn_3 : plainFor (⟨"java/util/IdentityHashMap", "<init>", "()V"⟩ : MethodName) = true := plainFor_of_name (by first | (simp [plainName, overriddenIn]; done) | decide +kernel)
set_option maxRecDepth 65536 in
set_option maxHeartbeats 40000000 in
theorem ihm3 {Z : State} {a0 : Array Value} (hw : HW a0 Z) (mm : Addr) (h0 : Heap) (n0 : Nat) (ge_mm : n0 ≤ mm) (O : Old Z n0 h0) (E : Exa Z h0 mm "java/util/IdentityHashMap") (T_ : Fld Z h0 mm "java/util/IdentityHashMap" "table" "[Ljava/lang/Object;" .null) :
    MetW Z (⟨"java/util/IdentityHashMap", "<init>", "()V"⟩ : MethodName) jdk_2581_method_3_code 1 none [] ({ frames := 2, cells := 1, slots := 64, locals := 24 } : Room) #[(.ref mm)] h0 n0 (fun v h => v = none ∧ Keep h0 h [mm]) := by
  refine k_body (f := (fun m => mkF m 0 #[.val (.ref mm)] [])) pn_3 (fun m => by first | (simp [entryFrame, mkF, argsToLocals, Value.category, maxLocals]; done) | rfl) ?_
  intro Γ T G X
  have KP := Keep.refl h0 [mm]
  show Go Γ n0 _ T (mkF Γ.m 0 #[.val (.ref mm)] [])
  refine k_aloadN G X d3_0 (pc' := 1) rfl rfl rfl ?_
  refine k_callI G X (argsL := []) (rest := []) rfl rfl (w16 hw) (w17 hw) (w20 hw) (w21 hw) (by decide) (ihm4 hw mm h0 n0) d3_1 pd0 rfl (pc' := 4) rfl rfl (wd := 0) rfl (by decide) (by decide) (by decide) (by decide) (fun T h1 v X q => ?_)
  obtain ⟨rfl, e1⟩ := q
  replace X := X.eq e1
  show Go Γ n0 _ T (mkF Γ.m 4 #[.val (.ref mm)] [])
  refine k_aloadN G X d3_4 (pc' := 5) rfl rfl rfl ?_
  refine k_bipush G X d3_5 (pc' := 7) rfl (z := (32 : Int32)) (by decide) ?_
  refine k_callP G X (argsL := [(.int (32 : Int32))]) (rest := []) rfl E (w23 hw) (w24 hw) (w26 hw) (w25 hw) (w12 hw) (w27 hw) (by decide) (ihm5 hw mm h0 n0 ge_mm O E T_) d3_7 pd1 rfl (pc' := 10) rfl rfl (wd := 0) rfl (by decide) (by decide) (by decide) (by decide) (fun T h7 v X q => ?_)
  obtain ⟨rfl, K7⟩ := q
  replace E := E.keep K7
  replace O := O.keep K7 (allS ge_mm (all0))
  replace KP := KP.trans K7 (allS (Or.inl (List.mem_of_getElem? (i := 0) rfl)) (all0))
  show Go Γ n0 _ T (mkF Γ.m 10 #[.val (.ref mm)] [])
  refine k_retv G X d3_10 rfl ?_ (by decide) (by decide)
  exact ⟨rfl, KP⟩
theorem pn_1 : plainFor (⟨"com/example/changeline/changeline/format/JsonOutput", "<init>", "()V"⟩ : MethodName) = true := plainFor_of_name (by first | (simp [plainName, overriddenIn]; done) | decide +kernel)
set_option maxRecDepth 65536 in
set_option maxHeartbeats 40000000 in
theorem jo_init {Z : State} {a0 : Array Value} (hw : HW a0 Z) (o aED : Addr) (h0 : Heap) (n0 : Nat) (ge_o : n0 ≤ o) (O : Old Z n0 h0) (E : Exa Z h0 o "com/example/changeline/changeline/format/JsonOutput") (FN : Fld Z h0 o "com/example/changeline/changeline/format/JsonOutput" "names" "Ljava/util/Map;" .null) (FB : Fld Z h0 o "com/example/changeline/changeline/format/JsonOutput" "bytes" "[B" .null) (FL : Fld Z h0 o "com/example/changeline/changeline/format/JsonOutput" "length" "I" (.int (0 : Int32))) (FS : Fld Z h0 o "com/example/changeline/changeline/format/JsonOutput" "scopes" "[Lcom/example/changeline/changeline/format/JsonOutput$Scope;" .null) (FD : Fld Z h0 o "com/example/changeline/changeline/format/JsonOutput" "depth" "I" (.int (0 : Int32))) (S_ED : Sta Z h0 "com/example/changeline/changeline/format/JsonOutput$Scope" "EMPTY_DOCUMENT" "Lcom/example/changeline/changeline/format/JsonOutput$Scope;" (.ref aED)) (EED : Exa Z h0 aED "com/example/changeline/changeline/format/JsonOutput$Scope") :
    MetW Z (⟨"com/example/changeline/changeline/format/JsonOutput", "<init>", "()V"⟩ : MethodName) prog_29_method_1_code 1 none [] ({ frames := 3, cells := 4, slots := 590, locals := 38 } : Room) #[(.ref o)] h0 n0 (fun v h => v = none ∧ Keep h0 h [o] ∧ Exa Z h o "com/example/changeline/changeline/format/JsonOutput" ∧ ∃ b sc kb ks, h0.size ≤ b ∧ h0.size ≤ sc ∧ b ≠ sc ∧ Fld Z h o "com/example/changeline/changeline/format/JsonOutput" "bytes" "[B" (.ref b) ∧ Fld Z h o "com/example/changeline/changeline/format/JsonOutput" "length" "I" (.int (0 : Int32)) ∧ Fld Z h o "com/example/changeline/changeline/format/JsonOutput" "scopes" "[Lcom/example/changeline/changeline/format/JsonOutput$Scope;" (.ref sc) ∧ Fld Z h o "com/example/changeline/changeline/format/JsonOutput" "depth" "I" (.int (1 : Int32)) ∧ Arf Z h b kb .byte 512 (fun _ => .int 0) ∧ Arf Z h sc ks (.object "com/example/changeline/changeline/format/JsonOutput$Scope") 8 (fun x => if x = 0 then .ref aED else (fun _ => .null) x) ∧ Ovr Z ks "com/example/changeline/changeline/format/JsonOutput$Scope") := by
  refine k_body (f := (fun m => mkF m 0 #[.val (.ref o)] [])) pn_1 (fun m => by first | (simp [entryFrame, mkF, argsToLocals, Value.category, maxLocals]; done) | rfl) ?_
  intro Γ T G X
  have KP := Keep.refl h0 [o]
  show Go Γ n0 _ T (mkF Γ.m 0 #[.val (.ref o)] [])
  refine k_aloadN G X d1_0 (pc' := 1) rfl rfl rfl ?_
  refine k_initO G X (w7 hw) (w8 hw) (w9 hw) d1_1 (pc' := 4) rfl rfl (by decide) (wd := 0) rfl (by decide) (fun T X => ?_)
  refine k_aloadN G X d1_4 (pc' := 5) rfl rfl rfl ?_
  refine k_new G X (w10 hw) (w11 hw) (w12 hw) d1_5 (pc' := 8) rfl (by decide) (by decide) (fun T h5 b5 s_b5 E5 X_b5 D5 X => ?_)
  have ne_o_b5 : o ≠ b5 := Nat.ne_of_lt (Nat.lt_of_lt_of_eq E.lt s_b5)
  have ne_aED_b5 : aED ≠ b5 := Nat.ne_of_lt (Nat.lt_of_lt_of_eq EED.lt s_b5)
  have ge_b5 : n0 ≤ b5 := Nat.le_trans (Jvm.OwnK.Old_le O) (Nat.le_of_eq s_b5)
  have sz_b5 : h0.size ≤ b5 := Nat.le_trans KP.1 (Nat.le_of_eq s_b5)
  replace E := E.ext E5
  replace FN := FN.ext E5
  replace FB := FB.ext E5
  replace FL := FL.ext E5
  replace FS := FS.ext E5
  replace FD := FD.ext E5
  replace O := O.ext E5
  replace KP := KP.ext E5
  replace S_ED := S_ED.ext E5
  replace EED := EED.ext E5
  have F_b5_table : Fld Z h5 b5 "java/util/IdentityHashMap" "table" "[Ljava/lang/Object;" .null := D5 (Or.inl (w31 hw)) (ty := (.array (.object "java/lang/Object"))) (by decide)
  refine k_dup G X d1_8 (pc' := 9) rfl rfl ?_
  refine k_callI G X (argsL := []) (rest := [(.ref b5), (.ref o)]) rfl rfl (w13 hw) (w14 hw) (w12 hw) (w15 hw) (by decide) (ihm3 hw b5 h5 n0 ge_b5 O X_b5 F_b5_table) d1_9 pd0 rfl (pc' := 12) rfl rfl (wd := 2) rfl (by decide) (by decide) (by decide) (by decide) (fun T h9 v X q => ?_)
  obtain ⟨rfl, K9⟩ := q
  replace S_ED := Sta_keepL S_ED K9 (allS (Pln_exa X_b5) (all0))
  replace E := E.keep K9
  replace FN := FN.keep K9 (by simp only [List.mem_cons, List.not_mem_nil, or_false, not_or]; exact ne_o_b5)
  replace FB := FB.keep K9 (by simp only [List.mem_cons, List.not_mem_nil, or_false, not_or]; exact ne_o_b5)
  replace FL := FL.keep K9 (by simp only [List.mem_cons, List.not_mem_nil, or_false, not_or]; exact ne_o_b5)
  replace FS := FS.keep K9 (by simp only [List.mem_cons, List.not_mem_nil, or_false, not_or]; exact ne_o_b5)
  replace FD := FD.keep K9 (by simp only [List.mem_cons, List.not_mem_nil, or_false, not_or]; exact ne_o_b5)
  replace O := O.keep K9 (allS ge_b5 (all0))
  replace KP := KP.trans K9 (allS (Or.inr sz_b5) (all0))
  replace EED := EED.keep K9
  replace X_b5 := X_b5.keep K9
  show Go Γ n0 _ T (mkF Γ.m 12 #[.val (.ref o)] [(.ref b5), (.ref o)])
  refine k_putF G X (host := "") (Or.inl (w32 hw)) Via.refl FN E (Or.inr ⟨(w33 hw), rfl, rfl⟩) (w2 hw) (ty := (.object "java/util/Map")) (by decide) rfl rfl ge_o d1_12 (pc' := 15) rfl (fun T h12 W12 X => ?_)
  replace E := E.wr W12
  replace FN := FN.same W12
  replace FB := FB.other W12 (Or.inr (slot_ne (Or.inl (w35 hw)) (Or.inr (w33 hw)) (by decide) (t := (.array .byte)) (t' := (.object "java/util/Map")) (by decide) (by decide)))
  replace FL := FL.other W12 (Or.inr (slot_ne (Or.inl (w71 hw)) (Or.inr (w33 hw)) (by decide) (t := .int) (t' := (.object "java/util/Map")) (by decide) (by decide)))
  replace FS := FS.other W12 (Or.inr (slot_ne (Or.inl (w39 hw)) (Or.inr (w33 hw)) (by decide) (t := (.array (.object "com/example/changeline/changeline/format/JsonOutput$Scope"))) (t' := (.object "java/util/Map")) (by decide) (by decide)))
  replace FD := FD.other W12 (Or.inr (slot_ne (Or.inl (w41 hw)) (Or.inr (w33 hw)) (by decide) (t := .int) (t' := (.object "java/util/Map")) (by decide) (by decide)))
  replace O := O.wr W12 ge_o
  replace KP := KP.wr W12 (Or.inl (List.mem_of_getElem? (i := 0) rfl))
  replace S_ED := S_ED.wr W12
  replace EED := EED.wr W12
  replace X_b5 := X_b5.wr W12
  refine k_aloadN G X d1_15 (pc' := 16) rfl rfl rfl ?_
  refine k_sipush G X d1_16 (pc' := 19) rfl (z := (512 : Int32)) (by decide) ?_
  refine k_newP G X (aty := .byte) (n := 512) (cap := 512) (w0 hw) d1_19 (pc' := 21) rfl rfl (by decide) (by decide) (by decide) (by decide) (fun T h19 b19 k19 s_b19 E19 A_b19 X => ?_)
  have ne_o_b19 : o ≠ b19 := Nat.ne_of_lt (Nat.lt_of_lt_of_eq E.lt s_b19)
  have ne_aED_b19 : aED ≠ b19 := Nat.ne_of_lt (Nat.lt_of_lt_of_eq EED.lt s_b19)
  have ne_b5_b19 : b5 ≠ b19 := Nat.ne_of_lt (Nat.lt_of_lt_of_eq X_b5.lt s_b19)
  have ge_b19 : n0 ≤ b19 := Nat.le_trans (Jvm.OwnK.Old_le O) (Nat.le_of_eq s_b19)
  have sz_b19 : h0.size ≤ b19 := Nat.le_trans KP.1 (Nat.le_of_eq s_b19)
  replace E := E.ext E19
  replace FN := FN.ext E19
  replace FB := FB.ext E19
  replace FL := FL.ext E19
  replace FS := FS.ext E19
  replace FD := FD.ext E19
  replace O := O.ext E19
  replace KP := KP.ext E19
  replace S_ED := S_ED.ext E19
  replace EED := EED.ext E19
  replace X_b5 := X_b5.ext E19
  replace A_b19 : Arf Z h19 b19 k19 .byte 512 (fun _ => (.int (0 : Int32))) := A_b19
  refine k_putF G X (host := "") (Or.inl (w34 hw)) Via.refl FB E (Or.inl (w35 hw)) (w2 hw) (ty := (.array .byte)) (by decide) rfl rfl ge_o d1_21 (pc' := 24) rfl (fun T h21 W21 X => ?_)
  replace E := E.wr W21
  replace FN := FN.other W21 (Or.inr (slot_ne (Or.inr (w33 hw)) (Or.inl (w35 hw)) (by decide) (t := (.object "java/util/Map")) (t' := (.array .byte)) (by decide) (by decide)))
  replace FB := FB.same W21
  replace FL := FL.other W21 (Or.inr (slot_ne (Or.inl (w71 hw)) (Or.inl (w35 hw)) (by decide) (t := .int) (t' := (.array .byte)) (by decide) (by decide)))
  replace FS := FS.other W21 (Or.inr (slot_ne (Or.inl (w39 hw)) (Or.inl (w35 hw)) (by decide) (t := (.array (.object "com/example/changeline/changeline/format/JsonOutput$Scope"))) (t' := (.array .byte)) (by decide) (by decide)))
  replace FD := FD.other W21 (Or.inr (slot_ne (Or.inl (w41 hw)) (Or.inl (w35 hw)) (by decide) (t := .int) (t' := (.array .byte)) (by decide) (by decide)))
  replace O := O.wr W21 ge_o
  replace KP := KP.wr W21 (Or.inl (List.mem_of_getElem? (i := 0) rfl))
  replace S_ED := S_ED.wr W21
  replace EED := EED.wr W21
  replace X_b5 := X_b5.wr W21
  replace A_b19 := A_b19.other W21 (Ne.symm ne_o_b19)
  refine k_aloadN G X d1_24 (pc' := 25) rfl rfl rfl ?_
  refine k_bipush G X d1_25 (pc' := 27) rfl (z := (8 : Int32)) (by decide) ?_
  refine k_newR G X (n := 8) (cap := 8) (w36 hw) (w37 hw) d1_27 (pc' := 30) rfl rfl (by decide) (by decide) (by decide) (by decide) (fun T h27 b27 k27 s_b27 E27 A_b27 O_b27 X => ?_)
  have ne_o_b27 : o ≠ b27 := Nat.ne_of_lt (Nat.lt_of_lt_of_eq E.lt s_b27)
  have ne_aED_b27 : aED ≠ b27 := Nat.ne_of_lt (Nat.lt_of_lt_of_eq EED.lt s_b27)
  have ne_b5_b27 : b5 ≠ b27 := Nat.ne_of_lt (Nat.lt_of_lt_of_eq X_b5.lt s_b27)
  have ne_b19_b27 : b19 ≠ b27 := Nat.ne_of_lt (Nat.lt_of_lt_of_eq A_b19.lt s_b27)
  have ge_b27 : n0 ≤ b27 := Nat.le_trans (Jvm.OwnK.Old_le O) (Nat.le_of_eq s_b27)
  have sz_b27 : h0.size ≤ b27 := Nat.le_trans KP.1 (Nat.le_of_eq s_b27)
  replace E := E.ext E27
  replace FN := FN.ext E27
  replace FB := FB.ext E27
  replace FL := FL.ext E27
  replace FS := FS.ext E27
  replace FD := FD.ext E27
  replace O := O.ext E27
  replace KP := KP.ext E27
  replace S_ED := S_ED.ext E27
  replace EED := EED.ext E27
  replace X_b5 := X_b5.ext E27
  replace A_b19 := A_b19.ext E27
  replace A_b27 : Arf Z h27 b27 k27 (.object "com/example/changeline/changeline/format/JsonOutput$Scope") 8 (fun _ => .null) := A_b27
  refine k_putF G X (host := "") (Or.inl (w38 hw)) Via.refl FS E (Or.inl (w39 hw)) (w2 hw) (ty := (.array (.object "com/example/changeline/changeline/format/JsonOutput$Scope"))) (by decide) rfl rfl ge_o d1_30 (pc' := 33) rfl (fun T h30 W30 X => ?_)
  replace E := E.wr W30
  replace FN := FN.other W30 (Or.inr (slot_ne (Or.inr (w33 hw)) (Or.inl (w39 hw)) (by decide) (t := (.object "java/util/Map")) (t' := (.array (.object "com/example/changeline/changeline/format/JsonOutput$Scope"))) (by decide) (by decide)))
  replace FB := FB.other W30 (Or.inr (slot_ne (Or.inl (w35 hw)) (Or.inl (w39 hw)) (by decide) (t := (.array .byte)) (t' := (.array (.object "com/example/changeline/changeline/format/JsonOutput$Scope"))) (by decide) (by decide)))
  replace FL := FL.other W30 (Or.inr (slot_ne (Or.inl (w71 hw)) (Or.inl (w39 hw)) (by decide) (t := .int) (t' := (.array (.object "com/example/changeline/changeline/format/JsonOutput$Scope"))) (by decide) (by decide)))
  replace FS := FS.same W30
  replace FD := FD.other W30 (Or.inr (slot_ne (Or.inl (w41 hw)) (Or.inl (w39 hw)) (by decide) (t := .int) (t' := (.array (.object "com/example/changeline/changeline/format/JsonOutput$Scope"))) (by decide) (by decide)))
  replace O := O.wr W30 ge_o
  replace KP := KP.wr W30 (Or.inl (List.mem_of_getElem? (i := 0) rfl))
  replace S_ED := S_ED.wr W30
  replace EED := EED.wr W30
  replace X_b5 := X_b5.wr W30
  replace A_b19 := A_b19.other W30 (Ne.symm ne_o_b19)
  replace A_b27 := A_b27.other W30 (Ne.symm ne_o_b27)
  refine k_aloadN G X d1_33 (pc' := 34) rfl rfl rfl ?_
  refine k_getF G X (host := "") (Or.inl (w38 hw)) Via.refl FS d1_34 (pc' := 37) rfl (fun T X => ?_)
  refine k_aloadN G X d1_37 (pc' := 38) rfl rfl rfl ?_
  refine k_dup G X d1_38 (pc' := 39) rfl rfl ?_
  refine k_getF G X (host := "") (Or.inl (w40 hw)) Via.refl FD d1_39 (pc' := 42) rfl (fun T X => ?_)
  refine k_dupx1 G X d1_42 (pc' := 43) rfl rfl rfl ?_
  refine k_iconst G X d1_43 (pc' := 44) rfl (z := (1 : Int32)) (by decide) ?_
  refine k_iadd G X d1_44 (pc' := 45) rfl (z := (1 : Int32)) (by decide) ?_
  refine k_putF G X (host := "") (Or.inl (w40 hw)) Via.refl FD E (Or.inl (w41 hw)) (w2 hw) (ty := .int) (by decide) rfl rfl ge_o d1_45 (pc' := 48) rfl (fun T h45 W45 X => ?_)
  replace E := E.wr W45
  replace FN := FN.other W45 (Or.inr (slot_ne (Or.inr (w33 hw)) (Or.inl (w41 hw)) (by decide) (t := (.object "java/util/Map")) (t' := .int) (by decide) (by decide)))
  replace FB := FB.other W45 (Or.inr (slot_ne (Or.inl (w35 hw)) (Or.inl (w41 hw)) (by decide) (t := (.array .byte)) (t' := .int) (by decide) (by decide)))
  replace FL := FL.other W45 (Or.inr (slot_ne (Or.inl (w71 hw)) (Or.inl (w41 hw)) (by decide) (t := .int) (t' := .int) (by decide) (by decide)))
  replace FS := FS.other W45 (Or.inr (slot_ne (Or.inl (w39 hw)) (Or.inl (w41 hw)) (by decide) (t := (.array (.object "com/example/changeline/changeline/format/JsonOutput$Scope"))) (t' := .int) (by decide) (by decide)))
  replace FD := FD.same W45
  replace O := O.wr W45 ge_o
  replace KP := KP.wr W45 (Or.inl (List.mem_of_getElem? (i := 0) rfl))
  replace S_ED := S_ED.wr W45
  replace EED := EED.wr W45
  replace X_b5 := X_b5.wr W45
  replace A_b19 := A_b19.other W45 (Ne.symm ne_o_b19)
  replace A_b27 := A_b27.other W45 (Ne.symm ne_o_b27)
  refine k_getS G X (host := "") (Or.inl (w42 hw)) Via.refl S_ED d1_48 (pc' := 51) rfl (fun T X => ?_)
  refine k_aastore G X (i := 0) A_b27 rfl rfl (by decide) (A_b27.sto O_b27 (Ins.self EED)) rfl ge_b27 d1_51 (pc' := 52) rfl (fun T h51 W51 A_b27 X => ?_)
  replace E := E.wr W51
  replace FN := FN.other W51 (Or.inl ne_o_b27)
  replace FB := FB.other W51 (Or.inl ne_o_b27)
  replace FL := FL.other W51 (Or.inl ne_o_b27)
  replace FS := FS.other W51 (Or.inl ne_o_b27)
  replace FD := FD.other W51 (Or.inl ne_o_b27)
  replace O := O.wr W51 ge_b27
  replace KP := KP.wr W51 (Or.inr sz_b27)
  replace S_ED := S_ED.wr W51
  replace EED := EED.wr W51
  replace X_b5 := X_b5.wr W51
  replace A_b19 := A_b19.other W51 ne_b19_b27
  refine k_retv G X d1_52 rfl ?_ (by decide) (by decide)
  exact ⟨rfl, KP, E, b19, b27, k19, k27, sz_b19, sz_b27, ne_b19_b27, FB, FL, FS, FD, A_b19, A_b27, O_b27⟩
theorem pn_10 : plainFor (⟨"com/example/changeline/changeline/format/JsonOutput", "ensure", "(I)V"⟩ : MethodName) = true := plainFor_of_name (by first | (simp [plainName, overriddenIn]; done) | decide +kernel)
set_option maxRecDepth 65536 in
set_option maxHeartbeats 40000000 in
theorem ens0 {Z : State} {a0 : Array Value} (hw : HW a0 Z) (o : Addr) (b : Addr) (kb : ClassId) (N : Nat) (zB : Int32) (f : Nat → Value) (z : Int32) (h0 : Heap) (n0 : Nat) (hB : zB.toInt = N) (FB : Fld Z h0 o "com/example/changeline/changeline/format/JsonOutput" "bytes" "[B" (.ref b)) (BA : Arf Z h0 b kb .byte N f) (hz : z.toInt ≤ N) :
    MetW Z (⟨"com/example/changeline/changeline/format/JsonOutput", "ensure", "(I)V"⟩ : MethodName) prog_29_method_23_code 2 none [] ({ frames := 0, cells := 0, slots := 0, locals := 0 } : Room) #[(.ref o), (.int z)] h0 n0 (fun v h => v = none ∧ h = h0) := by
  refine k_body (f := (fun m => mkF m 0 #[.val (.ref o), .val (.int z)] [])) pn_10 (fun m => by first | (simp [entryFrame, mkF, argsToLocals, Value.category, maxLocals]; done) | rfl) ?_
  intro Γ T G X
  show Go Γ n0 _ T (mkF Γ.m 0 #[.val (.ref o), .val (.int z)] [])
  refine k_iloadN G X d10_0 (pc' := 1) rfl rfl ?_
  refine k_aloadN G X d10_1 (pc' := 2) rfl rfl rfl ?_
  refine k_getF G X (host := "") (Or.inl (w34 hw)) Via.refl FB d10_2 (pc' := 5) rfl (fun T X => ?_)
  refine k_alen G X (z := zB) BA hB d10_5 (pc' := 6) rfl ?_
  refine k_icmp_le G X d10_6 (pc' := 31) rfl (by decide) (pc'' := 9) rfl (fun c6 => ?_) (fun c6 => (absurd c6 (by omega)))
  refine k_retv G X d10_31 rfl ?_ (by decide) (by decide)
  exact ⟨rfl, rfl⟩
theorem pn_12 : plainFor (⟨"java/util/Arrays", "copyOf", "([BI)[B"⟩ : MethodName) = true := plainFor_of_name (by first | (simp [plainName, overriddenIn]; done) | decide +kernel)
set_option maxRecDepth 65536 in
set_option maxHeartbeats 40000000 in
theorem cpof {Z : State} {a0 : Array Value} (hw : HW a0 Z) (b : Addr) (kb : ClassId) (N n : Nat) (zB z : Int32) (f : Nat → Value) (h0 : Heap) (n0 : Nat) (O : Old Z n0 h0) (hB : zB.toInt = N) (hz : z.toInt = n) (hne : n ≠ N) (hn : n ≤ 1024) (BA : Arf Z h0 b kb .byte N f) :
    MetW Z (⟨"java/util/Arrays", "copyOf", "([BI)[B"⟩ : MethodName) jdk_65_method_121_code 3 (some (.array .byte)) [] ({ frames := 1, cells := 1, slots := 1024, locals := 18 } : Room) #[(.ref b), (.int z)] h0 n0 (fun v h => ∃ r kr, v = some (.ref r) ∧ h0.size ≤ r ∧ Keep h0 h [] ∧ Arf Z h r kr .byte n (fun i => if i < N then f i else .int 0)) := by
  refine k_body (f := (fun m => mkF m 0 #[.val (.ref b), .val (.int z), .unset] [])) pn_12 (fun m => by first | (simp [entryFrame, mkF, argsToLocals, Value.category, maxLocals]; done) | rfl) ?_
  intro Γ T G X
  have KP := Keep.refl h0 []
  show Go Γ n0 _ T (mkF Γ.m 0 #[.val (.ref b), .val (.int z), .unset] [])
  refine k_iloadN G X d12_0 (pc' := 1) rfl rfl ?_
  refine k_aloadN G X d12_1 (pc' := 2) rfl rfl rfl ?_
  refine k_alen G X (z := zB) BA hB d12_2 (pc' := 3) rfl ?_
  refine k_icmp_ne G X d12_3 (pc' := 14) rfl (by decide) (pc'' := 6) rfl (fun c3 => ?_) (fun c3 => (absurd c3 (by intro q; rw [q] at hz; omega)))
  refine k_iloadN G X d12_14 (pc' := 15) rfl rfl ?_
  refine k_newP G X (aty := .byte) (n := n) (cap := 1024) (w0 hw) d12_15 (pc' := 17) rfl hz hn (by decide) (by decide) (by decide) (fun T h15 b15 k15 s_b15 E15 A_b15 X => ?_)
  have ne_b_b15 : b ≠ b15 := Nat.ne_of_lt (Nat.lt_of_lt_of_eq BA.lt s_b15)
  have ge_b15 : n0 ≤ b15 := Nat.le_trans (Jvm.OwnK.Old_le O) (Nat.le_of_eq s_b15)
  have sz_b15 : h0.size ≤ b15 := Nat.le_trans KP.1 (Nat.le_of_eq s_b15)
  replace O := O.ext E15
  replace BA := BA.ext E15
  replace KP := KP.ext E15
  replace A_b15 : Arf Z h15 b15 k15 .byte n (fun _ => (.int (0 : Int32))) := A_b15
  refine k_astoreN G X d12_17 (pc' := 18) rfl rfl (l' := #[.val (.ref b), .val (.int z), .val (.ref b15)]) rfl ?_
  refine k_aloadN G X d12_18 (pc' := 19) rfl rfl rfl ?_
  refine k_iconst G X d12_19 (pc' := 20) rfl (z := (0 : Int32)) (by decide) ?_
  refine k_aloadN G X d12_20 (pc' := 21) rfl rfl rfl ?_
  refine k_iconst G X d12_21 (pc' := 22) rfl (z := (0 : Int32)) (by decide) ?_
  refine k_aloadN G X d12_22 (pc' := 23) rfl rfl rfl ?_
  refine k_alen G X (z := zB) BA hB d12_23 (pc' := 24) rfl ?_
  refine k_iloadN G X d12_24 (pc' := 25) rfl rfl ?_
  refine k_callS G X (argsL := [(.int zB), (.int z)]) (rest := [(.int (0 : Int32)), (.ref b15), (.int (0 : Int32)), (.ref b)]) rfl (w89 hw) (w90 hw) (w91 hw) (w92 hw) (by decide) (m_min hw zB z h15 n0) d12_25 pd2 rfl (pc' := 28) rfl rfl (wd := 4) rfl (by decide) (by decide) (by decide) (by decide) (fun T h25 v X q => ?_)
  obtain ⟨r, rfl, q1, q2, e25⟩ := q
  replace X := X.eq e25
  have hr : r.toInt = (min N n : Nat) := by omega
  show Go Γ n0 _ T (mkF Γ.m 28 #[.val (.ref b), .val (.int z), .val (.ref b15)] [(.int r), (.int (0 : Int32)), (.ref b15), (.int (0 : Int32)), (.ref b)])
  refine k_copy G X (sp := 0) (dp := 0) (nn := (min N n)) BA A_b15 rfl (w93 hw) (w79 hw) (w77 hw) (w78 hw) rfl rfl hr (by omega) (by omega) ge_b15 d12_28 (pc' := 31) rfl rfl (by decide) (wd := 0) rfl (by decide) (fun T h28 K28 A_b15' X => ?_)
  replace O := O.keep K28 (allS ge_b15 (all0))
  replace BA := BA.keep K28 (by simp only [List.mem_cons, List.not_mem_nil, or_false, not_or]; exact ne_b_b15)
  replace KP := KP.trans K28 (allS (Or.inr sz_b15) (all0))
  have A_b15 := A_b15'
  refine k_aloadN G X d12_31 (pc' := 32) rfl rfl rfl ?_
  refine k_reta G X d12_32 (t := (.array .byte)) rfl rfl rfl ?_ (by decide) (by decide)
  exact ⟨b15, k15, rfl, sz_b15, KP, A_b15.congr fun i hi => by by_cases q : i < N <;> simp [q, hi] <;> omega⟩
set_option maxRecDepth 65536 in
set_option maxHeartbeats 40000000 in
theorem ens1 {Z : State} {a0 : Array Value} (hw : HW a0 Z) (o b sc : Addr) (kb : ClassId) (zL zD z : Int32) (f : Nat → Value) (h0 : Heap) (n0 : Nat) (ge_o : n0 ≤ o) (O : Old Z n0 h0) (E : Exa Z h0 o "com/example/changeline/changeline/format/JsonOutput") (FB : Fld Z h0 o "com/example/changeline/changeline/format/JsonOutput" "bytes" "[B" (.ref b)) (FL : Fld Z h0 o "com/example/changeline/changeline/format/JsonOutput" "length" "I" (.int zL)) (FS : Fld Z h0 o "com/example/changeline/changeline/format/JsonOutput" "scopes" "[Lcom/example/changeline/changeline/format/JsonOutput$Scope;" (.ref sc)) (FD : Fld Z h0 o "com/example/changeline/changeline/format/JsonOutput" "depth" "I" (.int zD)) (BA : Arf Z h0 b kb .byte 512 f) (ne_b_o : b ≠ o) (hz : 512 < z.toInt) (hz2 : z.toInt ≤ 1024) :
    MetW Z (⟨"com/example/changeline/changeline/format/JsonOutput", "ensure", "(I)V"⟩ : MethodName) prog_29_method_23_code 2 none [] ({ frames := 2, cells := 1, slots := 1024, locals := 33 } : Room) #[(.ref o), (.int z)] h0 n0 (fun v h => v = none ∧ Keep h0 h [o] ∧ Exa Z h o "com/example/changeline/changeline/format/JsonOutput" ∧ ∃ b' kb', h0.size ≤ b' ∧ Fld Z h o "com/example/changeline/changeline/format/JsonOutput" "bytes" "[B" (.ref b') ∧ Fld Z h o "com/example/changeline/changeline/format/JsonOutput" "length" "I" (.int zL) ∧ Fld Z h o "com/example/changeline/changeline/format/JsonOutput" "scopes" "[Lcom/example/changeline/changeline/format/JsonOutput$Scope;" (.ref sc) ∧ Fld Z h o "com/example/changeline/changeline/format/JsonOutput" "depth" "I" (.int zD) ∧ Arf Z h b' kb' .byte 1024 (fun i => if i < 512 then f i else .int 0)) := by
  refine k_body (f := (fun m => mkF m 0 #[.val (.ref o), .val (.int z)] [])) pn_10 (fun m => by first | (simp [entryFrame, mkF, argsToLocals, Value.category, maxLocals]; done) | rfl) ?_
  intro Γ T G X
  have KP := Keep.refl h0 [o]
  have e512 : (512 : Int32).toInt = 512 := rfl
  show Go Γ n0 _ T (mkF Γ.m 0 #[.val (.ref o), .val (.int z)] [])
  refine k_iloadN G X d10_0 (pc' := 1) rfl rfl ?_
  refine k_aloadN G X d10_1 (pc' := 2) rfl rfl rfl ?_
  refine k_getF G X (host := "") (Or.inl (w34 hw)) Via.refl FB d10_2 (pc' := 5) rfl (fun T X => ?_)
  refine k_alen G X (z := (512 : Int32)) BA rfl d10_5 (pc' := 6) rfl ?_
  refine k_icmp_le G X d10_6 (pc' := 31) rfl (by decide) (pc'' := 9) rfl (fun c6 => (absurd c6 (by omega))) (fun c6 => ?_)
  refine k_aloadN G X d10_9 (pc' := 10) rfl rfl rfl ?_
  refine k_aloadN G X d10_10 (pc' := 11) rfl rfl rfl ?_
  refine k_getF G X (host := "") (Or.inl (w34 hw)) Via.refl FB d10_11 (pc' := 14) rfl (fun T X => ?_)
  refine k_iloadN G X d10_14 (pc' := 15) rfl rfl ?_
  refine k_aloadN G X d10_15 (pc' := 16) rfl rfl rfl ?_
  refine k_getF G X (host := "") (Or.inl (w34 hw)) Via.refl FB d10_16 (pc' := 19) rfl (fun T X => ?_)
  refine k_alen G X (z := (512 : Int32)) BA rfl d10_19 (pc' := 20) rfl ?_
  refine k_iconst G X d10_20 (pc' := 21) rfl (z := (2 : Int32)) (by decide) ?_
  refine k_imul G X d10_21 (pc' := 22) rfl (z := (1024 : Int32)) (by decide) ?_
  refine k_callS G X (argsL := [(.int z), (.int (1024 : Int32))]) (rest := [(.ref b), (.ref o)]) rfl (w98 hw) (w99 hw) (w91 hw) (w100 hw) (by decide) (m_max hw z (1024 : Int32) h0 n0) d10_22 pd2 rfl (pc' := 25) rfl rfl (wd := 2) rfl (by decide) (by decide) (by decide) (by decide) (fun T h22 v X q => ?_)
  obtain ⟨r, rfl, q1, q2, e22⟩ := q
  replace X := X.eq e22
  have e1024 : (1024 : Int32).toInt = 1024 := rfl
  have hr : r.toInt = (1024 : Nat) := by omega
  show Go Γ n0 _ T (mkF Γ.m 25 #[.val (.ref o), .val (.int z)] [(.int r), (.ref b), (.ref o)])
  refine k_callS G X (argsL := [(.ref b), (.int r)]) (rest := [(.ref o)]) rfl (w85 hw) (w86 hw) (w87 hw) (w88 hw) (by decide) (cpof hw b kb 512 1024 (512 : Int32) r f h0 n0 O rfl hr (by decide) (by decide) BA) d10_25 pd3 rfl (pc' := 28) rfl rfl (wd := 1) rfl (by decide) (by decide) (by decide) (by decide) (fun T h25 v X q => ?_)
  obtain ⟨r', kr, rfl, sz_r, K25, RA⟩ := q
  have ne_o_r : o ≠ r' := Nat.ne_of_lt (Nat.lt_of_lt_of_le E.lt sz_r)
  have ge_r : n0 ≤ r' := Nat.le_trans (Old_le O) sz_r
  replace O := O.keep K25 (all0)
  replace E := E.keep K25
  replace FB := FB.keep K25 nin0
  replace FL := FL.keep K25 nin0
  replace FS := FS.keep K25 nin0
  replace FD := FD.keep K25 nin0
  replace BA := BA.keep K25 nin0
  replace KP := KP.trans K25 (all0)
  show Go Γ n0 _ T (mkF Γ.m 28 #[.val (.ref o), .val (.int z)] [(.ref r'), (.ref o)])
  refine k_putF G X (host := "") (Or.inl (w34 hw)) Via.refl FB E (Or.inl (w35 hw)) (w2 hw) (ty := (.array .byte)) (by decide) rfl rfl ge_o d10_28 (pc' := 31) rfl (fun T h28 W28 X => ?_)
  replace O := O.wr W28 ge_o
  replace E := E.wr W28
  replace FB := FB.same W28
  replace FL := FL.other W28 (Or.inr (slot_ne (Or.inl (w71 hw)) (Or.inl (w35 hw)) (by decide) (t := .int) (t' := (.array .byte)) (by decide) (by decide)))
  replace FS := FS.other W28 (Or.inr (slot_ne (Or.inl (w39 hw)) (Or.inl (w35 hw)) (by decide) (t := (.array (.object "com/example/changeline/changeline/format/JsonOutput$Scope"))) (t' := (.array .byte)) (by decide) (by decide)))
  replace FD := FD.other W28 (Or.inr (slot_ne (Or.inl (w41 hw)) (Or.inl (w35 hw)) (by decide) (t := .int) (t' := (.array .byte)) (by decide) (by decide)))
  replace BA := BA.other W28 ne_b_o
  replace KP := KP.wr W28 (Or.inl (List.mem_of_getElem? (i := 0) rfl))
  replace RA := RA.other W28 (Ne.symm ne_o_r)
  refine k_retv G X d10_31 rfl ?_ (by decide) (by decide)
  exact ⟨rfl, KP, E, r', kr, sz_r, FB, FL, FS, FD, RA⟩
theorem pn_9 : plainFor (⟨"com/example/changeline/changeline/format/JsonOutput", "put", "([B)V"⟩ : MethodName) = true := plainFor_of_name (by first | (simp [plainName, overriddenIn]; done) | decide +kernel)
set_option maxRecDepth 65536 in
set_option maxHeartbeats 40000000 in
theorem put0 {Z : State} {a0 : Array Value} (hw : HW a0 Z) (o b x sc : Addr) (kb kx : ClassId) (L XN N : Nat) (zL zX zN zB zD : Int32) (f g : Nat → Value) (h0 : Heap) (n0 : Nat) (ge_o : n0 ≤ o) (ge_b : n0 ≤ b) (O : Old Z n0 h0) (E : Exa Z h0 o "com/example/changeline/changeline/format/JsonOutput") (FB : Fld Z h0 o "com/example/changeline/changeline/format/JsonOutput" "bytes" "[B" (.ref b)) (FL : Fld Z h0 o "com/example/changeline/changeline/format/JsonOutput" "length" "I" (.int zL)) (FS : Fld Z h0 o "com/example/changeline/changeline/format/JsonOutput" "scopes" "[Lcom/example/changeline/changeline/format/JsonOutput$Scope;" (.ref sc)) (FD : Fld Z h0 o "com/example/changeline/changeline/format/JsonOutput" "depth" "I" (.int zD)) (hL : zL.toInt = L) (hX : zX.toInt = XN) (hN : zN.toInt = (L + XN : Nat)) (hB : zB.toInt = N) (BA : Arf Z h0 b kb .byte N f) (XA : Arf Z h0 x kx .byte XN g) (ne_b_o : b ≠ o) (ne_x_o : x ≠ o) (ne_x_b : x ≠ b) (hfit : L + XN ≤ N) :
    MetW Z (⟨"com/example/changeline/changeline/format/JsonOutput", "put", "([B)V"⟩ : MethodName) prog_29_method_22_code 2 none [] ({ frames := 1, cells := 0, slots := 0, locals := 18 } : Room) #[(.ref o), (.ref x)] h0 n0 (fun v h => v = none ∧ Keep h0 h [o, b] ∧ Exa Z h o "com/example/changeline/changeline/format/JsonOutput" ∧ Fld Z h o "com/example/changeline/changeline/format/JsonOutput" "bytes" "[B" (.ref b) ∧ Fld Z h o "com/example/changeline/changeline/format/JsonOutput" "length" "I" (.int zN) ∧ Fld Z h o "com/example/changeline/changeline/format/JsonOutput" "scopes" "[Lcom/example/changeline/changeline/format/JsonOutput$Scope;" (.ref sc) ∧ Fld Z h o "com/example/changeline/changeline/format/JsonOutput" "depth" "I" (.int zD) ∧ Arf Z h b kb .byte N (fun i => if L ≤ i ∧ i < L + XN then g (0 + (i - L)) else f i)) := by
  refine k_body (f := (fun m => mkF m 0 #[.val (.ref o), .val (.ref x)] [])) pn_9 (fun m => by first | (simp [entryFrame, mkF, argsToLocals, Value.category, maxLocals]; done) | rfl) ?_
  intro Γ T G X
  have KP := Keep.refl h0 [o, b]
  have hsum : zL + zX = zN := of_toInt (by rw [iadd_toInt (by omega) (by have := rgI zN; omega)]; omega)
  show Go Γ n0 _ T (mkF Γ.m 0 #[.val (.ref o), .val (.ref x)] [])
  refine k_aloadN G X d9_0 (pc' := 1) rfl rfl rfl ?_
  refine k_aloadN G X d9_1 (pc' := 2) rfl rfl rfl ?_
  refine k_getF G X (host := "") (Or.inl (w70 hw)) Via.refl FL d9_2 (pc' := 5) rfl (fun T X => ?_)
  refine k_aloadN G X d9_5 (pc' := 6) rfl rfl rfl ?_
  refine k_alen G X (z := zX) XA hX d9_6 (pc' := 7) rfl ?_
  refine k_iadd G X d9_7 (pc' := 8) rfl rfl ?_
  rw [hsum]
  refine k_callP G X (argsL := [(.int zN)]) (rest := []) rfl E (w72 hw) (w73 hw) (selP (w2 hw) (w74 hw) (w73 hw) (by decide)) (w74 hw) (w3 hw) (w75 hw) (by decide) (ens0 hw o b kb N zB f zN h0 n0 hB FB BA (by omega)) d9_8 pd1 rfl (pc' := 11) rfl rfl (wd := 0) rfl (by decide) (by decide) (by decide) (by decide) (fun T h8 v X q => ?_)
  obtain ⟨rfl, e8⟩ := q
  replace X := X.eq e8
  show Go Γ n0 _ T (mkF Γ.m 11 #[.val (.ref o), .val (.ref x)] [])
  refine k_aloadN G X d9_11 (pc' := 12) rfl rfl rfl ?_
  refine k_iconst G X d9_12 (pc' := 13) rfl (z := (0 : Int32)) (by decide) ?_
  refine k_aloadN G X d9_13 (pc' := 14) rfl rfl rfl ?_
  refine k_getF G X (host := "") (Or.inl (w34 hw)) Via.refl FB d9_14 (pc' := 17) rfl (fun T X => ?_)
  refine k_aloadN G X d9_17 (pc' := 18) rfl rfl rfl ?_
  refine k_getF G X (host := "") (Or.inl (w70 hw)) Via.refl FL d9_18 (pc' := 21) rfl (fun T X => ?_)
  refine k_aloadN G X d9_21 (pc' := 22) rfl rfl rfl ?_
  refine k_alen G X (z := zX) XA hX d9_22 (pc' := 23) rfl ?_
  refine k_copy G X (sp := 0) (dp := L) (nn := XN) XA BA rfl (w76 hw) (w79 hw) (w77 hw) (w78 hw) rfl hL hX (by omega) (by omega) ge_b d9_23 (pc' := 26) rfl rfl (by decide) (wd := 0) rfl (by decide) (fun T h23 K23 BA' X => ?_)
  replace O := O.keep K23 (allS ge_b (all0))
  replace E := E.keep K23
  replace FB := FB.keep K23 (by simp only [List.mem_cons, List.not_mem_nil, or_false, not_or]; exact (Ne.symm ne_b_o))
  replace FL := FL.keep K23 (by simp only [List.mem_cons, List.not_mem_nil, or_false, not_or]; exact (Ne.symm ne_b_o))
  replace FS := FS.keep K23 (by simp only [List.mem_cons, List.not_mem_nil, or_false, not_or]; exact (Ne.symm ne_b_o))
  replace FD := FD.keep K23 (by simp only [List.mem_cons, List.not_mem_nil, or_false, not_or]; exact (Ne.symm ne_b_o))
  replace XA := XA.keep K23 (by simp only [List.mem_cons, List.not_mem_nil, or_false, not_or]; exact ne_x_b)
  replace KP := KP.trans K23 (allS (Or.inl (List.mem_of_getElem? (i := 1) rfl)) (all0))
  have BA := BA'
  refine k_aloadN G X d9_26 (pc' := 27) rfl rfl rfl ?_
  refine k_dup G X d9_27 (pc' := 28) rfl rfl ?_
  refine k_getF G X (host := "") (Or.inl (w70 hw)) Via.refl FL d9_28 (pc' := 31) rfl (fun T X => ?_)
  refine k_aloadN G X d9_31 (pc' := 32) rfl rfl rfl ?_
  refine k_alen G X (z := zX) XA hX d9_32 (pc' := 33) rfl ?_
  refine k_iadd G X d9_33 (pc' := 34) rfl rfl ?_
  rw [hsum]
  refine k_putF G X (host := "") (Or.inl (w70 hw)) Via.refl FL E (Or.inl (w71 hw)) (w2 hw) (ty := .int) (by decide) rfl rfl ge_o d9_34 (pc' := 37) rfl (fun T h34 W34 X => ?_)
  replace O := O.wr W34 ge_o
  replace E := E.wr W34
  replace FB := FB.other W34 (Or.inr (slot_ne (Or.inl (w35 hw)) (Or.inl (w71 hw)) (by decide) (t := (.array .byte)) (t' := .int) (by decide) (by decide)))
  replace FL := FL.same W34
  replace FS := FS.other W34 (Or.inr (slot_ne (Or.inl (w39 hw)) (Or.inl (w71 hw)) (by decide) (t := (.array (.object "com/example/changeline/changeline/format/JsonOutput$Scope"))) (t' := .int) (by decide) (by decide)))
  replace FD := FD.other W34 (Or.inr (slot_ne (Or.inl (w41 hw)) (Or.inl (w71 hw)) (by decide) (t := .int) (t' := .int) (by decide) (by decide)))
  replace XA := XA.other W34 ne_x_o
  replace KP := KP.wr W34 (Or.inl (List.mem_of_getElem? (i := 0) rfl))
  replace BA := BA.other W34 ne_b_o
  refine k_retv G X d9_37 rfl ?_ (by decide) (by decide)
  exact ⟨rfl, KP, E, FB, FL, FS, FD, BA⟩
set_option maxRecDepth 65536 in
set_option maxHeartbeats 40000000 in
theorem put1 {Z : State} {a0 : Array Value} (hw : HW a0 Z) (o b x sc : Addr) (kb kx : ClassId) (L XN : Nat) (zL zX zN zD : Int32) (f g : Nat → Value) (h0 : Heap) (n0 : Nat) (ge_o : n0 ≤ o) (O : Old Z n0 h0) (E : Exa Z h0 o "com/example/changeline/changeline/format/JsonOutput") (FB : Fld Z h0 o "com/example/changeline/changeline/format/JsonOutput" "bytes" "[B" (.ref b)) (FL : Fld Z h0 o "com/example/changeline/changeline/format/JsonOutput" "length" "I" (.int zL)) (FS : Fld Z h0 o "com/example/changeline/changeline/format/JsonOutput" "scopes" "[Lcom/example/changeline/changeline/format/JsonOutput$Scope;" (.ref sc)) (FD : Fld Z h0 o "com/example/changeline/changeline/format/JsonOutput" "depth" "I" (.int zD)) (hL : zL.toInt = L) (hX : zX.toInt = XN) (hN : zN.toInt = (L + XN : Nat)) (BA : Arf Z h0 b kb .byte 512 f) (XA : Arf Z h0 x kx .byte XN g) (ne_b_o : b ≠ o) (ne_x_o : x ≠ o) (ne_x_b : x ≠ b) (hg1 : 512 < L + XN) (hg2 : L + XN ≤ 1024) :
    MetW Z (⟨"com/example/changeline/changeline/format/JsonOutput", "put", "([B)V"⟩ : MethodName) prog_29_method_22_code 2 none [] ({ frames := 3, cells := 1, slots := 1024, locals := 46 } : Room) #[(.ref o), (.ref x)] h0 n0 (fun v h => v = none ∧ Keep h0 h [o] ∧ Exa Z h o "com/example/changeline/changeline/format/JsonOutput" ∧ ∃ b' kb', h0.size ≤ b' ∧ Fld Z h o "com/example/changeline/changeline/format/JsonOutput" "bytes" "[B" (.ref b') ∧ Fld Z h o "com/example/changeline/changeline/format/JsonOutput" "length" "I" (.int zN) ∧ Fld Z h o "com/example/changeline/changeline/format/JsonOutput" "scopes" "[Lcom/example/changeline/changeline/format/JsonOutput$Scope;" (.ref sc) ∧ Fld Z h o "com/example/changeline/changeline/format/JsonOutput" "depth" "I" (.int zD) ∧ Arf Z h b' kb' .byte 1024 (fun i => if L ≤ i ∧ i < L + XN then g (0 + (i - L)) else (fun i => if i < 512 then f i else .int 0) i)) := by
  refine k_body (f := (fun m => mkF m 0 #[.val (.ref o), .val (.ref x)] [])) pn_9 (fun m => by first | (simp [entryFrame, mkF, argsToLocals, Value.category, maxLocals]; done) | rfl) ?_
  intro Γ T G X
  have KP := Keep.refl h0 [o]
  have hsum : zL + zX = zN := of_toInt (by rw [iadd_toInt (by omega) (by have := rgI zN; omega)]; omega)
  show Go Γ n0 _ T (mkF Γ.m 0 #[.val (.ref o), .val (.ref x)] [])
  refine k_aloadN G X d9_0 (pc' := 1) rfl rfl rfl ?_
  refine k_aloadN G X d9_1 (pc' := 2) rfl rfl rfl ?_
  refine k_getF G X (host := "") (Or.inl (w70 hw)) Via.refl FL d9_2 (pc' := 5) rfl (fun T X => ?_)
  refine k_aloadN G X d9_5 (pc' := 6) rfl rfl rfl ?_
  refine k_alen G X (z := zX) XA hX d9_6 (pc' := 7) rfl ?_
  refine k_iadd G X d9_7 (pc' := 8) rfl rfl ?_
  rw [hsum]
  refine k_callP G X (argsL := [(.int zN)]) (rest := []) rfl E (w72 hw) (w73 hw) (selP (w2 hw) (w74 hw) (w73 hw) (by decide)) (w74 hw) (w3 hw) (w75 hw) (by decide) (ens1 hw o b sc kb zL zD zN f h0 n0 ge_o O E FB FL FS FD BA ne_b_o (by omega) (by omega)) d9_8 pd1 rfl (pc' := 11) rfl rfl (wd := 0) rfl (by decide) (by decide) (by decide) (by decide) (fun T h8 v X q => ?_)
  obtain ⟨rfl, K8, E', b', kb', sz_b', FB', FL', FS', FD', BA'⟩ := q
  have ne_o_b' : o ≠ b' := Nat.ne_of_lt (Nat.lt_of_lt_of_le E.lt sz_b')
  have ne_x_b' : x ≠ b' := Nat.ne_of_lt (Nat.lt_of_lt_of_le XA.lt sz_b')
  have ge_b' : n0 ≤ b' := Nat.le_trans (Old_le O) sz_b'
  replace O := O.keep K8 (allS ge_o (all0))
  replace E := E.keep K8
  replace XA := XA.keep K8 (by simp only [List.mem_cons, List.not_mem_nil, or_false, not_or]; exact ne_x_o)
  replace KP := KP.trans K8 (allS (Or.inl (List.mem_of_getElem? (i := 0) rfl)) (all0))
  have FB := FB'
  have FL := FL'
  have FS := FS'
  have FD := FD'
  have BA := BA'
  show Go Γ n0 _ T (mkF Γ.m 11 #[.val (.ref o), .val (.ref x)] [])
  refine k_aloadN G X d9_11 (pc' := 12) rfl rfl rfl ?_
  refine k_iconst G X d9_12 (pc' := 13) rfl (z := (0 : Int32)) (by decide) ?_
  refine k_aloadN G X d9_13 (pc' := 14) rfl rfl rfl ?_
  refine k_getF G X (host := "") (Or.inl (w34 hw)) Via.refl FB d9_14 (pc' := 17) rfl (fun T X => ?_)
  refine k_aloadN G X d9_17 (pc' := 18) rfl rfl rfl ?_
  refine k_getF G X (host := "") (Or.inl (w70 hw)) Via.refl FL d9_18 (pc' := 21) rfl (fun T X => ?_)
  refine k_aloadN G X d9_21 (pc' := 22) rfl rfl rfl ?_
  refine k_alen G X (z := zX) XA hX d9_22 (pc' := 23) rfl ?_
  refine k_copy G X (sp := 0) (dp := L) (nn := XN) XA BA rfl (w76 hw) (w79 hw) (w77 hw) (w78 hw) rfl hL hX (by omega) (by omega) ge_b' d9_23 (pc' := 26) rfl rfl (by decide) (wd := 0) rfl (by decide) (fun T h23 K23 BA' X => ?_)
  replace O := O.keep K23 (allS ge_b' (all0))
  replace E := E.keep K23
  replace XA := XA.keep K23 (by simp only [List.mem_cons, List.not_mem_nil, or_false, not_or]; exact ne_x_b')
  replace KP := KP.trans K23 (allS (Or.inr sz_b') (all0))
  replace FB := FB.keep K23 (by simp only [List.mem_cons, List.not_mem_nil, or_false, not_or]; exact ne_o_b')
  replace FL := FL.keep K23 (by simp only [List.mem_cons, List.not_mem_nil, or_false, not_or]; exact ne_o_b')
  replace FS := FS.keep K23 (by simp only [List.mem_cons, List.not_mem_nil, or_false, not_or]; exact ne_o_b')
  replace FD := FD.keep K23 (by simp only [List.mem_cons, List.not_mem_nil, or_false, not_or]; exact ne_o_b')
  have BA := BA'
  refine k_aloadN G X d9_26 (pc' := 27) rfl rfl rfl ?_
  refine k_dup G X d9_27 (pc' := 28) rfl rfl ?_
  refine k_getF G X (host := "") (Or.inl (w70 hw)) Via.refl FL d9_28 (pc' := 31) rfl (fun T X => ?_)
  refine k_aloadN G X d9_31 (pc' := 32) rfl rfl rfl ?_
  refine k_alen G X (z := zX) XA hX d9_32 (pc' := 33) rfl ?_
  refine k_iadd G X d9_33 (pc' := 34) rfl rfl ?_
  rw [hsum]
  refine k_putF G X (host := "") (Or.inl (w70 hw)) Via.refl FL E (Or.inl (w71 hw)) (w2 hw) (ty := .int) (by decide) rfl rfl ge_o d9_34 (pc' := 37) rfl (fun T h34 W34 X => ?_)
  replace O := O.wr W34 ge_o
  replace E := E.wr W34
  replace XA := XA.other W34 ne_x_o
  replace KP := KP.wr W34 (Or.inl (List.mem_of_getElem? (i := 0) rfl))
  replace FB := FB.other W34 (Or.inr (slot_ne (Or.inl (w35 hw)) (Or.inl (w71 hw)) (by decide) (t := (.array .byte)) (t' := .int) (by decide) (by decide)))
  replace FL := FL.same W34
  replace FS := FS.other W34 (Or.inr (slot_ne (Or.inl (w39 hw)) (Or.inl (w71 hw)) (by decide) (t := (.array (.object "com/example/changeline/changeline/format/JsonOutput$Scope"))) (t' := .int) (by decide) (by decide)))
  replace FD := FD.other W34 (Or.inr (slot_ne (Or.inl (w41 hw)) (Or.inl (w71 hw)) (by decide) (t := .int) (t' := .int) (by decide) (by decide)))
  replace BA := BA.other W34 (Ne.symm ne_o_b')
  refine k_retv G X d9_37 rfl ?_ (by decide) (by decide)
  exact ⟨rfl, KP, E, b', kb', sz_b', FB, FL, FS, FD, BA⟩
theorem pn_17 : plainFor (⟨"com/example/changeline/changeline/format/JsonOutput", "put", "(C)V"⟩ : MethodName) = true := plainFor_of_name (by first | (simp [plainName, overriddenIn]; done) | decide +kernel)
set_option maxRecDepth 65536 in
set_option maxHeartbeats 40000000 in
theorem putc {Z : State} {a0 : Array Value} (hw : HW a0 Z) (o b sc : Addr) (kb : ClassId) (L N : Nat) (zL zN zB zD ch : Int32) (f : Nat → Value) (h0 : Heap) (n0 : Nat) (ge_o : n0 ≤ o) (ge_b : n0 ≤ b) (O : Old Z n0 h0) (E : Exa Z h0 o "com/example/changeline/changeline/format/JsonOutput") (FB : Fld Z h0 o "com/example/changeline/changeline/format/JsonOutput" "bytes" "[B" (.ref b)) (FL : Fld Z h0 o "com/example/changeline/changeline/format/JsonOutput" "length" "I" (.int zL)) (FS : Fld Z h0 o "com/example/changeline/changeline/format/JsonOutput" "scopes" "[Lcom/example/changeline/changeline/format/JsonOutput$Scope;" (.ref sc)) (FD : Fld Z h0 o "com/example/changeline/changeline/format/JsonOutput" "depth" "I" (.int zD)) (hL : zL.toInt = L) (hN : zN.toInt = (L + 1 : Nat)) (hB : zB.toInt = N) (BA : Arf Z h0 b kb .byte N f) (ne_b_o : b ≠ o) (hfit : L + 1 ≤ N) :
    MetW Z (⟨"com/example/changeline/changeline/format/JsonOutput", "put", "(C)V"⟩ : MethodName) prog_29_method_21_code 2 none [] ({ frames := 1, cells := 0, slots := 0, locals := 13 } : Room) #[(.ref o), (.int ch)] h0 n0 (fun v h => v = none ∧ Keep h0 h [o, b] ∧ Exa Z h o "com/example/changeline/changeline/format/JsonOutput" ∧ Fld Z h o "com/example/changeline/changeline/format/JsonOutput" "bytes" "[B" (.ref b) ∧ Fld Z h o "com/example/changeline/changeline/format/JsonOutput" "length" "I" (.int zN) ∧ Fld Z h o "com/example/changeline/changeline/format/JsonOutput" "scopes" "[Lcom/example/changeline/changeline/format/JsonOutput$Scope;" (.ref sc) ∧ Fld Z h o "com/example/changeline/changeline/format/JsonOutput" "depth" "I" (.int zD) ∧ Arf Z h b kb .byte N (fun x => if x = L then .int ch.toInt8.toInt32 else f x)) := by
  refine k_body (f := (fun m => mkF m 0 #[.val (.ref o), .val (.int ch)] [])) pn_17 (fun m => by first | (simp [entryFrame, mkF, argsToLocals, Value.category, maxLocals]; done) | rfl) ?_
  intro Γ T G X
  have KP := Keep.refl h0 [o, b]
  have hsum : zL + (1 : Int32) = zN := of_toInt (by rw [iadd_toInt (by rw [show (1 : Int32).toInt = 1 from rfl]; omega) (by rw [show (1 : Int32).toInt = 1 from rfl]; have := rgI zN; omega), show (1 : Int32).toInt = 1 from rfl]; omega)
  show Go Γ n0 _ T (mkF Γ.m 0 #[.val (.ref o), .val (.int ch)] [])
  refine k_aloadN G X d17_0 (pc' := 1) rfl rfl rfl ?_
  refine k_aloadN G X d17_1 (pc' := 2) rfl rfl rfl ?_
  refine k_getF G X (host := "") (Or.inl (w70 hw)) Via.refl FL d17_2 (pc' := 5) rfl (fun T X => ?_)
  refine k_iconst G X d17_5 (pc' := 6) rfl (z := (1 : Int32)) (by decide) ?_
  refine k_iadd G X d17_6 (pc' := 7) rfl rfl ?_
  rw [hsum]
  refine k_callP G X (argsL := [(.int zN)]) (rest := []) rfl E (w72 hw) (w73 hw) (selP (w2 hw) (w74 hw) (w73 hw) (by decide)) (w74 hw) (w3 hw) (w75 hw) (by decide) (ens0 hw o b kb N zB f zN h0 n0 hB FB BA (by omega)) d17_7 pd1 rfl (pc' := 10) rfl rfl (wd := 0) rfl (by decide) (by decide) (by decide) (by decide) (fun T h7 v X q => ?_)
  obtain ⟨rfl, e7⟩ := q
  replace X := X.eq e7
  show Go Γ n0 _ T (mkF Γ.m 10 #[.val (.ref o), .val (.int ch)] [])
  refine k_aloadN G X d17_10 (pc' := 11) rfl rfl rfl ?_
  refine k_getF G X (host := "") (Or.inl (w34 hw)) Via.refl FB d17_11 (pc' := 14) rfl (fun T X => ?_)
  refine k_aloadN G X d17_14 (pc' := 15) rfl rfl rfl ?_
  refine k_dup G X d17_15 (pc' := 16) rfl rfl ?_
  refine k_getF G X (host := "") (Or.inl (w70 hw)) Via.refl FL d17_16 (pc' := 19) rfl (fun T X => ?_)
  refine k_dupx1 G X d17_19 (pc' := 20) rfl rfl rfl ?_
  refine k_iconst G X d17_20 (pc' := 21) rfl (z := (1 : Int32)) (by decide) ?_
  refine k_iadd G X d17_21 (pc' := 22) rfl rfl ?_
  rw [hsum]
  refine k_putF G X (host := "") (Or.inl (w70 hw)) Via.refl FL E (Or.inl (w71 hw)) (w2 hw) (ty := .int) (by decide) rfl rfl ge_o d17_22 (pc' := 25) rfl (fun T h22 W22 X => ?_)
  replace O := O.wr W22 ge_o
  replace E := E.wr W22
  replace FB := FB.other W22 (Or.inr (slot_ne (Or.inl (w35 hw)) (Or.inl (w71 hw)) (by decide) (t := (.array .byte)) (t' := .int) (by decide) (by decide)))
  replace FL := FL.same W22
  replace FS := FS.other W22 (Or.inr (slot_ne (Or.inl (w39 hw)) (Or.inl (w71 hw)) (by decide) (t := (.array (.object "com/example/changeline/changeline/format/JsonOutput$Scope"))) (t' := .int) (by decide) (by decide)))
  replace FD := FD.other W22 (Or.inr (slot_ne (Or.inl (w41 hw)) (Or.inl (w71 hw)) (by decide) (t := .int) (t' := .int) (by decide) (by decide)))
  replace BA := BA.other W22 ne_b_o
  replace KP := KP.wr W22 (Or.inl (List.mem_of_getElem? (i := 0) rfl))
  refine k_iloadN G X d17_25 (pc' := 26) rfl rfl ?_
  refine k_i2b G X d17_26 (pc' := 27) rfl rfl ?_
  refine k_bastore G X (i := L) (z := ch.toInt8.toInt32) BA hL (by omega) (by simp [nar]) ge_b d17_27 (pc' := 28) rfl (fun T h27 W27 BA X => ?_)
  replace O := O.wr W27 ge_b
  replace E := E.wr W27
  replace FB := FB.other W27 (Or.inl (Ne.symm ne_b_o))
  replace FL := FL.other W27 (Or.inl (Ne.symm ne_b_o))
  replace FS := FS.other W27 (Or.inl (Ne.symm ne_b_o))
  replace FD := FD.other W27 (Or.inl (Ne.symm ne_b_o))
  replace KP := KP.wr W27 (Or.inl (List.mem_of_getElem? (i := 1) rfl))
  refine k_retv G X d17_28 rfl ?_ (by decide) (by decide)
  exact ⟨rfl, KP, E, FB, FL, FS, FD, BA⟩
theorem pn_7 : plainFor (⟨"com/example/changeline/changeline/format/JsonOutput", "beforeValue", "()V"⟩ : MethodName) = true := plainFor_of_name (by first | (simp [plainName, overriddenIn]; done) | decide +kernel)
set_option maxRecDepth 65536 in
set_option maxHeartbeats 40000000 in
theorem bv0 {Z : State} {a0 : Array Value} (hw : HW a0 Z) (o sc a t : Addr) (ks : ClassId) (gs : Nat → Value) (h0 : Heap) (n0 : Nat) (ge_sc : n0 ≤ sc) (O : Old Z n0 h0) (FS : Fld Z h0 o "com/example/changeline/changeline/format/JsonOutput" "scopes" "[Lcom/example/changeline/changeline/format/JsonOutput$Scope;" (.ref sc)) (FD : Fld Z h0 o "com/example/changeline/changeline/format/JsonOutput" "depth" "I" (.int (1 : Int32))) (SCA : Arf Z h0 sc ks (.object "com/example/changeline/changeline/format/JsonOutput$Scope") 8 gs) (SO : Ovr Z ks "com/example/changeline/changeline/format/JsonOutput$Scope") (EA : Exa Z h0 a "com/example/changeline/changeline/format/JsonOutput$Scope") (OA : Fld Z h0 a "java/lang/Enum" "ordinal" "I" (.int (0 : Int32))) (ET : Exa Z h0 t "com/example/changeline/changeline/format/JsonOutput$Scope") (S_T : Sta Z h0 "com/example/changeline/changeline/format/JsonOutput$Scope" "DOCUMENT" "Lcom/example/changeline/changeline/format/JsonOutput$Scope;" (.ref t)) (hcur : gs 0 = .ref a) (ne_o_sc : o ≠ sc) (ne_a_sc : a ≠ sc) :
    MetW Z (⟨"com/example/changeline/changeline/format/JsonOutput", "beforeValue", "()V"⟩ : MethodName) prog_29_method_16_code 2 none [] ({ frames := 1, cells := 0, slots := 0, locals := 12 } : Room) #[(.ref o)] h0 n0 (fun v h => v = none ∧ Keep h0 h [sc] ∧ Arf Z h sc ks (.object "com/example/changeline/changeline/format/JsonOutput$Scope") 8 (fun x => if x = 0 then .ref t else gs x)) := by
  refine k_body (f := (fun m => mkF m 0 #[.val (.ref o), .unset] [])) pn_7 (fun m => by first | (simp [entryFrame, mkF, argsToLocals, Value.category, maxLocals]; done) | rfl) ?_
  intro Γ T G X
  have KP := Keep.refl h0 [sc]
  show Go Γ n0 _ T (mkF Γ.m 0 #[.val (.ref o), .unset] [])
  refine k_aloadN G X d7_0 (pc' := 1) rfl rfl rfl ?_
  refine k_getF G X (host := "") (Or.inl (w38 hw)) Via.refl FS d7_1 (pc' := 4) rfl (fun T X => ?_)
  refine k_aloadN G X d7_4 (pc' := 5) rfl rfl rfl ?_
  refine k_getF G X (host := "") (Or.inl (w40 hw)) Via.refl FD d7_5 (pc' := 8) rfl (fun T X => ?_)
  refine k_iconst G X d7_8 (pc' := 9) rfl (z := (1 : Int32)) (by decide) ?_
  refine k_isub G X d7_9 (pc' := 10) rfl (z := (0 : Int32)) (by decide) ?_
  refine k_aaload G X (i := 0) (v := (.ref a)) SCA rfl rfl (by decide) hcur d7_10 (pc' := 11) rfl ?_
  refine k_astoreN G X d7_11 (pc' := 12) rfl rfl (l' := #[.val (.ref o), .val (.ref a)]) rfl ?_
  refine k_aloadN G X d7_12 (pc' := 13) rfl rfl rfl ?_
  refine k_callVU G X (argsL := []) (rest := []) rfl EA (w55 hw) (w56 hw) (w57 hw) (w59 hw) (w58 hw) (w60 hw) (w61 hw) (by decide) (ord hw a (0 : Int32) h0 n0 OA) d7_13 pd4 rfl (pc' := 16) rfl rfl (wd := 0) rfl (by decide) (by decide) (by decide) (by decide) (fun T h13 v X q => ?_)
  obtain ⟨rfl, e13⟩ := q
  replace X := X.eq e13
  show Go Γ n0 _ T (mkF Γ.m 16 #[.val (.ref o), .val (.ref a)] [(.int (0 : Int32))])
  refine k_tswIn G X d7_16 (by decide) (off := 44) (by decide) (by decide) (pc' := 60) rfl ?_
  refine k_aloadN G X d7_60 (pc' := 61) rfl rfl rfl ?_
  refine k_getF G X (host := "") (Or.inl (w38 hw)) Via.refl FS d7_61 (pc' := 64) rfl (fun T X => ?_)
  refine k_aloadN G X d7_64 (pc' := 65) rfl rfl rfl ?_
  refine k_getF G X (host := "") (Or.inl (w40 hw)) Via.refl FD d7_65 (pc' := 68) rfl (fun T X => ?_)
  refine k_iconst G X d7_68 (pc' := 69) rfl (z := (1 : Int32)) (by decide) ?_
  refine k_isub G X d7_69 (pc' := 70) rfl (z := (0 : Int32)) (by decide) ?_
  refine k_getS G X (host := "") (Or.inl (w64 hw)) Via.refl S_T d7_70 (pc' := 73) rfl (fun T X => ?_)
  refine k_aastore G X (i := 0) SCA rfl rfl (by decide) (SCA.sto SO (Ins.self ET)) rfl ge_sc d7_73 (pc' := 74) rfl (fun T h73 W73 SCA X => ?_)
  replace O := O.wr W73 ge_sc
  replace FS := FS.other W73 (Or.inl ne_o_sc)
  replace FD := FD.other W73 (Or.inl ne_o_sc)
  replace EA := EA.wr W73
  replace OA := OA.other W73 (Or.inl ne_a_sc)
  replace ET := ET.wr W73
  replace S_T := S_T.wr W73
  replace KP := KP.wr W73 (Or.inl (List.mem_of_getElem? (i := 0) rfl))
  refine k_goto G X d7_74 (by decide) (pc' := 140) rfl ?_
  refine k_retv G X d7_140 rfl ?_ (by decide) (by decide)
  exact ⟨rfl, KP, SCA⟩
set_option maxRecDepth 65536 in
set_option maxHeartbeats 40000000 in
theorem bv5 {Z : State} {a0 : Array Value} (hw : HW a0 Z) (o sc a t : Addr) (ks : ClassId) (gs : Nat → Value) (h0 : Heap) (n0 : Nat) (ge_sc : n0 ≤ sc) (O : Old Z n0 h0) (FS : Fld Z h0 o "com/example/changeline/changeline/format/JsonOutput" "scopes" "[Lcom/example/changeline/changeline/format/JsonOutput$Scope;" (.ref sc)) (FD : Fld Z h0 o "com/example/changeline/changeline/format/JsonOutput" "depth" "I" (.int (2 : Int32))) (SCA : Arf Z h0 sc ks (.object "com/example/changeline/changeline/format/JsonOutput$Scope") 8 gs) (SO : Ovr Z ks "com/example/changeline/changeline/format/JsonOutput$Scope") (EA : Exa Z h0 a "com/example/changeline/changeline/format/JsonOutput$Scope") (OA : Fld Z h0 a "java/lang/Enum" "ordinal" "I" (.int (5 : Int32))) (ET : Exa Z h0 t "com/example/changeline/changeline/format/JsonOutput$Scope") (S_T : Sta Z h0 "com/example/changeline/changeline/format/JsonOutput$Scope" "ARRAY" "Lcom/example/changeline/changeline/format/JsonOutput$Scope;" (.ref t)) (hcur : gs 1 = .ref a) (ne_o_sc : o ≠ sc) (ne_a_sc : a ≠ sc) :
    MetW Z (⟨"com/example/changeline/changeline/format/JsonOutput", "beforeValue", "()V"⟩ : MethodName) prog_29_method_16_code 2 none [] ({ frames := 1, cells := 0, slots := 0, locals := 12 } : Room) #[(.ref o)] h0 n0 (fun v h => v = none ∧ Keep h0 h [sc] ∧ Arf Z h sc ks (.object "com/example/changeline/changeline/format/JsonOutput$Scope") 8 (fun x => if x = 1 then .ref t else gs x)) := by
  refine k_body (f := (fun m => mkF m 0 #[.val (.ref o), .unset] [])) pn_7 (fun m => by first | (simp [entryFrame, mkF, argsToLocals, Value.category, maxLocals]; done) | rfl) ?_
  intro Γ T G X
  have KP := Keep.refl h0 [sc]
  show Go Γ n0 _ T (mkF Γ.m 0 #[.val (.ref o), .unset] [])
  refine k_aloadN G X d7_0 (pc' := 1) rfl rfl rfl ?_
  refine k_getF G X (host := "") (Or.inl (w38 hw)) Via.refl FS d7_1 (pc' := 4) rfl (fun T X => ?_)
  refine k_aloadN G X d7_4 (pc' := 5) rfl rfl rfl ?_
  refine k_getF G X (host := "") (Or.inl (w40 hw)) Via.refl FD d7_5 (pc' := 8) rfl (fun T X => ?_)
  refine k_iconst G X d7_8 (pc' := 9) rfl (z := (1 : Int32)) (by decide) ?_
  refine k_isub G X d7_9 (pc' := 10) rfl (z := (1 : Int32)) (by decide) ?_
  refine k_aaload G X (i := 1) (v := (.ref a)) SCA rfl rfl (by decide) hcur d7_10 (pc' := 11) rfl ?_
  refine k_astoreN G X d7_11 (pc' := 12) rfl rfl (l' := #[.val (.ref o), .val (.ref a)]) rfl ?_
  refine k_aloadN G X d7_12 (pc' := 13) rfl rfl rfl ?_
  refine k_callVU G X (argsL := []) (rest := []) rfl EA (w55 hw) (w56 hw) (w57 hw) (w59 hw) (w58 hw) (w60 hw) (w61 hw) (by decide) (ord hw a (5 : Int32) h0 n0 OA) d7_13 pd4 rfl (pc' := 16) rfl rfl (wd := 0) rfl (by decide) (by decide) (by decide) (by decide) (fun T h13 v X q => ?_)
  obtain ⟨rfl, e13⟩ := q
  replace X := X.eq e13
  show Go Γ n0 _ T (mkF Γ.m 16 #[.val (.ref o), .val (.ref a)] [(.int (5 : Int32))])
  refine k_tswIn G X d7_16 (by decide) (off := 61) (by decide) (by decide) (pc' := 77) rfl ?_
  refine k_aloadN G X d7_77 (pc' := 78) rfl rfl rfl ?_
  refine k_getF G X (host := "") (Or.inl (w38 hw)) Via.refl FS d7_78 (pc' := 81) rfl (fun T X => ?_)
  refine k_aloadN G X d7_81 (pc' := 82) rfl rfl rfl ?_
  refine k_getF G X (host := "") (Or.inl (w40 hw)) Via.refl FD d7_82 (pc' := 85) rfl (fun T X => ?_)
  refine k_iconst G X d7_85 (pc' := 86) rfl (z := (1 : Int32)) (by decide) ?_
  refine k_isub G X d7_86 (pc' := 87) rfl (z := (1 : Int32)) (by decide) ?_
  refine k_getS G X (host := "") (Or.inl (w116 hw)) Via.refl S_T d7_87 (pc' := 90) rfl (fun T X => ?_)
  refine k_aastore G X (i := 1) SCA rfl rfl (by decide) (SCA.sto SO (Ins.self ET)) rfl ge_sc d7_90 (pc' := 91) rfl (fun T h90 W90 SCA X => ?_)
  replace O := O.wr W90 ge_sc
  replace FS := FS.other W90 (Or.inl ne_o_sc)
  replace FD := FD.other W90 (Or.inl ne_o_sc)
  replace EA := EA.wr W90
  replace OA := OA.other W90 (Or.inl ne_a_sc)
  replace ET := ET.wr W90
  replace S_T := S_T.wr W90
  replace KP := KP.wr W90 (Or.inl (List.mem_of_getElem? (i := 0) rfl))
  refine k_goto G X d7_91 (by decide) (pc' := 140) rfl ?_
  refine k_retv G X d7_140 rfl ?_ (by decide) (by decide)
  exact ⟨rfl, KP, SCA⟩
theorem pn_18 : plainFor (⟨"com/example/changeline/changeline/format/JsonOutput", "push", "(Lcom/example/changeline/changeline/format/JsonOutput$Scope;)V"⟩ : MethodName) = true := plainFor_of_name (by first | (simp [plainName, overriddenIn]; done) | decide +kernel)
set_option maxRecDepth 65536 in
set_option maxHeartbeats 40000000 in
theorem push1 {Z : State} {a0 : Array Value} (hw : HW a0 Z) (o b sc t : Addr) (ks : ClassId) (zL : Int32) (gs : Nat → Value) (h0 : Heap) (n0 : Nat) (ge_o : n0 ≤ o) (ge_sc : n0 ≤ sc) (O : Old Z n0 h0) (E : Exa Z h0 o "com/example/changeline/changeline/format/JsonOutput") (FB : Fld Z h0 o "com/example/changeline/changeline/format/JsonOutput" "bytes" "[B" (.ref b)) (FL : Fld Z h0 o "com/example/changeline/changeline/format/JsonOutput" "length" "I" (.int zL)) (FS : Fld Z h0 o "com/example/changeline/changeline/format/JsonOutput" "scopes" "[Lcom/example/changeline/changeline/format/JsonOutput$Scope;" (.ref sc)) (FD : Fld Z h0 o "com/example/changeline/changeline/format/JsonOutput" "depth" "I" (.int (1 : Int32))) (SCA : Arf Z h0 sc ks (.object "com/example/changeline/changeline/format/JsonOutput$Scope") 8 gs) (SO : Ovr Z ks "com/example/changeline/changeline/format/JsonOutput$Scope") (ne_o_sc : o ≠ sc) (ET : Exa Z h0 t "com/example/changeline/changeline/format/JsonOutput$Scope") :
    MetW Z (⟨"com/example/changeline/changeline/format/JsonOutput", "push", "(Lcom/example/changeline/changeline/format/JsonOutput$Scope;)V"⟩ : MethodName) prog_29_method_17_code 2 none [] ({ frames := 0, cells := 0, slots := 0, locals := 0 } : Room) #[(.ref o), (.ref t)] h0 n0 (fun v h => v = none ∧ Keep h0 h [o, sc] ∧ Exa Z h o "com/example/changeline/changeline/format/JsonOutput" ∧ Fld Z h o "com/example/changeline/changeline/format/JsonOutput" "bytes" "[B" (.ref b) ∧ Fld Z h o "com/example/changeline/changeline/format/JsonOutput" "length" "I" (.int zL) ∧ Fld Z h o "com/example/changeline/changeline/format/JsonOutput" "scopes" "[Lcom/example/changeline/changeline/format/JsonOutput$Scope;" (.ref sc) ∧ Fld Z h o "com/example/changeline/changeline/format/JsonOutput" "depth" "I" (.int (2 : Int32)) ∧ Arf Z h sc ks (.object "com/example/changeline/changeline/format/JsonOutput$Scope") 8 (fun x => if x = 1 then .ref t else gs x)) := by
  refine k_body (f := (fun m => mkF m 0 #[.val (.ref o), .val (.ref t)] [])) pn_18 (fun m => by first | (simp [entryFrame, mkF, argsToLocals, Value.category, maxLocals]; done) | rfl) ?_
  intro Γ T G X
  have KP := Keep.refl h0 [o, sc]
  show Go Γ n0 _ T (mkF Γ.m 0 #[.val (.ref o), .val (.ref t)] [])
  refine k_aloadN G X d18_0 (pc' := 1) rfl rfl rfl ?_
  refine k_getF G X (host := "") (Or.inl (w40 hw)) Via.refl FD d18_1 (pc' := 4) rfl (fun T X => ?_)
  refine k_aloadN G X d18_4 (pc' := 5) rfl rfl rfl ?_
  refine k_getF G X (host := "") (Or.inl (w38 hw)) Via.refl FS d18_5 (pc' := 8) rfl (fun T X => ?_)
  refine k_alen G X (z := (8 : Int32)) SCA rfl d18_8 (pc' := 9) rfl ?_
  refine k_icmp_ne G X d18_9 (pc' := 32) rfl (by decide) (pc'' := 12) rfl (fun c9 => ?_) (fun c9 => (absurd c9 (by decide)))
  refine k_aloadN G X d18_32 (pc' := 33) rfl rfl rfl ?_
  refine k_getF G X (host := "") (Or.inl (w38 hw)) Via.refl FS d18_33 (pc' := 36) rfl (fun T X => ?_)
  refine k_aloadN G X d18_36 (pc' := 37) rfl rfl rfl ?_
  refine k_dup G X d18_37 (pc' := 38) rfl rfl ?_
  refine k_getF G X (host := "") (Or.inl (w40 hw)) Via.refl FD d18_38 (pc' := 41) rfl (fun T X => ?_)
  refine k_dupx1 G X d18_41 (pc' := 42) rfl rfl rfl ?_
  refine k_iconst G X d18_42 (pc' := 43) rfl (z := (1 : Int32)) (by decide) ?_
  refine k_iadd G X d18_43 (pc' := 44) rfl (z := (2 : Int32)) (by decide) ?_
  refine k_putF G X (host := "") (Or.inl (w40 hw)) Via.refl FD E (Or.inl (w41 hw)) (w2 hw) (ty := .int) (by decide) rfl rfl ge_o d18_44 (pc' := 47) rfl (fun T h44 W44 X => ?_)
  replace O := O.wr W44 ge_o
  replace E := E.wr W44
  replace FB := FB.other W44 (Or.inr (slot_ne (Or.inl (w35 hw)) (Or.inl (w41 hw)) (by decide) (t := (.array .byte)) (t' := .int) (by decide) (by decide)))
  replace FL := FL.other W44 (Or.inr (slot_ne (Or.inl (w71 hw)) (Or.inl (w41 hw)) (by decide) (t := .int) (t' := .int) (by decide) (by decide)))
  replace FS := FS.other W44 (Or.inr (slot_ne (Or.inl (w39 hw)) (Or.inl (w41 hw)) (by decide) (t := (.array (.object "com/example/changeline/changeline/format/JsonOutput$Scope"))) (t' := .int) (by decide) (by decide)))
  replace FD := FD.same W44
  replace SCA := SCA.other W44 (Ne.symm ne_o_sc)
  replace ET := ET.wr W44
  replace KP := KP.wr W44 (Or.inl (List.mem_of_getElem? (i := 0) rfl))
  refine k_aloadN G X d18_47 (pc' := 48) rfl rfl rfl ?_
  refine k_aastore G X (i := 1) SCA rfl rfl (by decide) (SCA.sto SO (Ins.self ET)) rfl ge_sc d18_48 (pc' := 49) rfl (fun T h48 W48 SCA X => ?_)
  replace O := O.wr W48 ge_sc
  replace E := E.wr W48
  replace FB := FB.other W48 (Or.inl ne_o_sc)
  replace FL := FL.other W48 (Or.inl ne_o_sc)
  replace FS := FS.other W48 (Or.inl ne_o_sc)
  replace FD := FD.other W48 (Or.inl ne_o_sc)
  replace ET := ET.wr W48
  replace KP := KP.wr W48 (Or.inl (List.mem_of_getElem? (i := 1) rfl))
  refine k_retv G X d18_49 rfl ?_ (by decide) (by decide)
  exact ⟨rfl, KP, E, FB, FL, FS, FD, SCA⟩
theorem pn_20 : plainFor (⟨"com/example/changeline/changeline/format/JsonOutput", "close", "(Lcom/example/changeline/changeline/format/JsonOutput$Scope;Lcom/example/changeline/changeline/format/JsonOutput$Scope;)V"⟩ : MethodName) = true := plainFor_of_name (by first | (simp [plainName, overriddenIn]; done) | decide +kernel)
set_option maxRecDepth 65536 in
set_option maxHeartbeats 40000000 in
theorem close2 {Z : State} {a0 : Array Value} (hw : HW a0 Z) (o b sc a1 a2 : Addr) (ks : ClassId) (zL : Int32) (gs : Nat → Value) (h0 : Heap) (n0 : Nat) (ge_o : n0 ≤ o) (ge_sc : n0 ≤ sc) (O : Old Z n0 h0) (E : Exa Z h0 o "com/example/changeline/changeline/format/JsonOutput") (FB : Fld Z h0 o "com/example/changeline/changeline/format/JsonOutput" "bytes" "[B" (.ref b)) (FL : Fld Z h0 o "com/example/changeline/changeline/format/JsonOutput" "length" "I" (.int zL)) (FS : Fld Z h0 o "com/example/changeline/changeline/format/JsonOutput" "scopes" "[Lcom/example/changeline/changeline/format/JsonOutput$Scope;" (.ref sc)) (FD : Fld Z h0 o "com/example/changeline/changeline/format/JsonOutput" "depth" "I" (.int (2 : Int32))) (SCA : Arf Z h0 sc ks (.object "com/example/changeline/changeline/format/JsonOutput$Scope") 8 gs) (SO : Ovr Z ks "com/example/changeline/changeline/format/JsonOutput$Scope") (ne_o_sc : o ≠ sc) (hcur : gs 1 = .ref a2) :
    MetW Z (⟨"com/example/changeline/changeline/format/JsonOutput", "close", "(Lcom/example/changeline/changeline/format/JsonOutput$Scope;Lcom/example/changeline/changeline/format/JsonOutput$Scope;)V"⟩ : MethodName) prog_29_method_18_code 4 none [] ({ frames := 0, cells := 0, slots := 0, locals := 0 } : Room) #[(.ref o), (.ref a1), (.ref a2)] h0 n0 (fun v h => v = none ∧ Keep h0 h [o] ∧ Exa Z h o "com/example/changeline/changeline/format/JsonOutput" ∧ Fld Z h o "com/example/changeline/changeline/format/JsonOutput" "bytes" "[B" (.ref b) ∧ Fld Z h o "com/example/changeline/changeline/format/JsonOutput" "length" "I" (.int zL) ∧ Fld Z h o "com/example/changeline/changeline/format/JsonOutput" "scopes" "[Lcom/example/changeline/changeline/format/JsonOutput$Scope;" (.ref sc) ∧ Fld Z h o "com/example/changeline/changeline/format/JsonOutput" "depth" "I" (.int (1 : Int32))) := by
  refine k_body (f := (fun m => mkF m 0 #[.val (.ref o), .val (.ref a1), .val (.ref a2), .unset] [])) pn_20 (fun m => by first | (simp [entryFrame, mkF, argsToLocals, Value.category, maxLocals]; done) | rfl) ?_
  intro Γ T G X
  have KP := Keep.refl h0 [o]
  show Go Γ n0 _ T (mkF Γ.m 0 #[.val (.ref o), .val (.ref a1), .val (.ref a2), .unset] [])
  refine k_aloadN G X d20_0 (pc' := 1) rfl rfl rfl ?_
  refine k_getF G X (host := "") (Or.inl (w38 hw)) Via.refl FS d20_1 (pc' := 4) rfl (fun T X => ?_)
  refine k_aloadN G X d20_4 (pc' := 5) rfl rfl rfl ?_
  refine k_getF G X (host := "") (Or.inl (w40 hw)) Via.refl FD d20_5 (pc' := 8) rfl (fun T X => ?_)
  refine k_iconst G X d20_8 (pc' := 9) rfl (z := (1 : Int32)) (by decide) ?_
  refine k_isub G X d20_9 (pc' := 10) rfl (z := (1 : Int32)) (by decide) ?_
  refine k_aaload G X (i := 1) (v := (.ref a2)) SCA rfl rfl (by decide) hcur d20_10 (pc' := 11) rfl ?_
  refine k_astoreN G X d20_11 (pc' := 12) rfl rfl (l' := #[.val (.ref o), .val (.ref a1), .val (.ref a2), .val (.ref a2)]) rfl ?_
  refine k_aloadN G X d20_12 (pc' := 13) rfl rfl rfl ?_
  refine k_aloadN G X d20_13 (pc' := 14) rfl rfl rfl ?_
  refine k_acmp_eq G X d20_14 (pc' := 49) rfl (by decide) (pc'' := 17) rfl rfl rfl (fun c14 => ?_) (fun c14 => ?_)
  · refine k_aloadN G X d20_49 (pc' := 50) rfl rfl rfl ?_
    refine k_dup G X d20_50 (pc' := 51) rfl rfl ?_
    refine k_getF G X (host := "") (Or.inl (w40 hw)) Via.refl FD d20_51 (pc' := 54) rfl (fun T X => ?_)
    refine k_iconst G X d20_54 (pc' := 55) rfl (z := (1 : Int32)) (by decide) ?_
    refine k_isub G X d20_55 (pc' := 56) rfl (z := (1 : Int32)) (by decide) ?_
    refine k_putF G X (host := "") (Or.inl (w40 hw)) Via.refl FD E (Or.inl (w41 hw)) (w2 hw) (ty := .int) (by decide) rfl rfl ge_o d20_56 (pc' := 59) rfl (fun T h56 W56 X => ?_)
    replace O := O.wr W56 ge_o
    replace E := E.wr W56
    replace FB := FB.other W56 (Or.inr (slot_ne (Or.inl (w35 hw)) (Or.inl (w41 hw)) (by decide) (t := (.array .byte)) (t' := .int) (by decide) (by decide)))
    replace FL := FL.other W56 (Or.inr (slot_ne (Or.inl (w71 hw)) (Or.inl (w41 hw)) (by decide) (t := .int) (t' := .int) (by decide) (by decide)))
    replace FS := FS.other W56 (Or.inr (slot_ne (Or.inl (w39 hw)) (Or.inl (w41 hw)) (by decide) (t := (.array (.object "com/example/changeline/changeline/format/JsonOutput$Scope"))) (t' := .int) (by decide) (by decide)))
    replace FD := FD.same W56
    replace SCA := SCA.other W56 (Ne.symm ne_o_sc)
    replace KP := KP.wr W56 (Or.inl (List.mem_of_getElem? (i := 0) rfl))
    refine k_retv G X d20_59 rfl ?_ (by decide) (by decide)
    exact ⟨rfl, KP, E, FB, FL, FS, FD⟩
  · refine k_aloadN G X d20_17 (pc' := 18) rfl rfl rfl ?_
    refine k_aloadN G X d20_18 (pc' := 19) rfl rfl rfl ?_
    refine k_acmp_eq G X d20_19 (pc' := 49) rfl (by decide) (pc'' := 22) rfl rfl rfl (fun c19 => ?_) (fun c19 => (absurd c19 (by simp)))
    refine k_aloadN G X d20_49 (pc' := 50) rfl rfl rfl ?_
    refine k_dup G X d20_50 (pc' := 51) rfl rfl ?_
    refine k_getF G X (host := "") (Or.inl (w40 hw)) Via.refl FD d20_51 (pc' := 54) rfl (fun T X => ?_)
    refine k_iconst G X d20_54 (pc' := 55) rfl (z := (1 : Int32)) (by decide) ?_
    refine k_isub G X d20_55 (pc' := 56) rfl (z := (1 : Int32)) (by decide) ?_
    refine k_putF G X (host := "") (Or.inl (w40 hw)) Via.refl FD E (Or.inl (w41 hw)) (w2 hw) (ty := .int) (by decide) rfl rfl ge_o d20_56 (pc' := 59) rfl (fun T h56 W56 X => ?_)
    replace O := O.wr W56 ge_o
    replace E := E.wr W56
    replace FB := FB.other W56 (Or.inr (slot_ne (Or.inl (w35 hw)) (Or.inl (w41 hw)) (by decide) (t := (.array .byte)) (t' := .int) (by decide) (by decide)))
    replace FL := FL.other W56 (Or.inr (slot_ne (Or.inl (w71 hw)) (Or.inl (w41 hw)) (by decide) (t := .int) (t' := .int) (by decide) (by decide)))
    replace FS := FS.other W56 (Or.inr (slot_ne (Or.inl (w39 hw)) (Or.inl (w41 hw)) (by decide) (t := (.array (.object "com/example/changeline/changeline/format/JsonOutput$Scope"))) (t' := .int) (by decide) (by decide)))
    replace FD := FD.same W56
    replace SCA := SCA.other W56 (Ne.symm ne_o_sc)
    replace KP := KP.wr W56 (Or.inl (List.mem_of_getElem? (i := 0) rfl))
    refine k_retv G X d20_59 rfl ?_ (by decide) (by decide)
    exact ⟨rfl, KP, E, FB, FL, FS, FD⟩
theorem pn_6 : plainFor (⟨"com/example/changeline/changeline/format/JsonOutput", "jsonValue", "([B)Lcom/example/changeline/changeline/format/JsonOutput;"⟩ : MethodName) = true := plainFor_of_name (by first | (simp [plainName, overriddenIn]; done) | decide +kernel)
set_option maxRecDepth 65536 in
set_option maxHeartbeats 40000000 in
theorem jv00 {Z : State} {a0 : Array Value} (hw : HW a0 Z) (o b x sc a t : Addr) (kb kx ks : ClassId) (L XN N : Nat) (zL zX zN zB : Int32) (f g gs : Nat → Value) (h0 : Heap) (n0 : Nat) (ge_o : n0 ≤ o) (ge_sc : n0 ≤ sc) (O : Old Z n0 h0) (E : Exa Z h0 o "com/example/changeline/changeline/format/JsonOutput") (FB : Fld Z h0 o "com/example/changeline/changeline/format/JsonOutput" "bytes" "[B" (.ref b)) (FL : Fld Z h0 o "com/example/changeline/changeline/format/JsonOutput" "length" "I" (.int zL)) (FS : Fld Z h0 o "com/example/changeline/changeline/format/JsonOutput" "scopes" "[Lcom/example/changeline/changeline/format/JsonOutput$Scope;" (.ref sc)) (FD : Fld Z h0 o "com/example/changeline/changeline/format/JsonOutput" "depth" "I" (.int (1 : Int32))) (SCA : Arf Z h0 sc ks (.object "com/example/changeline/changeline/format/JsonOutput$Scope") 8 gs) (SO : Ovr Z ks "com/example/changeline/changeline/format/JsonOutput$Scope") (ne_o_sc : o ≠ sc) (hL : zL.toInt = L) (hX : zX.toInt = XN) (hN : zN.toInt = (L + XN : Nat)) (hB : zB.toInt = N) (ge_b : n0 ≤ b) (BA : Arf Z h0 b kb .byte N f) (XA : Arf Z h0 x kx .byte XN g) (EA : Exa Z h0 a "com/example/changeline/changeline/format/JsonOutput$Scope") (OA : Fld Z h0 a "java/lang/Enum" "ordinal" "I" (.int 0)) (ET : Exa Z h0 t "com/example/changeline/changeline/format/JsonOutput$Scope") (S_T : Sta Z h0 "com/example/changeline/changeline/format/JsonOutput$Scope" "DOCUMENT" "Lcom/example/changeline/changeline/format/JsonOutput$Scope;" (.ref t)) (hcur : gs 0 = .ref a) (ne_a_sc : a ≠ sc) (ne_b_o : b ≠ o) (ne_x_o : x ≠ o) (ne_x_b : x ≠ b) (ne_b_sc : b ≠ sc) (ne_x_sc : x ≠ sc) (hfit : L + XN ≤ N) :
    MetW Z (⟨"com/example/changeline/changeline/format/JsonOutput", "jsonValue", "([B)Lcom/example/changeline/changeline/format/JsonOutput;"⟩ : MethodName) prog_29_method_13_code 2 (some (.object "com/example/changeline/changeline/format/JsonOutput")) [] ({ frames := 2, cells := 0, slots := 0, locals := 31 } : Room) #[(.ref o), (.ref x)] h0 n0 (fun v h => v = some (.ref o) ∧ Keep h0 h [sc, o, b] ∧ Exa Z h o "com/example/changeline/changeline/format/JsonOutput" ∧ Arf Z h sc ks (.object "com/example/changeline/changeline/format/JsonOutput$Scope") 8 (fun x => if x = 0 then .ref t else gs x) ∧ Fld Z h o "com/example/changeline/changeline/format/JsonOutput" "bytes" "[B" (.ref b) ∧ Fld Z h o "com/example/changeline/changeline/format/JsonOutput" "length" "I" (.int zN) ∧ Fld Z h o "com/example/changeline/changeline/format/JsonOutput" "scopes" "[Lcom/example/changeline/changeline/format/JsonOutput$Scope;" (.ref sc) ∧ Fld Z h o "com/example/changeline/changeline/format/JsonOutput" "depth" "I" (.int (1 : Int32)) ∧ Arf Z h b kb .byte N (fun i => if L ≤ i ∧ i < L + XN then g (0 + (i - L)) else f i)) := by
  refine k_body (f := (fun m => mkF m 0 #[.val (.ref o), .val (.ref x)] [])) pn_6 (fun m => by first | (simp [entryFrame, mkF, argsToLocals, Value.category, maxLocals]; done) | rfl) ?_
  intro Γ T G X
  have KP := Keep.refl h0 [sc, o, b]
  show Go Γ n0 _ T (mkF Γ.m 0 #[.val (.ref o), .val (.ref x)] [])
  refine k_aloadN G X d6_0 (pc' := 1) rfl rfl rfl ?_
  refine k_callP G X (argsL := []) (rest := []) rfl E (w51 hw) (w52 hw) (selP (w2 hw) (w53 hw) (w52 hw) (by decide)) (w53 hw) (w3 hw) (w54 hw) (by decide) (bv0 hw o sc a t ks gs h0 n0 ge_sc O FS FD SCA SO EA OA ET S_T hcur ne_o_sc ne_a_sc) d6_1 pd0 rfl (pc' := 4) rfl rfl (wd := 0) rfl (by decide) (by decide) (by decide) (by decide) (fun T h1 v X q => ?_)
  obtain ⟨rfl, K1, SCA'⟩ := q
  replace S_T := Sta_keepL S_T K1 (allS (Pln_arf SCA) (all0))
  replace O := O.keep K1 (allS ge_sc (all0))
  replace E := E.keep K1
  replace FB := FB.keep K1 (by simp only [List.mem_cons, List.not_mem_nil, or_false, not_or]; exact ne_o_sc)
  replace FL := FL.keep K1 (by simp only [List.mem_cons, List.not_mem_nil, or_false, not_or]; exact ne_o_sc)
  replace FS := FS.keep K1 (by simp only [List.mem_cons, List.not_mem_nil, or_false, not_or]; exact ne_o_sc)
  replace FD := FD.keep K1 (by simp only [List.mem_cons, List.not_mem_nil, or_false, not_or]; exact ne_o_sc)
  replace BA := BA.keep K1 (by simp only [List.mem_cons, List.not_mem_nil, or_false, not_or]; exact ne_b_sc)
  replace XA := XA.keep K1 (by simp only [List.mem_cons, List.not_mem_nil, or_false, not_or]; exact ne_x_sc)
  replace EA := EA.keep K1
  replace OA := OA.keep K1 (by simp only [List.mem_cons, List.not_mem_nil, or_false, not_or]; exact ne_a_sc)
  replace ET := ET.keep K1
  replace KP := KP.trans K1 (allS (Or.inl (List.mem_of_getElem? (i := 0) rfl)) (all0))
  have SCA := SCA'
  show Go Γ n0 _ T (mkF Γ.m 4 #[.val (.ref o), .val (.ref x)] [])
  refine k_aloadN G X d6_4 (pc' := 5) rfl rfl rfl ?_
  refine k_aloadN G X d6_5 (pc' := 6) rfl rfl rfl ?_
  refine k_callP G X (argsL := [(.ref x)]) (rest := []) rfl E (w66 hw) (w67 hw) (selP (w2 hw) (w68 hw) (w67 hw) (by decide)) (w68 hw) (w3 hw) (w69 hw) (by decide) (put0 hw o b x sc kb kx L XN N zL zX zN zB (1 : Int32) f g h1 n0 ge_o ge_b O E FB FL FS FD hL hX hN hB BA XA ne_b_o ne_x_o ne_x_b hfit) d6_6 pd5 rfl (pc' := 9) rfl rfl (wd := 0) rfl (by decide) (by decide) (by decide) (by decide) (fun T h6 v X q => ?_)
  obtain ⟨rfl, K6, E', FB', FL', FS', FD', BA'⟩ := q
  replace S_T := Sta_keepL S_T K6 (allS (Pln_exa E) (allS (Pln_arf BA) (all0)))
  replace O := O.keep K6 (allS ge_o (allS ge_b (all0)))
  replace E := E.keep K6
  replace SCA := SCA.keep K6 (by simp only [List.mem_cons, List.not_mem_nil, or_false, not_or]; exact ⟨(Ne.symm ne_o_sc), ne_b_sc.symm⟩)
  replace XA := XA.keep K6 (by simp only [List.mem_cons, List.not_mem_nil, or_false, not_or]; exact ⟨ne_x_o, ne_x_b⟩)
  replace ET := ET.keep K6
  replace KP := KP.trans K6 (allS (Or.inl (List.mem_of_getElem? (i := 1) rfl)) (allS (Or.inl (List.mem_of_getElem? (i := 2) rfl)) (all0)))
  show Go Γ n0 _ T (mkF Γ.m 9 #[.val (.ref o), .val (.ref x)] [])
  refine k_aloadN G X d6_9 (pc' := 10) rfl rfl rfl ?_
  refine k_reta G X d6_10 (t := (.object "com/example/changeline/changeline/format/JsonOutput")) rfl rfl rfl ?_ (by decide) (by decide)
  exact ⟨rfl, KP, E, SCA, FB', FL', FS', FD', BA'⟩
set_option maxRecDepth 65536 in
set_option maxHeartbeats 40000000 in
theorem jv01 {Z : State} {a0 : Array Value} (hw : HW a0 Z) (o b x sc a t : Addr) (kb kx ks : ClassId) (L XN : Nat) (zL zX zN : Int32) (f g gs : Nat → Value) (h0 : Heap) (n0 : Nat) (ge_o : n0 ≤ o) (ge_sc : n0 ≤ sc) (O : Old Z n0 h0) (E : Exa Z h0 o "com/example/changeline/changeline/format/JsonOutput") (FB : Fld Z h0 o "com/example/changeline/changeline/format/JsonOutput" "bytes" "[B" (.ref b)) (FL : Fld Z h0 o "com/example/changeline/changeline/format/JsonOutput" "length" "I" (.int zL)) (FS : Fld Z h0 o "com/example/changeline/changeline/format/JsonOutput" "scopes" "[Lcom/example/changeline/changeline/format/JsonOutput$Scope;" (.ref sc)) (FD : Fld Z h0 o "com/example/changeline/changeline/format/JsonOutput" "depth" "I" (.int (1 : Int32))) (SCA : Arf Z h0 sc ks (.object "com/example/changeline/changeline/format/JsonOutput$Scope") 8 gs) (SO : Ovr Z ks "com/example/changeline/changeline/format/JsonOutput$Scope") (ne_o_sc : o ≠ sc) (hL : zL.toInt = L) (hX : zX.toInt = XN) (hN : zN.toInt = (L + XN : Nat))  (BA : Arf Z h0 b kb .byte 512 f) (XA : Arf Z h0 x kx .byte XN g) (EA : Exa Z h0 a "com/example/changeline/changeline/format/JsonOutput$Scope") (OA : Fld Z h0 a "java/lang/Enum" "ordinal" "I" (.int 0)) (ET : Exa Z h0 t "com/example/changeline/changeline/format/JsonOutput$Scope") (S_T : Sta Z h0 "com/example/changeline/changeline/format/JsonOutput$Scope" "DOCUMENT" "Lcom/example/changeline/changeline/format/JsonOutput$Scope;" (.ref t)) (hcur : gs 0 = .ref a) (ne_a_sc : a ≠ sc) (ne_b_o : b ≠ o) (ne_x_o : x ≠ o) (ne_x_b : x ≠ b) (ne_b_sc : b ≠ sc) (ne_x_sc : x ≠ sc) (hg1 : 512 < L + XN) (hg2 : L + XN ≤ 1024) :
    MetW Z (⟨"com/example/changeline/changeline/format/JsonOutput", "jsonValue", "([B)Lcom/example/changeline/changeline/format/JsonOutput;"⟩ : MethodName) prog_29_method_13_code 2 (some (.object "com/example/changeline/changeline/format/JsonOutput")) [] ({ frames := 4, cells := 1, slots := 1024, locals := 59 } : Room) #[(.ref o), (.ref x)] h0 n0 (fun v h => v = some (.ref o) ∧ Keep h0 h [sc, o] ∧ Exa Z h o "com/example/changeline/changeline/format/JsonOutput" ∧ Arf Z h sc ks (.object "com/example/changeline/changeline/format/JsonOutput$Scope") 8 (fun x => if x = 0 then .ref t else gs x) ∧ ∃ b' kb', h0.size ≤ b' ∧ Fld Z h o "com/example/changeline/changeline/format/JsonOutput" "bytes" "[B" (.ref b') ∧ Fld Z h o "com/example/changeline/changeline/format/JsonOutput" "length" "I" (.int zN) ∧ Fld Z h o "com/example/changeline/changeline/format/JsonOutput" "scopes" "[Lcom/example/changeline/changeline/format/JsonOutput$Scope;" (.ref sc) ∧ Fld Z h o "com/example/changeline/changeline/format/JsonOutput" "depth" "I" (.int (1 : Int32)) ∧ Arf Z h b' kb' .byte 1024 (fun i => if L ≤ i ∧ i < L + XN then g (0 + (i - L)) else (fun i => if i < 512 then f i else .int 0) i)) := by
  refine k_body (f := (fun m => mkF m 0 #[.val (.ref o), .val (.ref x)] [])) pn_6 (fun m => by first | (simp [entryFrame, mkF, argsToLocals, Value.category, maxLocals]; done) | rfl) ?_
  intro Γ T G X
  have KP := Keep.refl h0 [sc, o]
  show Go Γ n0 _ T (mkF Γ.m 0 #[.val (.ref o), .val (.ref x)] [])
  refine k_aloadN G X d6_0 (pc' := 1) rfl rfl rfl ?_
  refine k_callP G X (argsL := []) (rest := []) rfl E (w51 hw) (w52 hw) (selP (w2 hw) (w53 hw) (w52 hw) (by decide)) (w53 hw) (w3 hw) (w54 hw) (by decide) (bv0 hw o sc a t ks gs h0 n0 ge_sc O FS FD SCA SO EA OA ET S_T hcur ne_o_sc ne_a_sc) d6_1 pd0 rfl (pc' := 4) rfl rfl (wd := 0) rfl (by decide) (by decide) (by decide) (by decide) (fun T h1 v X q => ?_)
  obtain ⟨rfl, K1, SCA'⟩ := q
  replace S_T := Sta_keepL S_T K1 (allS (Pln_arf SCA) (all0))
  replace O := O.keep K1 (allS ge_sc (all0))
  replace E := E.keep K1
  replace FB := FB.keep K1 (by simp only [List.mem_cons, List.not_mem_nil, or_false, not_or]; exact ne_o_sc)
  replace FL := FL.keep K1 (by simp only [List.mem_cons, List.not_mem_nil, or_false, not_or]; exact ne_o_sc)
  replace FS := FS.keep K1 (by simp only [List.mem_cons, List.not_mem_nil, or_false, not_or]; exact ne_o_sc)
  replace FD := FD.keep K1 (by simp only [List.mem_cons, List.not_mem_nil, or_false, not_or]; exact ne_o_sc)
  replace BA := BA.keep K1 (by simp only [List.mem_cons, List.not_mem_nil, or_false, not_or]; exact ne_b_sc)
  replace XA := XA.keep K1 (by simp only [List.mem_cons, List.not_mem_nil, or_false, not_or]; exact ne_x_sc)
  replace EA := EA.keep K1
  replace OA := OA.keep K1 (by simp only [List.mem_cons, List.not_mem_nil, or_false, not_or]; exact ne_a_sc)
  replace ET := ET.keep K1
  replace KP := KP.trans K1 (allS (Or.inl (List.mem_of_getElem? (i := 0) rfl)) (all0))
  have SCA := SCA'
  show Go Γ n0 _ T (mkF Γ.m 4 #[.val (.ref o), .val (.ref x)] [])
  refine k_aloadN G X d6_4 (pc' := 5) rfl rfl rfl ?_
  refine k_aloadN G X d6_5 (pc' := 6) rfl rfl rfl ?_
  refine k_callP G X (argsL := [(.ref x)]) (rest := []) rfl E (w66 hw) (w67 hw) (selP (w2 hw) (w68 hw) (w67 hw) (by decide)) (w68 hw) (w3 hw) (w69 hw) (by decide) (put1 hw o b x sc kb kx L XN zL zX zN (1 : Int32) f g h1 n0 ge_o O E FB FL FS FD hL hX hN BA XA ne_b_o ne_x_o ne_x_b hg1 hg2) d6_6 pd5 rfl (pc' := 9) rfl rfl (wd := 0) rfl (by decide) (by decide) (by decide) (by decide) (fun T h6 v X q => ?_)
  obtain ⟨rfl, K6, E', b', kb', sz_b', FB', FL', FS', FD', BA'⟩ := q
  replace S_T := Sta_keepL S_T K6 (allS (Pln_exa E) (all0))
  replace O := O.keep K6 (allS ge_o (all0))
  replace E := E.keep K6
  replace SCA := SCA.keep K6 (by simp only [List.mem_cons, List.not_mem_nil, or_false, not_or]; exact (Ne.symm ne_o_sc))
  replace XA := XA.keep K6 (by simp only [List.mem_cons, List.not_mem_nil, or_false, not_or]; exact ne_x_o)
  replace ET := ET.keep K6
  replace KP := KP.trans K6 (allS (Or.inl (List.mem_of_getElem? (i := 1) rfl)) (all0))
  show Go Γ n0 _ T (mkF Γ.m 9 #[.val (.ref o), .val (.ref x)] [])
  refine k_aloadN G X d6_9 (pc' := 10) rfl rfl rfl ?_
  refine k_reta G X d6_10 (t := (.object "com/example/changeline/changeline/format/JsonOutput")) rfl rfl rfl ?_ (by decide) (by decide)
  exact ⟨rfl, KP, E, SCA, b', kb', Nat.le_trans K1.1 sz_b', FB', FL', FS', FD', BA'⟩
set_option maxRecDepth 65536 in
set_option maxHeartbeats 40000000 in
theorem jv50 {Z : State} {a0 : Array Value} (hw : HW a0 Z) (o b x sc a t : Addr) (kb kx ks : ClassId) (L XN N : Nat) (zL zX zN zB : Int32) (f g gs : Nat → Value) (h0 : Heap) (n0 : Nat) (ge_o : n0 ≤ o) (ge_sc : n0 ≤ sc) (O : Old Z n0 h0) (E : Exa Z h0 o "com/example/changeline/changeline/format/JsonOutput") (FB : Fld Z h0 o "com/example/changeline/changeline/format/JsonOutput" "bytes" "[B" (.ref b)) (FL : Fld Z h0 o "com/example/changeline/changeline/format/JsonOutput" "length" "I" (.int zL)) (FS : Fld Z h0 o "com/example/changeline/changeline/format/JsonOutput" "scopes" "[Lcom/example/changeline/changeline/format/JsonOutput$Scope;" (.ref sc)) (FD : Fld Z h0 o "com/example/changeline/changeline/format/JsonOutput" "depth" "I" (.int (2 : Int32))) (SCA : Arf Z h0 sc ks (.object "com/example/changeline/changeline/format/JsonOutput$Scope") 8 gs) (SO : Ovr Z ks "com/example/changeline/changeline/format/JsonOutput$Scope") (ne_o_sc : o ≠ sc) (hL : zL.toInt = L) (hX : zX.toInt = XN) (hN : zN.toInt = (L + XN : Nat)) (hB : zB.toInt = N) (ge_b : n0 ≤ b) (BA : Arf Z h0 b kb .byte N f) (XA : Arf Z h0 x kx .byte XN g) (EA : Exa Z h0 a "com/example/changeline/changeline/format/JsonOutput$Scope") (OA : Fld Z h0 a "java/lang/Enum" "ordinal" "I" (.int 5)) (ET : Exa Z h0 t "com/example/changeline/changeline/format/JsonOutput$Scope") (S_T : Sta Z h0 "com/example/changeline/changeline/format/JsonOutput$Scope" "ARRAY" "Lcom/example/changeline/changeline/format/JsonOutput$Scope;" (.ref t)) (hcur : gs 1 = .ref a) (ne_a_sc : a ≠ sc) (ne_b_o : b ≠ o) (ne_x_o : x ≠ o) (ne_x_b : x ≠ b) (ne_b_sc : b ≠ sc) (ne_x_sc : x ≠ sc) (hfit : L + XN ≤ N) :
    MetW Z (⟨"com/example/changeline/changeline/format/JsonOutput", "jsonValue", "([B)Lcom/example/changeline/changeline/format/JsonOutput;"⟩ : MethodName) prog_29_method_13_code 2 (some (.object "com/example/changeline/changeline/format/JsonOutput")) [] ({ frames := 2, cells := 0, slots := 0, locals := 31 } : Room) #[(.ref o), (.ref x)] h0 n0 (fun v h => v = some (.ref o) ∧ Keep h0 h [sc, o, b] ∧ Exa Z h o "com/example/changeline/changeline/format/JsonOutput" ∧ Arf Z h sc ks (.object "com/example/changeline/changeline/format/JsonOutput$Scope") 8 (fun x => if x = 1 then .ref t else gs x) ∧ Fld Z h o "com/example/changeline/changeline/format/JsonOutput" "bytes" "[B" (.ref b) ∧ Fld Z h o "com/example/changeline/changeline/format/JsonOutput" "length" "I" (.int zN) ∧ Fld Z h o "com/example/changeline/changeline/format/JsonOutput" "scopes" "[Lcom/example/changeline/changeline/format/JsonOutput$Scope;" (.ref sc) ∧ Fld Z h o "com/example/changeline/changeline/format/JsonOutput" "depth" "I" (.int (2 : Int32)) ∧ Arf Z h b kb .byte N (fun i => if L ≤ i ∧ i < L + XN then g (0 + (i - L)) else f i)) := by
  refine k_body (f := (fun m => mkF m 0 #[.val (.ref o), .val (.ref x)] [])) pn_6 (fun m => by first | (simp [entryFrame, mkF, argsToLocals, Value.category, maxLocals]; done) | rfl) ?_
  intro Γ T G X
  have KP := Keep.refl h0 [sc, o, b]
  show Go Γ n0 _ T (mkF Γ.m 0 #[.val (.ref o), .val (.ref x)] [])
  refine k_aloadN G X d6_0 (pc' := 1) rfl rfl rfl ?_
  refine k_callP G X (argsL := []) (rest := []) rfl E (w51 hw) (w52 hw) (selP (w2 hw) (w53 hw) (w52 hw) (by decide)) (w53 hw) (w3 hw) (w54 hw) (by decide) (bv5 hw o sc a t ks gs h0 n0 ge_sc O FS FD SCA SO EA OA ET S_T hcur ne_o_sc ne_a_sc) d6_1 pd0 rfl (pc' := 4) rfl rfl (wd := 0) rfl (by decide) (by decide) (by decide) (by decide) (fun T h1 v X q => ?_)
  obtain ⟨rfl, K1, SCA'⟩ := q
  replace S_T := Sta_keepL S_T K1 (allS (Pln_arf SCA) (all0))
  replace O := O.keep K1 (allS ge_sc (all0))
  replace E := E.keep K1
  replace FB := FB.keep K1 (by simp only [List.mem_cons, List.not_mem_nil, or_false, not_or]; exact ne_o_sc)
  replace FL := FL.keep K1 (by simp only [List.mem_cons, List.not_mem_nil, or_false, not_or]; exact ne_o_sc)
  replace FS := FS.keep K1 (by simp only [List.mem_cons, List.not_mem_nil, or_false, not_or]; exact ne_o_sc)
  replace FD := FD.keep K1 (by simp only [List.mem_cons, List.not_mem_nil, or_false, not_or]; exact ne_o_sc)
  replace BA := BA.keep K1 (by simp only [List.mem_cons, List.not_mem_nil, or_false, not_or]; exact ne_b_sc)
  replace XA := XA.keep K1 (by simp only [List.mem_cons, List.not_mem_nil, or_false, not_or]; exact ne_x_sc)
  replace EA := EA.keep K1
  replace OA := OA.keep K1 (by simp only [List.mem_cons, List.not_mem_nil, or_false, not_or]; exact ne_a_sc)
  replace ET := ET.keep K1
  replace KP := KP.trans K1 (allS (Or.inl (List.mem_of_getElem? (i := 0) rfl)) (all0))
  have SCA := SCA'
  show Go Γ n0 _ T (mkF Γ.m 4 #[.val (.ref o), .val (.ref x)] [])
  refine k_aloadN G X d6_4 (pc' := 5) rfl rfl rfl ?_
  refine k_aloadN G X d6_5 (pc' := 6) rfl rfl rfl ?_
  refine k_callP G X (argsL := [(.ref x)]) (rest := []) rfl E (w66 hw) (w67 hw) (selP (w2 hw) (w68 hw) (w67 hw) (by decide)) (w68 hw) (w3 hw) (w69 hw) (by decide) (put0 hw o b x sc kb kx L XN N zL zX zN zB (2 : Int32) f g h1 n0 ge_o ge_b O E FB FL FS FD hL hX hN hB BA XA ne_b_o ne_x_o ne_x_b hfit) d6_6 pd5 rfl (pc' := 9) rfl rfl (wd := 0) rfl (by decide) (by decide) (by decide) (by decide) (fun T h6 v X q => ?_)
  obtain ⟨rfl, K6, E', FB', FL', FS', FD', BA'⟩ := q
  replace S_T := Sta_keepL S_T K6 (allS (Pln_exa E) (allS (Pln_arf BA) (all0)))
  replace O := O.keep K6 (allS ge_o (allS ge_b (all0)))
  replace E := E.keep K6
  replace SCA := SCA.keep K6 (by simp only [List.mem_cons, List.not_mem_nil, or_false, not_or]; exact ⟨(Ne.symm ne_o_sc), ne_b_sc.symm⟩)
  replace XA := XA.keep K6 (by simp only [List.mem_cons, List.not_mem_nil, or_false, not_or]; exact ⟨ne_x_o, ne_x_b⟩)
  replace ET := ET.keep K6
  replace KP := KP.trans K6 (allS (Or.inl (List.mem_of_getElem? (i := 1) rfl)) (allS (Or.inl (List.mem_of_getElem? (i := 2) rfl)) (all0)))
  show Go Γ n0 _ T (mkF Γ.m 9 #[.val (.ref o), .val (.ref x)] [])
  refine k_aloadN G X d6_9 (pc' := 10) rfl rfl rfl ?_
  refine k_reta G X d6_10 (t := (.object "com/example/changeline/changeline/format/JsonOutput")) rfl rfl rfl ?_ (by decide) (by decide)
  exact ⟨rfl, KP, E, SCA, FB', FL', FS', FD', BA'⟩
set_option maxRecDepth 65536 in
set_option maxHeartbeats 40000000 in
theorem jv51 {Z : State} {a0 : Array Value} (hw : HW a0 Z) (o b x sc a t : Addr) (kb kx ks : ClassId) (L XN : Nat) (zL zX zN : Int32) (f g gs : Nat → Value) (h0 : Heap) (n0 : Nat) (ge_o : n0 ≤ o) (ge_sc : n0 ≤ sc) (O : Old Z n0 h0) (E : Exa Z h0 o "com/example/changeline/changeline/format/JsonOutput") (FB : Fld Z h0 o "com/example/changeline/changeline/format/JsonOutput" "bytes" "[B" (.ref b)) (FL : Fld Z h0 o "com/example/changeline/changeline/format/JsonOutput" "length" "I" (.int zL)) (FS : Fld Z h0 o "com/example/changeline/changeline/format/JsonOutput" "scopes" "[Lcom/example/changeline/changeline/format/JsonOutput$Scope;" (.ref sc)) (FD : Fld Z h0 o "com/example/changeline/changeline/format/JsonOutput" "depth" "I" (.int (2 : Int32))) (SCA : Arf Z h0 sc ks (.object "com/example/changeline/changeline/format/JsonOutput$Scope") 8 gs) (SO : Ovr Z ks "com/example/changeline/changeline/format/JsonOutput$Scope") (ne_o_sc : o ≠ sc) (hL : zL.toInt = L) (hX : zX.toInt = XN) (hN : zN.toInt = (L + XN : Nat))  (BA : Arf Z h0 b kb .byte 512 f) (XA : Arf Z h0 x kx .byte XN g) (EA : Exa Z h0 a "com/example/changeline/changeline/format/JsonOutput$Scope") (OA : Fld Z h0 a "java/lang/Enum" "ordinal" "I" (.int 5)) (ET : Exa Z h0 t "com/example/changeline/changeline/format/JsonOutput$Scope") (S_T : Sta Z h0 "com/example/changeline/changeline/format/JsonOutput$Scope" "ARRAY" "Lcom/example/changeline/changeline/format/JsonOutput$Scope;" (.ref t)) (hcur : gs 1 = .ref a) (ne_a_sc : a ≠ sc) (ne_b_o : b ≠ o) (ne_x_o : x ≠ o) (ne_x_b : x ≠ b) (ne_b_sc : b ≠ sc) (ne_x_sc : x ≠ sc) (hg1 : 512 < L + XN) (hg2 : L + XN ≤ 1024) :
    MetW Z (⟨"com/example/changeline/changeline/format/JsonOutput", "jsonValue", "([B)Lcom/example/changeline/changeline/format/JsonOutput;"⟩ : MethodName) prog_29_method_13_code 2 (some (.object "com/example/changeline/changeline/format/JsonOutput")) [] ({ frames := 4, cells := 1, slots := 1024, locals := 59 } : Room) #[(.ref o), (.ref x)] h0 n0 (fun v h => v = some (.ref o) ∧ Keep h0 h [sc, o] ∧ Exa Z h o "com/example/changeline/changeline/format/JsonOutput" ∧ Arf Z h sc ks (.object "com/example/changeline/changeline/format/JsonOutput$Scope") 8 (fun x => if x = 1 then .ref t else gs x) ∧ ∃ b' kb', h0.size ≤ b' ∧ Fld Z h o "com/example/changeline/changeline/format/JsonOutput" "bytes" "[B" (.ref b') ∧ Fld Z h o "com/example/changeline/changeline/format/JsonOutput" "length" "I" (.int zN) ∧ Fld Z h o "com/example/changeline/changeline/format/JsonOutput" "scopes" "[Lcom/example/changeline/changeline/format/JsonOutput$Scope;" (.ref sc) ∧ Fld Z h o "com/example/changeline/changeline/format/JsonOutput" "depth" "I" (.int (2 : Int32)) ∧ Arf Z h b' kb' .byte 1024 (fun i => if L ≤ i ∧ i < L + XN then g (0 + (i - L)) else (fun i => if i < 512 then f i else .int 0) i)) := by
  refine k_body (f := (fun m => mkF m 0 #[.val (.ref o), .val (.ref x)] [])) pn_6 (fun m => by first | (simp [entryFrame, mkF, argsToLocals, Value.category, maxLocals]; done) | rfl) ?_
  intro Γ T G X
  have KP := Keep.refl h0 [sc, o]
  show Go Γ n0 _ T (mkF Γ.m 0 #[.val (.ref o), .val (.ref x)] [])
  refine k_aloadN G X d6_0 (pc' := 1) rfl rfl rfl ?_
  refine k_callP G X (argsL := []) (rest := []) rfl E (w51 hw) (w52 hw) (selP (w2 hw) (w53 hw) (w52 hw) (by decide)) (w53 hw) (w3 hw) (w54 hw) (by decide) (bv5 hw o sc a t ks gs h0 n0 ge_sc O FS FD SCA SO EA OA ET S_T hcur ne_o_sc ne_a_sc) d6_1 pd0 rfl (pc' := 4) rfl rfl (wd := 0) rfl (by decide) (by decide) (by decide) (by decide) (fun T h1 v X q => ?_)
  obtain ⟨rfl, K1, SCA'⟩ := q
  replace S_T := Sta_keepL S_T K1 (allS (Pln_arf SCA) (all0))
  replace O := O.keep K1 (allS ge_sc (all0))
  replace E := E.keep K1
  replace FB := FB.keep K1 (by simp only [List.mem_cons, List.not_mem_nil, or_false, not_or]; exact ne_o_sc)
  replace FL := FL.keep K1 (by simp only [List.mem_cons, List.not_mem_nil, or_false, not_or]; exact ne_o_sc)
  replace FS := FS.keep K1 (by simp only [List.mem_cons, List.not_mem_nil, or_false, not_or]; exact ne_o_sc)
  replace FD := FD.keep K1 (by simp only [List.mem_cons, List.not_mem_nil, or_false, not_or]; exact ne_o_sc)
  replace BA := BA.keep K1 (by simp only [List.mem_cons, List.not_mem_nil, or_false, not_or]; exact ne_b_sc)
  replace XA := XA.keep K1 (by simp only [List.mem_cons, List.not_mem_nil, or_false, not_or]; exact ne_x_sc)
  replace EA := EA.keep K1
  replace OA := OA.keep K1 (by simp only [List.mem_cons, List.not_mem_nil, or_false, not_or]; exact ne_a_sc)
  replace ET := ET.keep K1
  replace KP := KP.trans K1 (allS (Or.inl (List.mem_of_getElem? (i := 0) rfl)) (all0))
  have SCA := SCA'
  show Go Γ n0 _ T (mkF Γ.m 4 #[.val (.ref o), .val (.ref x)] [])
  refine k_aloadN G X d6_4 (pc' := 5) rfl rfl rfl ?_
  refine k_aloadN G X d6_5 (pc' := 6) rfl rfl rfl ?_
  refine k_callP G X (argsL := [(.ref x)]) (rest := []) rfl E (w66 hw) (w67 hw) (selP (w2 hw) (w68 hw) (w67 hw) (by decide)) (w68 hw) (w3 hw) (w69 hw) (by decide) (put1 hw o b x sc kb kx L XN zL zX zN (2 : Int32) f g h1 n0 ge_o O E FB FL FS FD hL hX hN BA XA ne_b_o ne_x_o ne_x_b hg1 hg2) d6_6 pd5 rfl (pc' := 9) rfl rfl (wd := 0) rfl (by decide) (by decide) (by decide) (by decide) (fun T h6 v X q => ?_)
  obtain ⟨rfl, K6, E', b', kb', sz_b', FB', FL', FS', FD', BA'⟩ := q
  replace S_T := Sta_keepL S_T K6 (allS (Pln_exa E) (all0))
  replace O := O.keep K6 (allS ge_o (all0))
  replace E := E.keep K6
  replace SCA := SCA.keep K6 (by simp only [List.mem_cons, List.not_mem_nil, or_false, not_or]; exact (Ne.symm ne_o_sc))
  replace XA := XA.keep K6 (by simp only [List.mem_cons, List.not_mem_nil, or_false, not_or]; exact ne_x_o)
  replace ET := ET.keep K6
  replace KP := KP.trans K6 (allS (Or.inl (List.mem_of_getElem? (i := 1) rfl)) (all0))
  show Go Γ n0 _ T (mkF Γ.m 9 #[.val (.ref o), .val (.ref x)] [])
  refine k_aloadN G X d6_9 (pc' := 10) rfl rfl rfl ?_
  refine k_reta G X d6_10 (t := (.object "com/example/changeline/changeline/format/JsonOutput")) rfl rfl rfl ?_ (by decide) (by decide)
  exact ⟨rfl, KP, E, SCA, b', kb', Nat.le_trans K1.1 sz_b', FB', FL', FS', FD', BA'⟩
theorem pn_16 : plainFor (⟨"com/example/changeline/changeline/format/JsonOutput", "beginArray", "()Lcom/example/changeline/changeline/format/JsonOutput;"⟩ : MethodName) = true := plainFor_of_name (by first | (simp [plainName, overriddenIn]; done) | decide +kernel)
set_option maxRecDepth 65536 in
set_option maxHeartbeats 40000000 in
theorem begA {Z : State} {a0 : Array Value} (hw : HW a0 Z) (o b sc a t t2 : Addr) (kb ks : ClassId) (L N : Nat) (zL zN zB : Int32) (f gs : Nat → Value) (h0 : Heap) (n0 : Nat) (ge_o : n0 ≤ o) (ge_sc : n0 ≤ sc) (O : Old Z n0 h0) (E : Exa Z h0 o "com/example/changeline/changeline/format/JsonOutput") (FB : Fld Z h0 o "com/example/changeline/changeline/format/JsonOutput" "bytes" "[B" (.ref b)) (FL : Fld Z h0 o "com/example/changeline/changeline/format/JsonOutput" "length" "I" (.int zL)) (FS : Fld Z h0 o "com/example/changeline/changeline/format/JsonOutput" "scopes" "[Lcom/example/changeline/changeline/format/JsonOutput$Scope;" (.ref sc)) (FD : Fld Z h0 o "com/example/changeline/changeline/format/JsonOutput" "depth" "I" (.int (1 : Int32))) (SCA : Arf Z h0 sc ks (.object "com/example/changeline/changeline/format/JsonOutput$Scope") 8 gs) (SO : Ovr Z ks "com/example/changeline/changeline/format/JsonOutput$Scope") (ne_o_sc : o ≠ sc) (hL : zL.toInt = L) (hN : zN.toInt = (L + 1 : Nat)) (hB : zB.toInt = N) (ge_b : n0 ≤ b) (BA : Arf Z h0 b kb .byte N f) (EA : Exa Z h0 a "com/example/changeline/changeline/format/JsonOutput$Scope") (OA : Fld Z h0 a "java/lang/Enum" "ordinal" "I" (.int 0)) (ET : Exa Z h0 t "com/example/changeline/changeline/format/JsonOutput$Scope") (S_T : Sta Z h0 "com/example/changeline/changeline/format/JsonOutput$Scope" "DOCUMENT" "Lcom/example/changeline/changeline/format/JsonOutput$Scope;" (.ref t)) (ET2 : Exa Z h0 t2 "com/example/changeline/changeline/format/JsonOutput$Scope") (S_T2 : Sta Z h0 "com/example/changeline/changeline/format/JsonOutput$Scope" "EMPTY_ARRAY" "Lcom/example/changeline/changeline/format/JsonOutput$Scope;" (.ref t2)) (hcur : gs 0 = .ref a) (ne_a_sc : a ≠ sc) (ne_b_o : b ≠ o) (ne_b_sc : b ≠ sc) (hfit : L + 1 ≤ N) :
    MetW Z (⟨"com/example/changeline/changeline/format/JsonOutput", "beginArray", "()Lcom/example/changeline/changeline/format/JsonOutput;"⟩ : MethodName) prog_29_method_5_code 1 (some (.object "com/example/changeline/changeline/format/JsonOutput")) [] ({ frames := 2, cells := 0, slots := 0, locals := 26 } : Room) #[(.ref o)] h0 n0 (fun v h => v = some (.ref o) ∧ Keep h0 h [sc, o, b] ∧ Exa Z h o "com/example/changeline/changeline/format/JsonOutput" ∧ Fld Z h o "com/example/changeline/changeline/format/JsonOutput" "bytes" "[B" (.ref b) ∧ Fld Z h o "com/example/changeline/changeline/format/JsonOutput" "length" "I" (.int zN) ∧ Fld Z h o "com/example/changeline/changeline/format/JsonOutput" "scopes" "[Lcom/example/changeline/changeline/format/JsonOutput$Scope;" (.ref sc) ∧ Fld Z h o "com/example/changeline/changeline/format/JsonOutput" "depth" "I" (.int (2 : Int32)) ∧ Arf Z h b kb .byte N (fun x => if x = L then .int (91 : Int32).toInt8.toInt32 else f x) ∧ Arf Z h sc ks (.object "com/example/changeline/changeline/format/JsonOutput$Scope") 8 (fun x => if x = 1 then .ref t2 else (fun x => if x = 0 then .ref t else gs x) x)) := by
  refine k_body (f := (fun m => mkF m 0 #[.val (.ref o)] [])) pn_16 (fun m => by first | (simp [entryFrame, mkF, argsToLocals, Value.category, maxLocals]; done) | rfl) ?_
  intro Γ T G X
  have KP := Keep.refl h0 [sc, o, b]
  show Go Γ n0 _ T (mkF Γ.m 0 #[.val (.ref o)] [])
  refine k_aloadN G X d16_0 (pc' := 1) rfl rfl rfl ?_
  refine k_callP G X (argsL := []) (rest := []) rfl E (w51 hw) (w52 hw) (selP (w2 hw) (w53 hw) (w52 hw) (by decide)) (w53 hw) (w3 hw) (w54 hw) (by decide) (bv0 hw o sc a t ks gs h0 n0 ge_sc O FS FD SCA SO EA OA ET S_T hcur ne_o_sc ne_a_sc) d16_1 pd0 rfl (pc' := 4) rfl rfl (wd := 0) rfl (by decide) (by decide) (by decide) (by decide) (fun T h1 v X q => ?_)
  obtain ⟨rfl, K1, SCA'⟩ := q
  replace S_T := Sta_keepL S_T K1 (allS (Pln_arf SCA) (all0))
  replace S_T2 := Sta_keepL S_T2 K1 (allS (Pln_arf SCA) (all0))
  replace O := O.keep K1 (allS ge_sc (all0))
  replace E := E.keep K1
  replace FB := FB.keep K1 (by simp only [List.mem_cons, List.not_mem_nil, or_false, not_or]; exact ne_o_sc)
  replace FL := FL.keep K1 (by simp only [List.mem_cons, List.not_mem_nil, or_false, not_or]; exact ne_o_sc)
  replace FS := FS.keep K1 (by simp only [List.mem_cons, List.not_mem_nil, or_false, not_or]; exact ne_o_sc)
  replace FD := FD.keep K1 (by simp only [List.mem_cons, List.not_mem_nil, or_false, not_or]; exact ne_o_sc)
  replace BA := BA.keep K1 (by simp only [List.mem_cons, List.not_mem_nil, or_false, not_or]; exact ne_b_sc)
  replace EA := EA.keep K1
  replace OA := OA.keep K1 (by simp only [List.mem_cons, List.not_mem_nil, or_false, not_or]; exact ne_a_sc)
  replace ET := ET.keep K1
  replace ET2 := ET2.keep K1
  replace KP := KP.trans K1 (allS (Or.inl (List.mem_of_getElem? (i := 0) rfl)) (all0))
  have SCA := SCA'
  show Go Γ n0 _ T (mkF Γ.m 4 #[.val (.ref o)] [])
  refine k_aloadN G X d16_4 (pc' := 5) rfl rfl rfl ?_
  refine k_bipush G X d16_5 (pc' := 7) rfl (z := (91 : Int32)) (by decide) ?_
  refine k_callP G X (argsL := [(.int (91 : Int32))]) (rest := []) rfl E (w106 hw) (w107 hw) (selP (w2 hw) (w108 hw) (w107 hw) (by decide)) (w108 hw) (w3 hw) (w109 hw) (by decide) (putc hw o b sc kb L N zL zN zB (1 : Int32) (91 : Int32) f h1 n0 ge_o ge_b O E FB FL FS FD hL hN hB BA ne_b_o hfit) d16_7 pd6 rfl (pc' := 10) rfl rfl (wd := 0) rfl (by decide) (by decide) (by decide) (by decide) (fun T h7 v X q => ?_)
  obtain ⟨rfl, KC, E', FB', FL', FS', FD', BA'⟩ := q
  replace S_T := Sta_keepL S_T KC (allS (Pln_exa E) (allS (Pln_arf BA) (all0)))
  replace S_T2 := Sta_keepL S_T2 KC (allS (Pln_exa E) (allS (Pln_arf BA) (all0)))
  replace O := O.keep KC (allS ge_o (allS ge_b (all0)))
  replace E := E.keep KC
  replace SCA := SCA.keep KC (by simp only [List.mem_cons, List.not_mem_nil, or_false, not_or]; exact ⟨(Ne.symm ne_o_sc), ne_b_sc.symm⟩)
  replace ET := ET.keep KC
  replace ET2 := ET2.keep KC
  replace KP := KP.trans KC (allS (Or.inl (List.mem_of_getElem? (i := 1) rfl)) (allS (Or.inl (List.mem_of_getElem? (i := 2) rfl)) (all0)))
  have FB := FB'
  have FL := FL'
  have FS := FS'
  have FD := FD'
  have BA := BA'
  show Go Γ n0 _ T (mkF Γ.m 10 #[.val (.ref o)] [])
  refine k_aloadN G X d16_10 (pc' := 11) rfl rfl rfl ?_
  refine k_getS G X (host := "") (Or.inl (w110 hw)) Via.refl S_T2 d16_11 (pc' := 14) rfl (fun T X => ?_)
  refine k_callP G X (argsL := [(.ref t2)]) (rest := []) rfl E (w112 hw) (w113 hw) (selP (w2 hw) (w114 hw) (w113 hw) (by decide)) (w114 hw) (w3 hw) (w115 hw) (by decide) (push1 hw o b sc t2 ks zN _ h7 n0 ge_o ge_sc O E FB FL FS FD SCA SO ne_o_sc ET2) d16_14 pd7 rfl (pc' := 17) rfl rfl (wd := 0) rfl (by decide) (by decide) (by decide) (by decide) (fun T h14 v X q => ?_)
  obtain ⟨rfl, K14, E', FB', FL', FS', FD', SCA'⟩ := q
  replace S_T := Sta_keepL S_T K14 (allS (Pln_exa E) (allS (Pln_arf SCA) (all0)))
  replace S_T2 := Sta_keepL S_T2 K14 (allS (Pln_exa E) (allS (Pln_arf SCA) (all0)))
  replace O := O.keep K14 (allS ge_o (allS ge_sc (all0)))
  replace E := E.keep K14
  replace ET := ET.keep K14
  replace ET2 := ET2.keep K14
  replace KP := KP.trans K14 (allS (Or.inl (List.mem_of_getElem? (i := 1) rfl)) (allS (Or.inl (List.mem_of_getElem? (i := 0) rfl)) (all0)))
  replace BA := BA.keep K14 (by simp only [List.mem_cons, List.not_mem_nil, or_false, not_or]; exact ⟨ne_b_o, ne_b_sc⟩)
  show Go Γ n0 _ T (mkF Γ.m 17 #[.val (.ref o)] [])
  refine k_aloadN G X d16_17 (pc' := 18) rfl rfl rfl ?_
  refine k_reta G X d16_18 (t := (.object "com/example/changeline/changeline/format/JsonOutput")) rfl rfl rfl ?_ (by decide) (by decide)
  exact ⟨rfl, KP, E, FB', FL', FS', FD', BA, SCA'⟩
theorem pn_19 : plainFor (⟨"com/example/changeline/changeline/format/JsonOutput", "endArray", "()Lcom/example/changeline/changeline/format/JsonOutput;"⟩ : MethodName) = true := plainFor_of_name (by first | (simp [plainName, overriddenIn]; done) | decide +kernel)
set_option maxRecDepth 65536 in
set_option maxHeartbeats 40000000 in
theorem endA {Z : State} {a0 : Array Value} (hw : HW a0 Z) (o b sc t t2 : Addr) (kb ks : ClassId) (L N : Nat) (zL zN zB : Int32) (f gs : Nat → Value) (h0 : Heap) (n0 : Nat) (ge_o : n0 ≤ o) (ge_sc : n0 ≤ sc) (O : Old Z n0 h0) (E : Exa Z h0 o "com/example/changeline/changeline/format/JsonOutput") (FB : Fld Z h0 o "com/example/changeline/changeline/format/JsonOutput" "bytes" "[B" (.ref b)) (FL : Fld Z h0 o "com/example/changeline/changeline/format/JsonOutput" "length" "I" (.int zL)) (FS : Fld Z h0 o "com/example/changeline/changeline/format/JsonOutput" "scopes" "[Lcom/example/changeline/changeline/format/JsonOutput$Scope;" (.ref sc)) (FD : Fld Z h0 o "com/example/changeline/changeline/format/JsonOutput" "depth" "I" (.int (2 : Int32))) (SCA : Arf Z h0 sc ks (.object "com/example/changeline/changeline/format/JsonOutput$Scope") 8 gs) (SO : Ovr Z ks "com/example/changeline/changeline/format/JsonOutput$Scope") (ne_o_sc : o ≠ sc) (hL : zL.toInt = L) (hN : zN.toInt = (L + 1 : Nat)) (hB : zB.toInt = N) (ge_b : n0 ≤ b) (BA : Arf Z h0 b kb .byte N f) (S_T2 : Sta Z h0 "com/example/changeline/changeline/format/JsonOutput$Scope" "EMPTY_ARRAY" "Lcom/example/changeline/changeline/format/JsonOutput$Scope;" (.ref t2)) (S_T : Sta Z h0 "com/example/changeline/changeline/format/JsonOutput$Scope" "ARRAY" "Lcom/example/changeline/changeline/format/JsonOutput$Scope;" (.ref t)) (hcur : gs 1 = .ref t) (ne_b_o : b ≠ o) (ne_b_sc : b ≠ sc) (hfit : L + 1 ≤ N) :
    MetW Z (⟨"com/example/changeline/changeline/format/JsonOutput", "endArray", "()Lcom/example/changeline/changeline/format/JsonOutput;"⟩ : MethodName) prog_29_method_6_code 1 (some (.object "com/example/changeline/changeline/format/JsonOutput")) [] ({ frames := 2, cells := 0, slots := 0, locals := 26 } : Room) #[(.ref o)] h0 n0 (fun v h => v = some (.ref o) ∧ Keep h0 h [o, b] ∧ Exa Z h o "com/example/changeline/changeline/format/JsonOutput" ∧ Fld Z h o "com/example/changeline/changeline/format/JsonOutput" "bytes" "[B" (.ref b) ∧ Fld Z h o "com/example/changeline/changeline/format/JsonOutput" "length" "I" (.int zN) ∧ Fld Z h o "com/example/changeline/changeline/format/JsonOutput" "scopes" "[Lcom/example/changeline/changeline/format/JsonOutput$Scope;" (.ref sc) ∧ Fld Z h o "com/example/changeline/changeline/format/JsonOutput" "depth" "I" (.int (1 : Int32)) ∧ Arf Z h b kb .byte N (fun x => if x = L then .int (93 : Int32).toInt8.toInt32 else f x)) := by
  refine k_body (f := (fun m => mkF m 0 #[.val (.ref o)] [])) pn_19 (fun m => by first | (simp [entryFrame, mkF, argsToLocals, Value.category, maxLocals]; done) | rfl) ?_
  intro Γ T G X
  have KP := Keep.refl h0 [o, b]
  show Go Γ n0 _ T (mkF Γ.m 0 #[.val (.ref o)] [])
  refine k_aloadN G X d19_0 (pc' := 1) rfl rfl rfl ?_
  refine k_getS G X (host := "") (Or.inl (w110 hw)) Via.refl S_T2 d19_1 (pc' := 4) rfl (fun T X => ?_)
  refine k_getS G X (host := "") (Or.inl (w116 hw)) Via.refl S_T d19_4 (pc' := 7) rfl (fun T X => ?_)
  refine k_callP G X (argsL := [(.ref t2), (.ref t)]) (rest := []) rfl E (w123 hw) (w124 hw) (selP (w2 hw) (w125 hw) (w124 hw) (by decide)) (w125 hw) (w3 hw) (w126 hw) (by decide) (close2 hw o b sc t2 t ks zL gs h0 n0 ge_o ge_sc O E FB FL FS FD SCA SO ne_o_sc hcur) d19_7 pd8 rfl (pc' := 10) rfl rfl (wd := 0) rfl (by decide) (by decide) (by decide) (by decide) (fun T h7 v X q => ?_)
  obtain ⟨rfl, K7, E', FB', FL', FS', FD'⟩ := q
  replace S_T := Sta_keepL S_T K7 (allS (Pln_exa E) (all0))
  replace S_T2 := Sta_keepL S_T2 K7 (allS (Pln_exa E) (all0))
  replace O := O.keep K7 (allS ge_o (all0))
  replace E := E.keep K7
  replace SCA := SCA.keep K7 (by simp only [List.mem_cons, List.not_mem_nil, or_false, not_or]; exact (Ne.symm ne_o_sc))
  replace BA := BA.keep K7 (by simp only [List.mem_cons, List.not_mem_nil, or_false, not_or]; exact ne_b_o)
  replace KP := KP.trans K7 (allS (Or.inl (List.mem_of_getElem? (i := 0) rfl)) (all0))
  have FB := FB'
  have FL := FL'
  have FS := FS'
  have FD := FD'
  show Go Γ n0 _ T (mkF Γ.m 10 #[.val (.ref o)] [])
  refine k_aloadN G X d19_10 (pc' := 11) rfl rfl rfl ?_
  refine k_bipush G X d19_11 (pc' := 13) rfl (z := (93 : Int32)) (by decide) ?_
  refine k_callP G X (argsL := [(.int (93 : Int32))]) (rest := []) rfl E (w106 hw) (w107 hw) (selP (w2 hw) (w108 hw) (w107 hw) (by decide)) (w108 hw) (w3 hw) (w109 hw) (by decide) (putc hw o b sc kb L N zL zN zB (1 : Int32) (93 : Int32) f h7 n0 ge_o ge_b O E FB FL FS FD hL hN hB BA ne_b_o hfit) d19_13 pd6 rfl (pc' := 16) rfl rfl (wd := 0) rfl (by decide) (by decide) (by decide) (by decide) (fun T h13 v X q => ?_)
  obtain ⟨rfl, KC, E', FB', FL', FS', FD', BA'⟩ := q
  replace S_T := Sta_keepL S_T KC (allS (Pln_exa E) (allS (Pln_arf BA) (all0)))
  replace S_T2 := Sta_keepL S_T2 KC (allS (Pln_exa E) (allS (Pln_arf BA) (all0)))
  replace O := O.keep KC (allS ge_o (allS ge_b (all0)))
  replace E := E.keep KC
  replace SCA := SCA.keep KC (by simp only [List.mem_cons, List.not_mem_nil, or_false, not_or]; exact ⟨(Ne.symm ne_o_sc), ne_b_sc.symm⟩)
  replace KP := KP.trans KC (allS (Or.inl (List.mem_of_getElem? (i := 0) rfl)) (allS (Or.inl (List.mem_of_getElem? (i := 1) rfl)) (all0)))
  have FB := FB'
  have FL := FL'
  have FS := FS'
  have FD := FD'
  have BA := BA'
  show Go Γ n0 _ T (mkF Γ.m 16 #[.val (.ref o)] [])
  refine k_aloadN G X d19_16 (pc' := 17) rfl rfl rfl ?_
  refine k_reta G X d19_17 (t := (.object "com/example/changeline/changeline/format/JsonOutput")) rfl rfl rfl ?_ (by decide) (by decide)
  exact ⟨rfl, KP, E, FB, FL, FS, FD, BA⟩
theorem pn_11 : plainFor (⟨"com/example/changeline/changeline/format/JsonOutput", "toBytes", "()[B"⟩ : MethodName) = true := plainFor_of_name (by first | (simp [plainName, overriddenIn]; done) | decide +kernel)
set_option maxRecDepth 65536 in
set_option maxHeartbeats 40000000 in
theorem toB {Z : State} {a0 : Array Value} (hw : HW a0 Z) (o b : Addr) (kb : ClassId) (L N : Nat) (zL zB : Int32) (f : Nat → Value) (h0 : Heap) (n0 : Nat) (O : Old Z n0 h0) (FB : Fld Z h0 o "com/example/changeline/changeline/format/JsonOutput" "bytes" "[B" (.ref b)) (FL : Fld Z h0 o "com/example/changeline/changeline/format/JsonOutput" "length" "I" (.int zL)) (hL : zL.toInt = L) (hB : zB.toInt = N) (hne : L ≠ N) (hn : L ≤ 1024) (BA : Arf Z h0 b kb .byte N f) :
    MetW Z (⟨"com/example/changeline/changeline/format/JsonOutput", "toBytes", "()[B"⟩ : MethodName) prog_29_method_14_code 1 (some (.array .byte)) [] ({ frames := 2, cells := 1, slots := 1024, locals := 32 } : Room) #[(.ref o)] h0 n0 (fun v h => ∃ r kr, v = some (.ref r) ∧ h0.size ≤ r ∧ Keep h0 h [] ∧ Arf Z h r kr .byte L (fun i => if i < N then f i else .int 0)) := by
  refine k_body (f := (fun m => mkF m 0 #[.val (.ref o)] [])) pn_11 (fun m => by first | (simp [entryFrame, mkF, argsToLocals, Value.category, maxLocals]; done) | rfl) ?_
  intro Γ T G X
  show Go Γ n0 _ T (mkF Γ.m 0 #[.val (.ref o)] [])
  refine k_aloadN G X d11_0 (pc' := 1) rfl rfl rfl ?_
  refine k_getF G X (host := "") (Or.inl (w34 hw)) Via.refl FB d11_1 (pc' := 4) rfl (fun T X => ?_)
  refine k_aloadN G X d11_4 (pc' := 5) rfl rfl rfl ?_
  refine k_getF G X (host := "") (Or.inl (w70 hw)) Via.refl FL d11_5 (pc' := 8) rfl (fun T X => ?_)
  refine k_callS G X (argsL := [(.ref b), (.int zL)]) (rest := []) rfl (w85 hw) (w86 hw) (w87 hw) (w88 hw) (by decide) (cpof hw b kb N L zB zL f h0 n0 O hB hL hne hn BA) d11_8 pd3 rfl (pc' := 11) rfl rfl (wd := 0) rfl (by decide) (by decide) (by decide) (by decide) (fun T h8 v X q => ?_)
  obtain ⟨r, kr, rfl, q⟩ := q
  show Go Γ n0 _ T (mkF Γ.m 11 #[.val (.ref o)] [(.ref r)])
  refine k_reta G X d11_11 (t := (.array .byte)) rfl rfl rfl ?_ (by decide) (by decide)
  exact ⟨r, kr, rfl, q⟩
theorem pn_14 : plainFor (⟨"com/example/changeline/changeline/format/JsonOutputToBytesPinLaw", "check", "([BIIBBBZ)Z"⟩ : MethodName) = true := plainFor_of_name (by first | (simp [plainName, overriddenIn]; done) | decide +kernel)
set_option maxRecDepth 65536 in
set_option maxHeartbeats 40000000 in
theorem chk_0_0 {Z : State} {a0 : Array Value} (hw : HW a0 Z) (r : Addr) (kr : ClassId) (f : Nat → Value) (x0 x1 x2 : Int32) (h0 : Heap) (n0 : Nat) (RA : Arf Z h0 r kr .byte 0 f)  :
    MetW Z (⟨"com/example/changeline/changeline/format/JsonOutputToBytesPinLaw", "check", "([BIIBBBZ)Z"⟩ : MethodName) method_2_code 8 (some .boolean) [] ({ frames := 0, cells := 0, slots := 0, locals := 0 } : Room) #[(.ref r), (.int (0 : Int32)), (.int (0 : Int32)), (.int x0), (.int x1), (.int x2), (.int (0 : Int32))] h0 n0 (fun v h => v = some (.int 1) ∧ h = h0) := by
  refine k_body (f := (fun m => mkF m 0 #[.val (.ref r), .val (.int (0 : Int32)), .val (.int (0 : Int32)), .val (.int x0), .val (.int x1), .val (.int x2), .val (.int (0 : Int32)), .unset] [])) pn_14 (fun m => by first | (simp [entryFrame, mkF, argsToLocals, Value.category, maxLocals]; done) | rfl) ?_
  intro Γ T G X
  show Go Γ n0 _ T (mkF Γ.m 0 #[.val (.ref r), .val (.int (0 : Int32)), .val (.int (0 : Int32)), .val (.int x0), .val (.int x1), .val (.int x2), .val (.int (0 : Int32)), .unset] [])
  refine k_iloadN G X d14_0 (pc' := 1) rfl rfl ?_
  refine k_iconst G X d14_1 (pc' := 2) rfl (z := (2 : Int32)) (by decide) ?_
  refine k_iloadN G X d14_2 (pc' := 3) rfl rfl ?_
  refine k_imul G X d14_3 (pc' := 4) rfl (z := (0 : Int32)) (by decide) ?_
  refine k_iadd G X d14_4 (pc' := 5) rfl (z := (0 : Int32)) (by decide) ?_
  refine k_istore G X d14_5 (pc' := 7) rfl (l' := #[.val (.ref r), .val (.int (0 : Int32)), .val (.int (0 : Int32)), .val (.int x0), .val (.int x1), .val (.int x2), .val (.int (0 : Int32)), .val (.int (0 : Int32))]) rfl ?_
  refine k_aloadN G X d14_7 (pc' := 8) rfl rfl rfl ?_
  refine k_alen G X (z := (0 : Int32)) RA rfl d14_8 (pc' := 9) rfl ?_
  refine k_iload G X d14_9 (pc' := 11) rfl rfl ?_
  refine k_icmp_eq G X d14_11 (pc' := 16) rfl (by decide) (pc'' := 14) rfl (fun c11 => ?_) (fun c11 => (absurd c11 (by decide)))
  refine k_iloadN G X d14_16 (pc' := 17) rfl rfl ?_
  refine k_iconst G X d14_17 (pc' := 18) rfl (z := (1 : Int32)) (by decide) ?_
  refine k_icmp_ne G X d14_18 (pc' := 42) rfl (by decide) (pc'' := 21) rfl (fun c18 => ?_) (fun c18 => (absurd c18 (by decide)))
  refine k_iloadN G X d14_42 (pc' := 43) rfl rfl ?_
  refine k_iconst G X d14_43 (pc' := 44) rfl (z := (1 : Int32)) (by decide) ?_
  refine k_icmp_lt G X d14_44 (pc' := 56) rfl (by decide) (pc'' := 47) rfl (fun c44 => ?_) (fun c44 => (absurd c44 (by decide)))
  refine k_iloadN G X d14_56 (pc' := 57) rfl rfl ?_
  refine k_iconst G X d14_57 (pc' := 58) rfl (z := (2 : Int32)) (by decide) ?_
  refine k_icmp_lt G X d14_58 (pc' := 73) rfl (by decide) (pc'' := 61) rfl (fun c58 => ?_) (fun c58 => (absurd c58 (by decide)))
  refine k_iloadN G X d14_73 (pc' := 74) rfl rfl ?_
  refine k_iconst G X d14_74 (pc' := 75) rfl (z := (3 : Int32)) (by decide) ?_
  refine k_icmp_lt G X d14_75 (pc' := 92) rfl (by decide) (pc'' := 78) rfl (fun c75 => ?_) (fun c75 => (absurd c75 (by decide)))
  refine k_iload G X d14_92 (pc' := 94) rfl rfl ?_
  refine k_if_eq G X d14_94 (pc' := 109) rfl (by decide) (pc'' := 97) rfl (fun c94 => ?_) (fun c94 => (absurd c94 (by decide)))
  refine k_iconst G X d14_109 (pc' := 110) rfl (z := (1 : Int32)) (by decide) ?_
  refine k_retb G X d14_110 (t := .boolean) rfl (by simp) rfl ?_ (by decide) (by decide)
  exact ⟨rfl, rfl⟩
set_option maxRecDepth 65536 in
set_option maxHeartbeats 40000000 in
theorem chk_0_1 {Z : State} {a0 : Array Value} (hw : HW a0 Z) (r : Addr) (kr : ClassId) (f : Nat → Value) (x0 x1 x2 : Int32) (h0 : Heap) (n0 : Nat) (RA : Arf Z h0 r kr .byte 2 f) (c0 : f 0 = .int 91) (c9 : f 1 = .int 93) :
    MetW Z (⟨"com/example/changeline/changeline/format/JsonOutputToBytesPinLaw", "check", "([BIIBBBZ)Z"⟩ : MethodName) method_2_code 8 (some .boolean) [] ({ frames := 0, cells := 0, slots := 0, locals := 0 } : Room) #[(.ref r), (.int (0 : Int32)), (.int (1 : Int32)), (.int x0), (.int x1), (.int x2), (.int (0 : Int32))] h0 n0 (fun v h => v = some (.int 1) ∧ h = h0) := by
  refine k_body (f := (fun m => mkF m 0 #[.val (.ref r), .val (.int (0 : Int32)), .val (.int (1 : Int32)), .val (.int x0), .val (.int x1), .val (.int x2), .val (.int (0 : Int32)), .unset] [])) pn_14 (fun m => by first | (simp [entryFrame, mkF, argsToLocals, Value.category, maxLocals]; done) | rfl) ?_
  intro Γ T G X
  show Go Γ n0 _ T (mkF Γ.m 0 #[.val (.ref r), .val (.int (0 : Int32)), .val (.int (1 : Int32)), .val (.int x0), .val (.int x1), .val (.int x2), .val (.int (0 : Int32)), .unset] [])
  refine k_iloadN G X d14_0 (pc' := 1) rfl rfl ?_
  refine k_iconst G X d14_1 (pc' := 2) rfl (z := (2 : Int32)) (by decide) ?_
  refine k_iloadN G X d14_2 (pc' := 3) rfl rfl ?_
  refine k_imul G X d14_3 (pc' := 4) rfl (z := (2 : Int32)) (by decide) ?_
  refine k_iadd G X d14_4 (pc' := 5) rfl (z := (2 : Int32)) (by decide) ?_
  refine k_istore G X d14_5 (pc' := 7) rfl (l' := #[.val (.ref r), .val (.int (0 : Int32)), .val (.int (1 : Int32)), .val (.int x0), .val (.int x1), .val (.int x2), .val (.int (0 : Int32)), .val (.int (2 : Int32))]) rfl ?_
  refine k_aloadN G X d14_7 (pc' := 8) rfl rfl rfl ?_
  refine k_alen G X (z := (2 : Int32)) RA rfl d14_8 (pc' := 9) rfl ?_
  refine k_iload G X d14_9 (pc' := 11) rfl rfl ?_
  refine k_icmp_eq G X d14_11 (pc' := 16) rfl (by decide) (pc'' := 14) rfl (fun c11 => ?_) (fun c11 => (absurd c11 (by decide)))
  refine k_iloadN G X d14_16 (pc' := 17) rfl rfl ?_
  refine k_iconst G X d14_17 (pc' := 18) rfl (z := (1 : Int32)) (by decide) ?_
  refine k_icmp_ne G X d14_18 (pc' := 42) rfl (by decide) (pc'' := 21) rfl (fun c18 => (absurd c18 (by decide))) (fun c18 => ?_)
  refine k_aloadN G X d14_21 (pc' := 22) rfl rfl rfl ?_
  refine k_iconst G X d14_22 (pc' := 23) rfl (z := (0 : Int32)) (by decide) ?_
  refine k_baload G X (i := 0) (v := (.int (91 : Int32))) RA rfl (by decide) c0 d14_23 (pc' := 24) rfl ?_
  refine k_bipush G X d14_24 (pc' := 26) rfl (z := (91 : Int32)) (by decide) ?_
  refine k_icmp_ne G X d14_26 (pc' := 40) rfl (by decide) (pc'' := 29) rfl (fun c26 => (absurd c26 (by decide))) (fun c26 => ?_)
  refine k_aloadN G X d14_29 (pc' := 30) rfl rfl rfl ?_
  refine k_iload G X d14_30 (pc' := 32) rfl rfl ?_
  refine k_iconst G X d14_32 (pc' := 33) rfl (z := (1 : Int32)) (by decide) ?_
  refine k_isub G X d14_33 (pc' := 34) rfl (z := (1 : Int32)) (by decide) ?_
  refine k_baload G X (i := 1) (v := (.int (93 : Int32))) RA rfl (by decide) c9 d14_34 (pc' := 35) rfl ?_
  refine k_bipush G X d14_35 (pc' := 37) rfl (z := (93 : Int32)) (by decide) ?_
  refine k_icmp_eq G X d14_37 (pc' := 42) rfl (by decide) (pc'' := 40) rfl (fun c37 => ?_) (fun c37 => (absurd c37 (by decide)))
  refine k_iloadN G X d14_42 (pc' := 43) rfl rfl ?_
  refine k_iconst G X d14_43 (pc' := 44) rfl (z := (1 : Int32)) (by decide) ?_
  refine k_icmp_lt G X d14_44 (pc' := 56) rfl (by decide) (pc'' := 47) rfl (fun c44 => ?_) (fun c44 => (absurd c44 (by decide)))
  refine k_iloadN G X d14_56 (pc' := 57) rfl rfl ?_
  refine k_iconst G X d14_57 (pc' := 58) rfl (z := (2 : Int32)) (by decide) ?_
  refine k_icmp_lt G X d14_58 (pc' := 73) rfl (by decide) (pc'' := 61) rfl (fun c58 => ?_) (fun c58 => (absurd c58 (by decide)))
  refine k_iloadN G X d14_73 (pc' := 74) rfl rfl ?_
  refine k_iconst G X d14_74 (pc' := 75) rfl (z := (3 : Int32)) (by decide) ?_
  refine k_icmp_lt G X d14_75 (pc' := 92) rfl (by decide) (pc'' := 78) rfl (fun c75 => ?_) (fun c75 => (absurd c75 (by decide)))
  refine k_iload G X d14_92 (pc' := 94) rfl rfl ?_
  refine k_if_eq G X d14_94 (pc' := 109) rfl (by decide) (pc'' := 97) rfl (fun c94 => ?_) (fun c94 => (absurd c94 (by decide)))
  refine k_iconst G X d14_109 (pc' := 110) rfl (z := (1 : Int32)) (by decide) ?_
  refine k_retb G X d14_110 (t := .boolean) rfl (by simp) rfl ?_ (by decide) (by decide)
  exact ⟨rfl, rfl⟩
set_option maxRecDepth 65536 in
set_option maxHeartbeats 40000000 in
theorem chk_1_0 {Z : State} {a0 : Array Value} (hw : HW a0 Z) (r : Addr) (kr : ClassId) (f : Nat → Value) (x0 x1 x2 : Int32) (h0 : Heap) (n0 : Nat) (RA : Arf Z h0 r kr .byte 1 f) (e0 : f 0 = .int x0) :
    MetW Z (⟨"com/example/changeline/changeline/format/JsonOutputToBytesPinLaw", "check", "([BIIBBBZ)Z"⟩ : MethodName) method_2_code 8 (some .boolean) [] ({ frames := 0, cells := 0, slots := 0, locals := 0 } : Room) #[(.ref r), (.int (1 : Int32)), (.int (0 : Int32)), (.int x0), (.int x1), (.int x2), (.int (0 : Int32))] h0 n0 (fun v h => v = some (.int 1) ∧ h = h0) := by
  refine k_body (f := (fun m => mkF m 0 #[.val (.ref r), .val (.int (1 : Int32)), .val (.int (0 : Int32)), .val (.int x0), .val (.int x1), .val (.int x2), .val (.int (0 : Int32)), .unset] [])) pn_14 (fun m => by first | (simp [entryFrame, mkF, argsToLocals, Value.category, maxLocals]; done) | rfl) ?_
  intro Γ T G X
  show Go Γ n0 _ T (mkF Γ.m 0 #[.val (.ref r), .val (.int (1 : Int32)), .val (.int (0 : Int32)), .val (.int x0), .val (.int x1), .val (.int x2), .val (.int (0 : Int32)), .unset] [])
  refine k_iloadN G X d14_0 (pc' := 1) rfl rfl ?_
  refine k_iconst G X d14_1 (pc' := 2) rfl (z := (2 : Int32)) (by decide) ?_
  refine k_iloadN G X d14_2 (pc' := 3) rfl rfl ?_
  refine k_imul G X d14_3 (pc' := 4) rfl (z := (0 : Int32)) (by decide) ?_
  refine k_iadd G X d14_4 (pc' := 5) rfl (z := (1 : Int32)) (by decide) ?_
  refine k_istore G X d14_5 (pc' := 7) rfl (l' := #[.val (.ref r), .val (.int (1 : Int32)), .val (.int (0 : Int32)), .val (.int x0), .val (.int x1), .val (.int x2), .val (.int (0 : Int32)), .val (.int (1 : Int32))]) rfl ?_
  refine k_aloadN G X d14_7 (pc' := 8) rfl rfl rfl ?_
  refine k_alen G X (z := (1 : Int32)) RA rfl d14_8 (pc' := 9) rfl ?_
  refine k_iload G X d14_9 (pc' := 11) rfl rfl ?_
  refine k_icmp_eq G X d14_11 (pc' := 16) rfl (by decide) (pc'' := 14) rfl (fun c11 => ?_) (fun c11 => (absurd c11 (by decide)))
  refine k_iloadN G X d14_16 (pc' := 17) rfl rfl ?_
  refine k_iconst G X d14_17 (pc' := 18) rfl (z := (1 : Int32)) (by decide) ?_
  refine k_icmp_ne G X d14_18 (pc' := 42) rfl (by decide) (pc'' := 21) rfl (fun c18 => ?_) (fun c18 => (absurd c18 (by decide)))
  refine k_iloadN G X d14_42 (pc' := 43) rfl rfl ?_
  refine k_iconst G X d14_43 (pc' := 44) rfl (z := (1 : Int32)) (by decide) ?_
  refine k_icmp_lt G X d14_44 (pc' := 56) rfl (by decide) (pc'' := 47) rfl (fun c44 => (absurd c44 (by decide))) (fun c44 => ?_)
  refine k_aloadN G X d14_47 (pc' := 48) rfl rfl rfl ?_
  refine k_iloadN G X d14_48 (pc' := 49) rfl rfl ?_
  refine k_baload G X (i := 0) (v := (.int x0)) RA rfl (by decide) e0 d14_49 (pc' := 50) rfl ?_
  refine k_iloadN G X d14_50 (pc' := 51) rfl rfl ?_
  refine k_icmp_eq G X d14_51 (pc' := 56) rfl (by decide) (pc'' := 54) rfl (fun c51 => ?_) (fun c51 => (absurd c51 (by simp)))
  refine k_iloadN G X d14_56 (pc' := 57) rfl rfl ?_
  refine k_iconst G X d14_57 (pc' := 58) rfl (z := (2 : Int32)) (by decide) ?_
  refine k_icmp_lt G X d14_58 (pc' := 73) rfl (by decide) (pc'' := 61) rfl (fun c58 => ?_) (fun c58 => (absurd c58 (by decide)))
  refine k_iloadN G X d14_73 (pc' := 74) rfl rfl ?_
  refine k_iconst G X d14_74 (pc' := 75) rfl (z := (3 : Int32)) (by decide) ?_
  refine k_icmp_lt G X d14_75 (pc' := 92) rfl (by decide) (pc'' := 78) rfl (fun c75 => ?_) (fun c75 => (absurd c75 (by decide)))
  refine k_iload G X d14_92 (pc' := 94) rfl rfl ?_
  refine k_if_eq G X d14_94 (pc' := 109) rfl (by decide) (pc'' := 97) rfl (fun c94 => ?_) (fun c94 => (absurd c94 (by decide)))
  refine k_iconst G X d14_109 (pc' := 110) rfl (z := (1 : Int32)) (by decide) ?_
  refine k_retb G X d14_110 (t := .boolean) rfl (by simp) rfl ?_ (by decide) (by decide)
  exact ⟨rfl, rfl⟩
set_option maxRecDepth 65536 in
set_option maxHeartbeats 40000000 in
theorem chk_1_1 {Z : State} {a0 : Array Value} (hw : HW a0 Z) (r : Addr) (kr : ClassId) (f : Nat → Value) (x0 x1 x2 : Int32) (h0 : Heap) (n0 : Nat) (RA : Arf Z h0 r kr .byte 3 f) (c0 : f 0 = .int 91) (c9 : f 2 = .int 93) (e0 : f 1 = .int x0) :
    MetW Z (⟨"com/example/changeline/changeline/format/JsonOutputToBytesPinLaw", "check", "([BIIBBBZ)Z"⟩ : MethodName) method_2_code 8 (some .boolean) [] ({ frames := 0, cells := 0, slots := 0, locals := 0 } : Room) #[(.ref r), (.int (1 : Int32)), (.int (1 : Int32)), (.int x0), (.int x1), (.int x2), (.int (0 : Int32))] h0 n0 (fun v h => v = some (.int 1) ∧ h = h0) := by
  refine k_body (f := (fun m => mkF m 0 #[.val (.ref r), .val (.int (1 : Int32)), .val (.int (1 : Int32)), .val (.int x0), .val (.int x1), .val (.int x2), .val (.int (0 : Int32)), .unset] [])) pn_14 (fun m => by first | (simp [entryFrame, mkF, argsToLocals, Value.category, maxLocals]; done) | rfl) ?_
  intro Γ T G X
  show Go Γ n0 _ T (mkF Γ.m 0 #[.val (.ref r), .val (.int (1 : Int32)), .val (.int (1 : Int32)), .val (.int x0), .val (.int x1), .val (.int x2), .val (.int (0 : Int32)), .unset] [])
  refine k_iloadN G X d14_0 (pc' := 1) rfl rfl ?_
  refine k_iconst G X d14_1 (pc' := 2) rfl (z := (2 : Int32)) (by decide) ?_
  refine k_iloadN G X d14_2 (pc' := 3) rfl rfl ?_
  refine k_imul G X d14_3 (pc' := 4) rfl (z := (2 : Int32)) (by decide) ?_
  refine k_iadd G X d14_4 (pc' := 5) rfl (z := (3 : Int32)) (by decide) ?_
  refine k_istore G X d14_5 (pc' := 7) rfl (l' := #[.val (.ref r), .val (.int (1 : Int32)), .val (.int (1 : Int32)), .val (.int x0), .val (.int x1), .val (.int x2), .val (.int (0 : Int32)), .val (.int (3 : Int32))]) rfl ?_
  refine k_aloadN G X d14_7 (pc' := 8) rfl rfl rfl ?_
  refine k_alen G X (z := (3 : Int32)) RA rfl d14_8 (pc' := 9) rfl ?_
  refine k_iload G X d14_9 (pc' := 11) rfl rfl ?_
  refine k_icmp_eq G X d14_11 (pc' := 16) rfl (by decide) (pc'' := 14) rfl (fun c11 => ?_) (fun c11 => (absurd c11 (by decide)))
  refine k_iloadN G X d14_16 (pc' := 17) rfl rfl ?_
  refine k_iconst G X d14_17 (pc' := 18) rfl (z := (1 : Int32)) (by decide) ?_
  refine k_icmp_ne G X d14_18 (pc' := 42) rfl (by decide) (pc'' := 21) rfl (fun c18 => (absurd c18 (by decide))) (fun c18 => ?_)
  refine k_aloadN G X d14_21 (pc' := 22) rfl rfl rfl ?_
  refine k_iconst G X d14_22 (pc' := 23) rfl (z := (0 : Int32)) (by decide) ?_
  refine k_baload G X (i := 0) (v := (.int (91 : Int32))) RA rfl (by decide) c0 d14_23 (pc' := 24) rfl ?_
  refine k_bipush G X d14_24 (pc' := 26) rfl (z := (91 : Int32)) (by decide) ?_
  refine k_icmp_ne G X d14_26 (pc' := 40) rfl (by decide) (pc'' := 29) rfl (fun c26 => (absurd c26 (by decide))) (fun c26 => ?_)
  refine k_aloadN G X d14_29 (pc' := 30) rfl rfl rfl ?_
  refine k_iload G X d14_30 (pc' := 32) rfl rfl ?_
  refine k_iconst G X d14_32 (pc' := 33) rfl (z := (1 : Int32)) (by decide) ?_
  refine k_isub G X d14_33 (pc' := 34) rfl (z := (2 : Int32)) (by decide) ?_
  refine k_baload G X (i := 2) (v := (.int (93 : Int32))) RA rfl (by decide) c9 d14_34 (pc' := 35) rfl ?_
  refine k_bipush G X d14_35 (pc' := 37) rfl (z := (93 : Int32)) (by decide) ?_
  refine k_icmp_eq G X d14_37 (pc' := 42) rfl (by decide) (pc'' := 40) rfl (fun c37 => ?_) (fun c37 => (absurd c37 (by decide)))
  refine k_iloadN G X d14_42 (pc' := 43) rfl rfl ?_
  refine k_iconst G X d14_43 (pc' := 44) rfl (z := (1 : Int32)) (by decide) ?_
  refine k_icmp_lt G X d14_44 (pc' := 56) rfl (by decide) (pc'' := 47) rfl (fun c44 => (absurd c44 (by decide))) (fun c44 => ?_)
  refine k_aloadN G X d14_47 (pc' := 48) rfl rfl rfl ?_
  refine k_iloadN G X d14_48 (pc' := 49) rfl rfl ?_
  refine k_baload G X (i := 1) (v := (.int x0)) RA rfl (by decide) e0 d14_49 (pc' := 50) rfl ?_
  refine k_iloadN G X d14_50 (pc' := 51) rfl rfl ?_
  refine k_icmp_eq G X d14_51 (pc' := 56) rfl (by decide) (pc'' := 54) rfl (fun c51 => ?_) (fun c51 => (absurd c51 (by simp)))
  refine k_iloadN G X d14_56 (pc' := 57) rfl rfl ?_
  refine k_iconst G X d14_57 (pc' := 58) rfl (z := (2 : Int32)) (by decide) ?_
  refine k_icmp_lt G X d14_58 (pc' := 73) rfl (by decide) (pc'' := 61) rfl (fun c58 => ?_) (fun c58 => (absurd c58 (by decide)))
  refine k_iloadN G X d14_73 (pc' := 74) rfl rfl ?_
  refine k_iconst G X d14_74 (pc' := 75) rfl (z := (3 : Int32)) (by decide) ?_
  refine k_icmp_lt G X d14_75 (pc' := 92) rfl (by decide) (pc'' := 78) rfl (fun c75 => ?_) (fun c75 => (absurd c75 (by decide)))
  refine k_iload G X d14_92 (pc' := 94) rfl rfl ?_
  refine k_if_eq G X d14_94 (pc' := 109) rfl (by decide) (pc'' := 97) rfl (fun c94 => ?_) (fun c94 => (absurd c94 (by decide)))
  refine k_iconst G X d14_109 (pc' := 110) rfl (z := (1 : Int32)) (by decide) ?_
  refine k_retb G X d14_110 (t := .boolean) rfl (by simp) rfl ?_ (by decide) (by decide)
  exact ⟨rfl, rfl⟩
set_option maxRecDepth 65536 in
set_option maxHeartbeats 40000000 in
theorem chk_2_0 {Z : State} {a0 : Array Value} (hw : HW a0 Z) (r : Addr) (kr : ClassId) (f : Nat → Value) (x0 x1 x2 : Int32) (h0 : Heap) (n0 : Nat) (RA : Arf Z h0 r kr .byte 2 f) (e0 : f 0 = .int x0) (e1 : f 1 = .int x1) :
    MetW Z (⟨"com/example/changeline/changeline/format/JsonOutputToBytesPinLaw", "check", "([BIIBBBZ)Z"⟩ : MethodName) method_2_code 8 (some .boolean) [] ({ frames := 0, cells := 0, slots := 0, locals := 0 } : Room) #[(.ref r), (.int (2 : Int32)), (.int (0 : Int32)), (.int x0), (.int x1), (.int x2), (.int (0 : Int32))] h0 n0 (fun v h => v = some (.int 1) ∧ h = h0) := by
  refine k_body (f := (fun m => mkF m 0 #[.val (.ref r), .val (.int (2 : Int32)), .val (.int (0 : Int32)), .val (.int x0), .val (.int x1), .val (.int x2), .val (.int (0 : Int32)), .unset] [])) pn_14 (fun m => by first | (simp [entryFrame, mkF, argsToLocals, Value.category, maxLocals]; done) | rfl) ?_
  intro Γ T G X
  show Go Γ n0 _ T (mkF Γ.m 0 #[.val (.ref r), .val (.int (2 : Int32)), .val (.int (0 : Int32)), .val (.int x0), .val (.int x1), .val (.int x2), .val (.int (0 : Int32)), .unset] [])
  refine k_iloadN G X d14_0 (pc' := 1) rfl rfl ?_
  refine k_iconst G X d14_1 (pc' := 2) rfl (z := (2 : Int32)) (by decide) ?_
  refine k_iloadN G X d14_2 (pc' := 3) rfl rfl ?_
  refine k_imul G X d14_3 (pc' := 4) rfl (z := (0 : Int32)) (by decide) ?_
  refine k_iadd G X d14_4 (pc' := 5) rfl (z := (2 : Int32)) (by decide) ?_
  refine k_istore G X d14_5 (pc' := 7) rfl (l' := #[.val (.ref r), .val (.int (2 : Int32)), .val (.int (0 : Int32)), .val (.int x0), .val (.int x1), .val (.int x2), .val (.int (0 : Int32)), .val (.int (2 : Int32))]) rfl ?_
  refine k_aloadN G X d14_7 (pc' := 8) rfl rfl rfl ?_
  refine k_alen G X (z := (2 : Int32)) RA rfl d14_8 (pc' := 9) rfl ?_
  refine k_iload G X d14_9 (pc' := 11) rfl rfl ?_
  refine k_icmp_eq G X d14_11 (pc' := 16) rfl (by decide) (pc'' := 14) rfl (fun c11 => ?_) (fun c11 => (absurd c11 (by decide)))
  refine k_iloadN G X d14_16 (pc' := 17) rfl rfl ?_
  refine k_iconst G X d14_17 (pc' := 18) rfl (z := (1 : Int32)) (by decide) ?_
  refine k_icmp_ne G X d14_18 (pc' := 42) rfl (by decide) (pc'' := 21) rfl (fun c18 => ?_) (fun c18 => (absurd c18 (by decide)))
  refine k_iloadN G X d14_42 (pc' := 43) rfl rfl ?_
  refine k_iconst G X d14_43 (pc' := 44) rfl (z := (1 : Int32)) (by decide) ?_
  refine k_icmp_lt G X d14_44 (pc' := 56) rfl (by decide) (pc'' := 47) rfl (fun c44 => (absurd c44 (by decide))) (fun c44 => ?_)
  refine k_aloadN G X d14_47 (pc' := 48) rfl rfl rfl ?_
  refine k_iloadN G X d14_48 (pc' := 49) rfl rfl ?_
  refine k_baload G X (i := 0) (v := (.int x0)) RA rfl (by decide) e0 d14_49 (pc' := 50) rfl ?_
  refine k_iloadN G X d14_50 (pc' := 51) rfl rfl ?_
  refine k_icmp_eq G X d14_51 (pc' := 56) rfl (by decide) (pc'' := 54) rfl (fun c51 => ?_) (fun c51 => (absurd c51 (by simp)))
  refine k_iloadN G X d14_56 (pc' := 57) rfl rfl ?_
  refine k_iconst G X d14_57 (pc' := 58) rfl (z := (2 : Int32)) (by decide) ?_
  refine k_icmp_lt G X d14_58 (pc' := 73) rfl (by decide) (pc'' := 61) rfl (fun c58 => (absurd c58 (by decide))) (fun c58 => ?_)
  refine k_aloadN G X d14_61 (pc' := 62) rfl rfl rfl ?_
  refine k_iloadN G X d14_62 (pc' := 63) rfl rfl ?_
  refine k_iconst G X d14_63 (pc' := 64) rfl (z := (1 : Int32)) (by decide) ?_
  refine k_iadd G X d14_64 (pc' := 65) rfl (z := (1 : Int32)) (by decide) ?_
  refine k_baload G X (i := 1) (v := (.int x1)) RA rfl (by decide) e1 d14_65 (pc' := 66) rfl ?_
  refine k_iload G X d14_66 (pc' := 68) rfl rfl ?_
  refine k_icmp_eq G X d14_68 (pc' := 73) rfl (by decide) (pc'' := 71) rfl (fun c68 => ?_) (fun c68 => (absurd c68 (by simp)))
  refine k_iloadN G X d14_73 (pc' := 74) rfl rfl ?_
  refine k_iconst G X d14_74 (pc' := 75) rfl (z := (3 : Int32)) (by decide) ?_
  refine k_icmp_lt G X d14_75 (pc' := 92) rfl (by decide) (pc'' := 78) rfl (fun c75 => ?_) (fun c75 => (absurd c75 (by decide)))
  refine k_iload G X d14_92 (pc' := 94) rfl rfl ?_
  refine k_if_eq G X d14_94 (pc' := 109) rfl (by decide) (pc'' := 97) rfl (fun c94 => ?_) (fun c94 => (absurd c94 (by decide)))
  refine k_iconst G X d14_109 (pc' := 110) rfl (z := (1 : Int32)) (by decide) ?_
  refine k_retb G X d14_110 (t := .boolean) rfl (by simp) rfl ?_ (by decide) (by decide)
  exact ⟨rfl, rfl⟩
set_option maxRecDepth 65536 in
set_option maxHeartbeats 40000000 in
theorem chk_2_1 {Z : State} {a0 : Array Value} (hw : HW a0 Z) (r : Addr) (kr : ClassId) (f : Nat → Value) (x0 x1 x2 : Int32) (h0 : Heap) (n0 : Nat) (RA : Arf Z h0 r kr .byte 4 f) (c0 : f 0 = .int 91) (c9 : f 3 = .int 93) (e0 : f 1 = .int x0) (e1 : f 2 = .int x1) :
    MetW Z (⟨"com/example/changeline/changeline/format/JsonOutputToBytesPinLaw", "check", "([BIIBBBZ)Z"⟩ : MethodName) method_2_code 8 (some .boolean) [] ({ frames := 0, cells := 0, slots := 0, locals := 0 } : Room) #[(.ref r), (.int (2 : Int32)), (.int (1 : Int32)), (.int x0), (.int x1), (.int x2), (.int (0 : Int32))] h0 n0 (fun v h => v = some (.int 1) ∧ h = h0) := by
  refine k_body (f := (fun m => mkF m 0 #[.val (.ref r), .val (.int (2 : Int32)), .val (.int (1 : Int32)), .val (.int x0), .val (.int x1), .val (.int x2), .val (.int (0 : Int32)), .unset] [])) pn_14 (fun m => by first | (simp [entryFrame, mkF, argsToLocals, Value.category, maxLocals]; done) | rfl) ?_
  intro Γ T G X
  show Go Γ n0 _ T (mkF Γ.m 0 #[.val (.ref r), .val (.int (2 : Int32)), .val (.int (1 : Int32)), .val (.int x0), .val (.int x1), .val (.int x2), .val (.int (0 : Int32)), .unset] [])
  refine k_iloadN G X d14_0 (pc' := 1) rfl rfl ?_
  refine k_iconst G X d14_1 (pc' := 2) rfl (z := (2 : Int32)) (by decide) ?_
  refine k_iloadN G X d14_2 (pc' := 3) rfl rfl ?_
  refine k_imul G X d14_3 (pc' := 4) rfl (z := (2 : Int32)) (by decide) ?_
  refine k_iadd G X d14_4 (pc' := 5) rfl (z := (4 : Int32)) (by decide) ?_
  refine k_istore G X d14_5 (pc' := 7) rfl (l' := #[.val (.ref r), .val (.int (2 : Int32)), .val (.int (1 : Int32)), .val (.int x0), .val (.int x1), .val (.int x2), .val (.int (0 : Int32)), .val (.int (4 : Int32))]) rfl ?_
  refine k_aloadN G X d14_7 (pc' := 8) rfl rfl rfl ?_
  refine k_alen G X (z := (4 : Int32)) RA rfl d14_8 (pc' := 9) rfl ?_
  refine k_iload G X d14_9 (pc' := 11) rfl rfl ?_
  refine k_icmp_eq G X d14_11 (pc' := 16) rfl (by decide) (pc'' := 14) rfl (fun c11 => ?_) (fun c11 => (absurd c11 (by decide)))
  refine k_iloadN G X d14_16 (pc' := 17) rfl rfl ?_
  refine k_iconst G X d14_17 (pc' := 18) rfl (z := (1 : Int32)) (by decide) ?_
  refine k_icmp_ne G X d14_18 (pc' := 42) rfl (by decide) (pc'' := 21) rfl (fun c18 => (absurd c18 (by decide))) (fun c18 => ?_)
  refine k_aloadN G X d14_21 (pc' := 22) rfl rfl rfl ?_
  refine k_iconst G X d14_22 (pc' := 23) rfl (z := (0 : Int32)) (by decide) ?_
  refine k_baload G X (i := 0) (v := (.int (91 : Int32))) RA rfl (by decide) c0 d14_23 (pc' := 24) rfl ?_
  refine k_bipush G X d14_24 (pc' := 26) rfl (z := (91 : Int32)) (by decide) ?_
  refine k_icmp_ne G X d14_26 (pc' := 40) rfl (by decide) (pc'' := 29) rfl (fun c26 => (absurd c26 (by decide))) (fun c26 => ?_)
  refine k_aloadN G X d14_29 (pc' := 30) rfl rfl rfl ?_
  refine k_iload G X d14_30 (pc' := 32) rfl rfl ?_
  refine k_iconst G X d14_32 (pc' := 33) rfl (z := (1 : Int32)) (by decide) ?_
  refine k_isub G X d14_33 (pc' := 34) rfl (z := (3 : Int32)) (by decide) ?_
  refine k_baload G X (i := 3) (v := (.int (93 : Int32))) RA rfl (by decide) c9 d14_34 (pc' := 35) rfl ?_
  refine k_bipush G X d14_35 (pc' := 37) rfl (z := (93 : Int32)) (by decide) ?_
  refine k_icmp_eq G X d14_37 (pc' := 42) rfl (by decide) (pc'' := 40) rfl (fun c37 => ?_) (fun c37 => (absurd c37 (by decide)))
  refine k_iloadN G X d14_42 (pc' := 43) rfl rfl ?_
  refine k_iconst G X d14_43 (pc' := 44) rfl (z := (1 : Int32)) (by decide) ?_
  refine k_icmp_lt G X d14_44 (pc' := 56) rfl (by decide) (pc'' := 47) rfl (fun c44 => (absurd c44 (by decide))) (fun c44 => ?_)
  refine k_aloadN G X d14_47 (pc' := 48) rfl rfl rfl ?_
  refine k_iloadN G X d14_48 (pc' := 49) rfl rfl ?_
  refine k_baload G X (i := 1) (v := (.int x0)) RA rfl (by decide) e0 d14_49 (pc' := 50) rfl ?_
  refine k_iloadN G X d14_50 (pc' := 51) rfl rfl ?_
  refine k_icmp_eq G X d14_51 (pc' := 56) rfl (by decide) (pc'' := 54) rfl (fun c51 => ?_) (fun c51 => (absurd c51 (by simp)))
  refine k_iloadN G X d14_56 (pc' := 57) rfl rfl ?_
  refine k_iconst G X d14_57 (pc' := 58) rfl (z := (2 : Int32)) (by decide) ?_
  refine k_icmp_lt G X d14_58 (pc' := 73) rfl (by decide) (pc'' := 61) rfl (fun c58 => (absurd c58 (by decide))) (fun c58 => ?_)
  refine k_aloadN G X d14_61 (pc' := 62) rfl rfl rfl ?_
  refine k_iloadN G X d14_62 (pc' := 63) rfl rfl ?_
  refine k_iconst G X d14_63 (pc' := 64) rfl (z := (1 : Int32)) (by decide) ?_
  refine k_iadd G X d14_64 (pc' := 65) rfl (z := (2 : Int32)) (by decide) ?_
  refine k_baload G X (i := 2) (v := (.int x1)) RA rfl (by decide) e1 d14_65 (pc' := 66) rfl ?_
  refine k_iload G X d14_66 (pc' := 68) rfl rfl ?_
  refine k_icmp_eq G X d14_68 (pc' := 73) rfl (by decide) (pc'' := 71) rfl (fun c68 => ?_) (fun c68 => (absurd c68 (by simp)))
  refine k_iloadN G X d14_73 (pc' := 74) rfl rfl ?_
  refine k_iconst G X d14_74 (pc' := 75) rfl (z := (3 : Int32)) (by decide) ?_
  refine k_icmp_lt G X d14_75 (pc' := 92) rfl (by decide) (pc'' := 78) rfl (fun c75 => ?_) (fun c75 => (absurd c75 (by decide)))
  refine k_iload G X d14_92 (pc' := 94) rfl rfl ?_
  refine k_if_eq G X d14_94 (pc' := 109) rfl (by decide) (pc'' := 97) rfl (fun c94 => ?_) (fun c94 => (absurd c94 (by decide)))
  refine k_iconst G X d14_109 (pc' := 110) rfl (z := (1 : Int32)) (by decide) ?_
  refine k_retb G X d14_110 (t := .boolean) rfl (by simp) rfl ?_ (by decide) (by decide)
  exact ⟨rfl, rfl⟩
set_option maxRecDepth 65536 in
set_option maxHeartbeats 40000000 in
theorem chk_3_0 {Z : State} {a0 : Array Value} (hw : HW a0 Z) (r : Addr) (kr : ClassId) (f : Nat → Value) (x0 x1 x2 : Int32) (h0 : Heap) (n0 : Nat) (RA : Arf Z h0 r kr .byte 3 f) (e0 : f 0 = .int x0) (e1 : f 1 = .int x1) (e2 : f 2 = .int x2) :
    MetW Z (⟨"com/example/changeline/changeline/format/JsonOutputToBytesPinLaw", "check", "([BIIBBBZ)Z"⟩ : MethodName) method_2_code 8 (some .boolean) [] ({ frames := 0, cells := 0, slots := 0, locals := 0 } : Room) #[(.ref r), (.int (3 : Int32)), (.int (0 : Int32)), (.int x0), (.int x1), (.int x2), (.int (0 : Int32))] h0 n0 (fun v h => v = some (.int 1) ∧ h = h0) := by
  refine k_body (f := (fun m => mkF m 0 #[.val (.ref r), .val (.int (3 : Int32)), .val (.int (0 : Int32)), .val (.int x0), .val (.int x1), .val (.int x2), .val (.int (0 : Int32)), .unset] [])) pn_14 (fun m => by first | (simp [entryFrame, mkF, argsToLocals, Value.category, maxLocals]; done) | rfl) ?_
  intro Γ T G X
  show Go Γ n0 _ T (mkF Γ.m 0 #[.val (.ref r), .val (.int (3 : Int32)), .val (.int (0 : Int32)), .val (.int x0), .val (.int x1), .val (.int x2), .val (.int (0 : Int32)), .unset] [])
  refine k_iloadN G X d14_0 (pc' := 1) rfl rfl ?_
  refine k_iconst G X d14_1 (pc' := 2) rfl (z := (2 : Int32)) (by decide) ?_
  refine k_iloadN G X d14_2 (pc' := 3) rfl rfl ?_
  refine k_imul G X d14_3 (pc' := 4) rfl (z := (0 : Int32)) (by decide) ?_
  refine k_iadd G X d14_4 (pc' := 5) rfl (z := (3 : Int32)) (by decide) ?_
  refine k_istore G X d14_5 (pc' := 7) rfl (l' := #[.val (.ref r), .val (.int (3 : Int32)), .val (.int (0 : Int32)), .val (.int x0), .val (.int x1), .val (.int x2), .val (.int (0 : Int32)), .val (.int (3 : Int32))]) rfl ?_
  refine k_aloadN G X d14_7 (pc' := 8) rfl rfl rfl ?_
  refine k_alen G X (z := (3 : Int32)) RA rfl d14_8 (pc' := 9) rfl ?_
  refine k_iload G X d14_9 (pc' := 11) rfl rfl ?_
  refine k_icmp_eq G X d14_11 (pc' := 16) rfl (by decide) (pc'' := 14) rfl (fun c11 => ?_) (fun c11 => (absurd c11 (by decide)))
  refine k_iloadN G X d14_16 (pc' := 17) rfl rfl ?_
  refine k_iconst G X d14_17 (pc' := 18) rfl (z := (1 : Int32)) (by decide) ?_
  refine k_icmp_ne G X d14_18 (pc' := 42) rfl (by decide) (pc'' := 21) rfl (fun c18 => ?_) (fun c18 => (absurd c18 (by decide)))
  refine k_iloadN G X d14_42 (pc' := 43) rfl rfl ?_
  refine k_iconst G X d14_43 (pc' := 44) rfl (z := (1 : Int32)) (by decide) ?_
  refine k_icmp_lt G X d14_44 (pc' := 56) rfl (by decide) (pc'' := 47) rfl (fun c44 => (absurd c44 (by decide))) (fun c44 => ?_)
  refine k_aloadN G X d14_47 (pc' := 48) rfl rfl rfl ?_
  refine k_iloadN G X d14_48 (pc' := 49) rfl rfl ?_
  refine k_baload G X (i := 0) (v := (.int x0)) RA rfl (by decide) e0 d14_49 (pc' := 50) rfl ?_
  refine k_iloadN G X d14_50 (pc' := 51) rfl rfl ?_
  refine k_icmp_eq G X d14_51 (pc' := 56) rfl (by decide) (pc'' := 54) rfl (fun c51 => ?_) (fun c51 => (absurd c51 (by simp)))
  refine k_iloadN G X d14_56 (pc' := 57) rfl rfl ?_
  refine k_iconst G X d14_57 (pc' := 58) rfl (z := (2 : Int32)) (by decide) ?_
  refine k_icmp_lt G X d14_58 (pc' := 73) rfl (by decide) (pc'' := 61) rfl (fun c58 => (absurd c58 (by decide))) (fun c58 => ?_)
  refine k_aloadN G X d14_61 (pc' := 62) rfl rfl rfl ?_
  refine k_iloadN G X d14_62 (pc' := 63) rfl rfl ?_
  refine k_iconst G X d14_63 (pc' := 64) rfl (z := (1 : Int32)) (by decide) ?_
  refine k_iadd G X d14_64 (pc' := 65) rfl (z := (1 : Int32)) (by decide) ?_
  refine k_baload G X (i := 1) (v := (.int x1)) RA rfl (by decide) e1 d14_65 (pc' := 66) rfl ?_
  refine k_iload G X d14_66 (pc' := 68) rfl rfl ?_
  refine k_icmp_eq G X d14_68 (pc' := 73) rfl (by decide) (pc'' := 71) rfl (fun c68 => ?_) (fun c68 => (absurd c68 (by simp)))
  refine k_iloadN G X d14_73 (pc' := 74) rfl rfl ?_
  refine k_iconst G X d14_74 (pc' := 75) rfl (z := (3 : Int32)) (by decide) ?_
  refine k_icmp_lt G X d14_75 (pc' := 92) rfl (by decide) (pc'' := 78) rfl (fun c75 => (absurd c75 (by decide))) (fun c75 => ?_)
  refine k_aloadN G X d14_78 (pc' := 79) rfl rfl rfl ?_
  refine k_iloadN G X d14_79 (pc' := 80) rfl rfl ?_
  refine k_iloadN G X d14_80 (pc' := 81) rfl rfl ?_
  refine k_iadd G X d14_81 (pc' := 82) rfl (z := (3 : Int32)) (by decide) ?_
  refine k_iconst G X d14_82 (pc' := 83) rfl (z := (1 : Int32)) (by decide) ?_
  refine k_isub G X d14_83 (pc' := 84) rfl (z := (2 : Int32)) (by decide) ?_
  refine k_baload G X (i := 2) (v := (.int x2)) RA rfl (by decide) e2 d14_84 (pc' := 85) rfl ?_
  refine k_iload G X d14_85 (pc' := 87) rfl rfl ?_
  refine k_icmp_eq G X d14_87 (pc' := 92) rfl (by decide) (pc'' := 90) rfl (fun c87 => ?_) (fun c87 => (absurd c87 (by simp)))
  refine k_iload G X d14_92 (pc' := 94) rfl rfl ?_
  refine k_if_eq G X d14_94 (pc' := 109) rfl (by decide) (pc'' := 97) rfl (fun c94 => ?_) (fun c94 => (absurd c94 (by decide)))
  refine k_iconst G X d14_109 (pc' := 110) rfl (z := (1 : Int32)) (by decide) ?_
  refine k_retb G X d14_110 (t := .boolean) rfl (by simp) rfl ?_ (by decide) (by decide)
  exact ⟨rfl, rfl⟩
set_option maxRecDepth 65536 in
set_option maxHeartbeats 40000000 in
theorem chk_3_1 {Z : State} {a0 : Array Value} (hw : HW a0 Z) (r : Addr) (kr : ClassId) (f : Nat → Value) (x0 x1 x2 : Int32) (h0 : Heap) (n0 : Nat) (RA : Arf Z h0 r kr .byte 5 f) (c0 : f 0 = .int 91) (c9 : f 4 = .int 93) (e0 : f 1 = .int x0) (e1 : f 2 = .int x1) (e2 : f 3 = .int x2) :
    MetW Z (⟨"com/example/changeline/changeline/format/JsonOutputToBytesPinLaw", "check", "([BIIBBBZ)Z"⟩ : MethodName) method_2_code 8 (some .boolean) [] ({ frames := 0, cells := 0, slots := 0, locals := 0 } : Room) #[(.ref r), (.int (3 : Int32)), (.int (1 : Int32)), (.int x0), (.int x1), (.int x2), (.int (0 : Int32))] h0 n0 (fun v h => v = some (.int 1) ∧ h = h0) := by
  refine k_body (f := (fun m => mkF m 0 #[.val (.ref r), .val (.int (3 : Int32)), .val (.int (1 : Int32)), .val (.int x0), .val (.int x1), .val (.int x2), .val (.int (0 : Int32)), .unset] [])) pn_14 (fun m => by first | (simp [entryFrame, mkF, argsToLocals, Value.category, maxLocals]; done) | rfl) ?_
  intro Γ T G X
  show Go Γ n0 _ T (mkF Γ.m 0 #[.val (.ref r), .val (.int (3 : Int32)), .val (.int (1 : Int32)), .val (.int x0), .val (.int x1), .val (.int x2), .val (.int (0 : Int32)), .unset] [])
  refine k_iloadN G X d14_0 (pc' := 1) rfl rfl ?_
  refine k_iconst G X d14_1 (pc' := 2) rfl (z := (2 : Int32)) (by decide) ?_
  refine k_iloadN G X d14_2 (pc' := 3) rfl rfl ?_
  refine k_imul G X d14_3 (pc' := 4) rfl (z := (2 : Int32)) (by decide) ?_
  refine k_iadd G X d14_4 (pc' := 5) rfl (z := (5 : Int32)) (by decide) ?_
  refine k_istore G X d14_5 (pc' := 7) rfl (l' := #[.val (.ref r), .val (.int (3 : Int32)), .val (.int (1 : Int32)), .val (.int x0), .val (.int x1), .val (.int x2), .val (.int (0 : Int32)), .val (.int (5 : Int32))]) rfl ?_
  refine k_aloadN G X d14_7 (pc' := 8) rfl rfl rfl ?_
  refine k_alen G X (z := (5 : Int32)) RA rfl d14_8 (pc' := 9) rfl ?_
  refine k_iload G X d14_9 (pc' := 11) rfl rfl ?_
  refine k_icmp_eq G X d14_11 (pc' := 16) rfl (by decide) (pc'' := 14) rfl (fun c11 => ?_) (fun c11 => (absurd c11 (by decide)))
  refine k_iloadN G X d14_16 (pc' := 17) rfl rfl ?_
  refine k_iconst G X d14_17 (pc' := 18) rfl (z := (1 : Int32)) (by decide) ?_
  refine k_icmp_ne G X d14_18 (pc' := 42) rfl (by decide) (pc'' := 21) rfl (fun c18 => (absurd c18 (by decide))) (fun c18 => ?_)
  refine k_aloadN G X d14_21 (pc' := 22) rfl rfl rfl ?_
  refine k_iconst G X d14_22 (pc' := 23) rfl (z := (0 : Int32)) (by decide) ?_
  refine k_baload G X (i := 0) (v := (.int (91 : Int32))) RA rfl (by decide) c0 d14_23 (pc' := 24) rfl ?_
  refine k_bipush G X d14_24 (pc' := 26) rfl (z := (91 : Int32)) (by decide) ?_
  refine k_icmp_ne G X d14_26 (pc' := 40) rfl (by decide) (pc'' := 29) rfl (fun c26 => (absurd c26 (by decide))) (fun c26 => ?_)
  refine k_aloadN G X d14_29 (pc' := 30) rfl rfl rfl ?_
  refine k_iload G X d14_30 (pc' := 32) rfl rfl ?_
  refine k_iconst G X d14_32 (pc' := 33) rfl (z := (1 : Int32)) (by decide) ?_
  refine k_isub G X d14_33 (pc' := 34) rfl (z := (4 : Int32)) (by decide) ?_
  refine k_baload G X (i := 4) (v := (.int (93 : Int32))) RA rfl (by decide) c9 d14_34 (pc' := 35) rfl ?_
  refine k_bipush G X d14_35 (pc' := 37) rfl (z := (93 : Int32)) (by decide) ?_
  refine k_icmp_eq G X d14_37 (pc' := 42) rfl (by decide) (pc'' := 40) rfl (fun c37 => ?_) (fun c37 => (absurd c37 (by decide)))
  refine k_iloadN G X d14_42 (pc' := 43) rfl rfl ?_
  refine k_iconst G X d14_43 (pc' := 44) rfl (z := (1 : Int32)) (by decide) ?_
  refine k_icmp_lt G X d14_44 (pc' := 56) rfl (by decide) (pc'' := 47) rfl (fun c44 => (absurd c44 (by decide))) (fun c44 => ?_)
  refine k_aloadN G X d14_47 (pc' := 48) rfl rfl rfl ?_
  refine k_iloadN G X d14_48 (pc' := 49) rfl rfl ?_
  refine k_baload G X (i := 1) (v := (.int x0)) RA rfl (by decide) e0 d14_49 (pc' := 50) rfl ?_
  refine k_iloadN G X d14_50 (pc' := 51) rfl rfl ?_
  refine k_icmp_eq G X d14_51 (pc' := 56) rfl (by decide) (pc'' := 54) rfl (fun c51 => ?_) (fun c51 => (absurd c51 (by simp)))
  refine k_iloadN G X d14_56 (pc' := 57) rfl rfl ?_
  refine k_iconst G X d14_57 (pc' := 58) rfl (z := (2 : Int32)) (by decide) ?_
  refine k_icmp_lt G X d14_58 (pc' := 73) rfl (by decide) (pc'' := 61) rfl (fun c58 => (absurd c58 (by decide))) (fun c58 => ?_)
  refine k_aloadN G X d14_61 (pc' := 62) rfl rfl rfl ?_
  refine k_iloadN G X d14_62 (pc' := 63) rfl rfl ?_
  refine k_iconst G X d14_63 (pc' := 64) rfl (z := (1 : Int32)) (by decide) ?_
  refine k_iadd G X d14_64 (pc' := 65) rfl (z := (2 : Int32)) (by decide) ?_
  refine k_baload G X (i := 2) (v := (.int x1)) RA rfl (by decide) e1 d14_65 (pc' := 66) rfl ?_
  refine k_iload G X d14_66 (pc' := 68) rfl rfl ?_
  refine k_icmp_eq G X d14_68 (pc' := 73) rfl (by decide) (pc'' := 71) rfl (fun c68 => ?_) (fun c68 => (absurd c68 (by simp)))
  refine k_iloadN G X d14_73 (pc' := 74) rfl rfl ?_
  refine k_iconst G X d14_74 (pc' := 75) rfl (z := (3 : Int32)) (by decide) ?_
  refine k_icmp_lt G X d14_75 (pc' := 92) rfl (by decide) (pc'' := 78) rfl (fun c75 => (absurd c75 (by decide))) (fun c75 => ?_)
  refine k_aloadN G X d14_78 (pc' := 79) rfl rfl rfl ?_
  refine k_iloadN G X d14_79 (pc' := 80) rfl rfl ?_
  refine k_iloadN G X d14_80 (pc' := 81) rfl rfl ?_
  refine k_iadd G X d14_81 (pc' := 82) rfl (z := (4 : Int32)) (by decide) ?_
  refine k_iconst G X d14_82 (pc' := 83) rfl (z := (1 : Int32)) (by decide) ?_
  refine k_isub G X d14_83 (pc' := 84) rfl (z := (3 : Int32)) (by decide) ?_
  refine k_baload G X (i := 3) (v := (.int x2)) RA rfl (by decide) e2 d14_84 (pc' := 85) rfl ?_
  refine k_iload G X d14_85 (pc' := 87) rfl rfl ?_
  refine k_icmp_eq G X d14_87 (pc' := 92) rfl (by decide) (pc'' := 90) rfl (fun c87 => ?_) (fun c87 => (absurd c87 (by simp)))
  refine k_iload G X d14_92 (pc' := 94) rfl rfl ?_
  refine k_if_eq G X d14_94 (pc' := 109) rfl (by decide) (pc'' := 97) rfl (fun c94 => ?_) (fun c94 => (absurd c94 (by decide)))
  refine k_iconst G X d14_109 (pc' := 110) rfl (z := (1 : Int32)) (by decide) ?_
  refine k_retb G X d14_110 (t := .boolean) rfl (by simp) rfl ?_ (by decide) (by decide)
  exact ⟨rfl, rfl⟩
set_option maxRecDepth 65536 in
set_option maxHeartbeats 40000000 in
theorem chk_600_0 {Z : State} {a0 : Array Value} (hw : HW a0 Z) (r : Addr) (kr : ClassId) (f : Nat → Value) (x0 x1 x2 : Int32) (h0 : Heap) (n0 : Nat) (RA : Arf Z h0 r kr .byte 600 f) (e0 : f 0 = .int x0) (e1 : f 1 = .int x1) (e2 : f 599 = .int x2) (e3 : f 300 = .int 0) :
    MetW Z (⟨"com/example/changeline/changeline/format/JsonOutputToBytesPinLaw", "check", "([BIIBBBZ)Z"⟩ : MethodName) method_2_code 8 (some .boolean) [] ({ frames := 0, cells := 0, slots := 0, locals := 0 } : Room) #[(.ref r), (.int (600 : Int32)), (.int (0 : Int32)), (.int x0), (.int x1), (.int x2), (.int (1 : Int32))] h0 n0 (fun v h => v = some (.int 1) ∧ h = h0) := by
  refine k_body (f := (fun m => mkF m 0 #[.val (.ref r), .val (.int (600 : Int32)), .val (.int (0 : Int32)), .val (.int x0), .val (.int x1), .val (.int x2), .val (.int (1 : Int32)), .unset] [])) pn_14 (fun m => by first | (simp [entryFrame, mkF, argsToLocals, Value.category, maxLocals]; done) | rfl) ?_
  intro Γ T G X
  show Go Γ n0 _ T (mkF Γ.m 0 #[.val (.ref r), .val (.int (600 : Int32)), .val (.int (0 : Int32)), .val (.int x0), .val (.int x1), .val (.int x2), .val (.int (1 : Int32)), .unset] [])
  refine k_iloadN G X d14_0 (pc' := 1) rfl rfl ?_
  refine k_iconst G X d14_1 (pc' := 2) rfl (z := (2 : Int32)) (by decide) ?_
  refine k_iloadN G X d14_2 (pc' := 3) rfl rfl ?_
  refine k_imul G X d14_3 (pc' := 4) rfl (z := (0 : Int32)) (by decide) ?_
  refine k_iadd G X d14_4 (pc' := 5) rfl (z := (600 : Int32)) (by decide) ?_
  refine k_istore G X d14_5 (pc' := 7) rfl (l' := #[.val (.ref r), .val (.int (600 : Int32)), .val (.int (0 : Int32)), .val (.int x0), .val (.int x1), .val (.int x2), .val (.int (1 : Int32)), .val (.int (600 : Int32))]) rfl ?_
  refine k_aloadN G X d14_7 (pc' := 8) rfl rfl rfl ?_
  refine k_alen G X (z := (600 : Int32)) RA rfl d14_8 (pc' := 9) rfl ?_
  refine k_iload G X d14_9 (pc' := 11) rfl rfl ?_
  refine k_icmp_eq G X d14_11 (pc' := 16) rfl (by decide) (pc'' := 14) rfl (fun c11 => ?_) (fun c11 => (absurd c11 (by decide)))
  refine k_iloadN G X d14_16 (pc' := 17) rfl rfl ?_
  refine k_iconst G X d14_17 (pc' := 18) rfl (z := (1 : Int32)) (by decide) ?_
  refine k_icmp_ne G X d14_18 (pc' := 42) rfl (by decide) (pc'' := 21) rfl (fun c18 => ?_) (fun c18 => (absurd c18 (by decide)))
  refine k_iloadN G X d14_42 (pc' := 43) rfl rfl ?_
  refine k_iconst G X d14_43 (pc' := 44) rfl (z := (1 : Int32)) (by decide) ?_
  refine k_icmp_lt G X d14_44 (pc' := 56) rfl (by decide) (pc'' := 47) rfl (fun c44 => (absurd c44 (by decide))) (fun c44 => ?_)
  refine k_aloadN G X d14_47 (pc' := 48) rfl rfl rfl ?_
  refine k_iloadN G X d14_48 (pc' := 49) rfl rfl ?_
  refine k_baload G X (i := 0) (v := (.int x0)) RA rfl (by decide) e0 d14_49 (pc' := 50) rfl ?_
  refine k_iloadN G X d14_50 (pc' := 51) rfl rfl ?_
  refine k_icmp_eq G X d14_51 (pc' := 56) rfl (by decide) (pc'' := 54) rfl (fun c51 => ?_) (fun c51 => (absurd c51 (by simp)))
  refine k_iloadN G X d14_56 (pc' := 57) rfl rfl ?_
  refine k_iconst G X d14_57 (pc' := 58) rfl (z := (2 : Int32)) (by decide) ?_
  refine k_icmp_lt G X d14_58 (pc' := 73) rfl (by decide) (pc'' := 61) rfl (fun c58 => (absurd c58 (by decide))) (fun c58 => ?_)
  refine k_aloadN G X d14_61 (pc' := 62) rfl rfl rfl ?_
  refine k_iloadN G X d14_62 (pc' := 63) rfl rfl ?_
  refine k_iconst G X d14_63 (pc' := 64) rfl (z := (1 : Int32)) (by decide) ?_
  refine k_iadd G X d14_64 (pc' := 65) rfl (z := (1 : Int32)) (by decide) ?_
  refine k_baload G X (i := 1) (v := (.int x1)) RA rfl (by decide) e1 d14_65 (pc' := 66) rfl ?_
  refine k_iload G X d14_66 (pc' := 68) rfl rfl ?_
  refine k_icmp_eq G X d14_68 (pc' := 73) rfl (by decide) (pc'' := 71) rfl (fun c68 => ?_) (fun c68 => (absurd c68 (by simp)))
  refine k_iloadN G X d14_73 (pc' := 74) rfl rfl ?_
  refine k_iconst G X d14_74 (pc' := 75) rfl (z := (3 : Int32)) (by decide) ?_
  refine k_icmp_lt G X d14_75 (pc' := 92) rfl (by decide) (pc'' := 78) rfl (fun c75 => (absurd c75 (by decide))) (fun c75 => ?_)
  refine k_aloadN G X d14_78 (pc' := 79) rfl rfl rfl ?_
  refine k_iloadN G X d14_79 (pc' := 80) rfl rfl ?_
  refine k_iloadN G X d14_80 (pc' := 81) rfl rfl ?_
  refine k_iadd G X d14_81 (pc' := 82) rfl (z := (600 : Int32)) (by decide) ?_
  refine k_iconst G X d14_82 (pc' := 83) rfl (z := (1 : Int32)) (by decide) ?_
  refine k_isub G X d14_83 (pc' := 84) rfl (z := (599 : Int32)) (by decide) ?_
  refine k_baload G X (i := 599) (v := (.int x2)) RA rfl (by decide) e2 d14_84 (pc' := 85) rfl ?_
  refine k_iload G X d14_85 (pc' := 87) rfl rfl ?_
  refine k_icmp_eq G X d14_87 (pc' := 92) rfl (by decide) (pc'' := 90) rfl (fun c87 => ?_) (fun c87 => (absurd c87 (by simp)))
  refine k_iload G X d14_92 (pc' := 94) rfl rfl ?_
  refine k_if_eq G X d14_94 (pc' := 109) rfl (by decide) (pc'' := 97) rfl (fun c94 => (absurd c94 (by decide))) (fun c94 => ?_)
  refine k_aloadN G X d14_97 (pc' := 98) rfl rfl rfl ?_
  refine k_iloadN G X d14_98 (pc' := 99) rfl rfl ?_
  refine k_sipush G X d14_99 (pc' := 102) rfl (z := (300 : Int32)) (by decide) ?_
  refine k_iadd G X d14_102 (pc' := 103) rfl (z := (300 : Int32)) (by decide) ?_
  refine k_baload G X (i := 300) (v := (.int (0 : Int32))) RA rfl (by decide) e3 d14_103 (pc' := 104) rfl ?_
  refine k_if_eq G X d14_104 (pc' := 109) rfl (by decide) (pc'' := 107) rfl (fun c104 => ?_) (fun c104 => (absurd c104 (by decide)))
  refine k_iconst G X d14_109 (pc' := 110) rfl (z := (1 : Int32)) (by decide) ?_
  refine k_retb G X d14_110 (t := .boolean) rfl (by simp) rfl ?_ (by decide) (by decide)
  exact ⟨rfl, rfl⟩
set_option maxRecDepth 65536 in
set_option maxHeartbeats 40000000 in
theorem chk_600_1 {Z : State} {a0 : Array Value} (hw : HW a0 Z) (r : Addr) (kr : ClassId) (f : Nat → Value) (x0 x1 x2 : Int32) (h0 : Heap) (n0 : Nat) (RA : Arf Z h0 r kr .byte 602 f) (c0 : f 0 = .int 91) (c9 : f 601 = .int 93) (e0 : f 1 = .int x0) (e1 : f 2 = .int x1) (e2 : f 600 = .int x2) (e3 : f 301 = .int 0) :
    MetW Z (⟨"com/example/changeline/changeline/format/JsonOutputToBytesPinLaw", "check", "([BIIBBBZ)Z"⟩ : MethodName) method_2_code 8 (some .boolean) [] ({ frames := 0, cells := 0, slots := 0, locals := 0 } : Room) #[(.ref r), (.int (600 : Int32)), (.int (1 : Int32)), (.int x0), (.int x1), (.int x2), (.int (1 : Int32))] h0 n0 (fun v h => v = some (.int 1) ∧ h = h0) := by
  refine k_body (f := (fun m => mkF m 0 #[.val (.ref r), .val (.int (600 : Int32)), .val (.int (1 : Int32)), .val (.int x0), .val (.int x1), .val (.int x2), .val (.int (1 : Int32)), .unset] [])) pn_14 (fun m => by first | (simp [entryFrame, mkF, argsToLocals, Value.category, maxLocals]; done) | rfl) ?_
  intro Γ T G X
  show Go Γ n0 _ T (mkF Γ.m 0 #[.val (.ref r), .val (.int (600 : Int32)), .val (.int (1 : Int32)), .val (.int x0), .val (.int x1), .val (.int x2), .val (.int (1 : Int32)), .unset] [])
  refine k_iloadN G X d14_0 (pc' := 1) rfl rfl ?_
  refine k_iconst G X d14_1 (pc' := 2) rfl (z := (2 : Int32)) (by decide) ?_
  refine k_iloadN G X d14_2 (pc' := 3) rfl rfl ?_
  refine k_imul G X d14_3 (pc' := 4) rfl (z := (2 : Int32)) (by decide) ?_
  refine k_iadd G X d14_4 (pc' := 5) rfl (z := (602 : Int32)) (by decide) ?_
  refine k_istore G X d14_5 (pc' := 7) rfl (l' := #[.val (.ref r), .val (.int (600 : Int32)), .val (.int (1 : Int32)), .val (.int x0), .val (.int x1), .val (.int x2), .val (.int (1 : Int32)), .val (.int (602 : Int32))]) rfl ?_
  refine k_aloadN G X d14_7 (pc' := 8) rfl rfl rfl ?_
  refine k_alen G X (z := (602 : Int32)) RA rfl d14_8 (pc' := 9) rfl ?_
  refine k_iload G X d14_9 (pc' := 11) rfl rfl ?_
  refine k_icmp_eq G X d14_11 (pc' := 16) rfl (by decide) (pc'' := 14) rfl (fun c11 => ?_) (fun c11 => (absurd c11 (by decide)))
  refine k_iloadN G X d14_16 (pc' := 17) rfl rfl ?_
  refine k_iconst G X d14_17 (pc' := 18) rfl (z := (1 : Int32)) (by decide) ?_
  refine k_icmp_ne G X d14_18 (pc' := 42) rfl (by decide) (pc'' := 21) rfl (fun c18 => (absurd c18 (by decide))) (fun c18 => ?_)
  refine k_aloadN G X d14_21 (pc' := 22) rfl rfl rfl ?_
  refine k_iconst G X d14_22 (pc' := 23) rfl (z := (0 : Int32)) (by decide) ?_
  refine k_baload G X (i := 0) (v := (.int (91 : Int32))) RA rfl (by decide) c0 d14_23 (pc' := 24) rfl ?_
  refine k_bipush G X d14_24 (pc' := 26) rfl (z := (91 : Int32)) (by decide) ?_
  refine k_icmp_ne G X d14_26 (pc' := 40) rfl (by decide) (pc'' := 29) rfl (fun c26 => (absurd c26 (by decide))) (fun c26 => ?_)
  refine k_aloadN G X d14_29 (pc' := 30) rfl rfl rfl ?_
  refine k_iload G X d14_30 (pc' := 32) rfl rfl ?_
  refine k_iconst G X d14_32 (pc' := 33) rfl (z := (1 : Int32)) (by decide) ?_
  refine k_isub G X d14_33 (pc' := 34) rfl (z := (601 : Int32)) (by decide) ?_
  refine k_baload G X (i := 601) (v := (.int (93 : Int32))) RA rfl (by decide) c9 d14_34 (pc' := 35) rfl ?_
  refine k_bipush G X d14_35 (pc' := 37) rfl (z := (93 : Int32)) (by decide) ?_
  refine k_icmp_eq G X d14_37 (pc' := 42) rfl (by decide) (pc'' := 40) rfl (fun c37 => ?_) (fun c37 => (absurd c37 (by decide)))
  refine k_iloadN G X d14_42 (pc' := 43) rfl rfl ?_
  refine k_iconst G X d14_43 (pc' := 44) rfl (z := (1 : Int32)) (by decide) ?_
  refine k_icmp_lt G X d14_44 (pc' := 56) rfl (by decide) (pc'' := 47) rfl (fun c44 => (absurd c44 (by decide))) (fun c44 => ?_)
  refine k_aloadN G X d14_47 (pc' := 48) rfl rfl rfl ?_
  refine k_iloadN G X d14_48 (pc' := 49) rfl rfl ?_
  refine k_baload G X (i := 1) (v := (.int x0)) RA rfl (by decide) e0 d14_49 (pc' := 50) rfl ?_
  refine k_iloadN G X d14_50 (pc' := 51) rfl rfl ?_
  refine k_icmp_eq G X d14_51 (pc' := 56) rfl (by decide) (pc'' := 54) rfl (fun c51 => ?_) (fun c51 => (absurd c51 (by simp)))
  refine k_iloadN G X d14_56 (pc' := 57) rfl rfl ?_
  refine k_iconst G X d14_57 (pc' := 58) rfl (z := (2 : Int32)) (by decide) ?_
  refine k_icmp_lt G X d14_58 (pc' := 73) rfl (by decide) (pc'' := 61) rfl (fun c58 => (absurd c58 (by decide))) (fun c58 => ?_)
  refine k_aloadN G X d14_61 (pc' := 62) rfl rfl rfl ?_
  refine k_iloadN G X d14_62 (pc' := 63) rfl rfl ?_
  refine k_iconst G X d14_63 (pc' := 64) rfl (z := (1 : Int32)) (by decide) ?_
  refine k_iadd G X d14_64 (pc' := 65) rfl (z := (2 : Int32)) (by decide) ?_
  refine k_baload G X (i := 2) (v := (.int x1)) RA rfl (by decide) e1 d14_65 (pc' := 66) rfl ?_
  refine k_iload G X d14_66 (pc' := 68) rfl rfl ?_
  refine k_icmp_eq G X d14_68 (pc' := 73) rfl (by decide) (pc'' := 71) rfl (fun c68 => ?_) (fun c68 => (absurd c68 (by simp)))
  refine k_iloadN G X d14_73 (pc' := 74) rfl rfl ?_
  refine k_iconst G X d14_74 (pc' := 75) rfl (z := (3 : Int32)) (by decide) ?_
  refine k_icmp_lt G X d14_75 (pc' := 92) rfl (by decide) (pc'' := 78) rfl (fun c75 => (absurd c75 (by decide))) (fun c75 => ?_)
  refine k_aloadN G X d14_78 (pc' := 79) rfl rfl rfl ?_
  refine k_iloadN G X d14_79 (pc' := 80) rfl rfl ?_
  refine k_iloadN G X d14_80 (pc' := 81) rfl rfl ?_
  refine k_iadd G X d14_81 (pc' := 82) rfl (z := (601 : Int32)) (by decide) ?_
  refine k_iconst G X d14_82 (pc' := 83) rfl (z := (1 : Int32)) (by decide) ?_
  refine k_isub G X d14_83 (pc' := 84) rfl (z := (600 : Int32)) (by decide) ?_
  refine k_baload G X (i := 600) (v := (.int x2)) RA rfl (by decide) e2 d14_84 (pc' := 85) rfl ?_
  refine k_iload G X d14_85 (pc' := 87) rfl rfl ?_
  refine k_icmp_eq G X d14_87 (pc' := 92) rfl (by decide) (pc'' := 90) rfl (fun c87 => ?_) (fun c87 => (absurd c87 (by simp)))
  refine k_iload G X d14_92 (pc' := 94) rfl rfl ?_
  refine k_if_eq G X d14_94 (pc' := 109) rfl (by decide) (pc'' := 97) rfl (fun c94 => (absurd c94 (by decide))) (fun c94 => ?_)
  refine k_aloadN G X d14_97 (pc' := 98) rfl rfl rfl ?_
  refine k_iloadN G X d14_98 (pc' := 99) rfl rfl ?_
  refine k_sipush G X d14_99 (pc' := 102) rfl (z := (300 : Int32)) (by decide) ?_
  refine k_iadd G X d14_102 (pc' := 103) rfl (z := (301 : Int32)) (by decide) ?_
  refine k_baload G X (i := 301) (v := (.int (0 : Int32))) RA rfl (by decide) e3 d14_103 (pc' := 104) rfl ?_
  refine k_if_eq G X d14_104 (pc' := 109) rfl (by decide) (pc'' := 107) rfl (fun c104 => ?_) (fun c104 => (absurd c104 (by decide)))
  refine k_iconst G X d14_109 (pc' := 110) rfl (z := (1 : Int32)) (by decide) ?_
  refine k_retb G X d14_110 (t := .boolean) rfl (by simp) rfl ?_ (by decide) (by decide)
  exact ⟨rfl, rfl⟩
theorem pn_0 : plainFor (⟨"com/example/changeline/changeline/format/JsonOutputToBytesPinLaw", "law", "(IIII)Z"⟩ : MethodName) = true := plainFor_of_name (by first | (simp [plainName, overriddenIn]; done) | decide +kernel)
set_option maxRecDepth 65536 in
set_option maxHeartbeats 40000000 in
theorem rm0 {Z : State} {a0 : Array Value} (hw : HW a0 Z) (p0 p1 p2 p3 : Int32) (aED aDo aEA aAr : Addr) (h0 : Heap) (n0 : Nat) (O : Old Z n0 h0) (S_ED : Sta Z h0 "com/example/changeline/changeline/format/JsonOutput$Scope" "EMPTY_DOCUMENT" "Lcom/example/changeline/changeline/format/JsonOutput$Scope;" (.ref aED)) (S_Do : Sta Z h0 "com/example/changeline/changeline/format/JsonOutput$Scope" "DOCUMENT" "Lcom/example/changeline/changeline/format/JsonOutput$Scope;" (.ref aDo)) (S_EA : Sta Z h0 "com/example/changeline/changeline/format/JsonOutput$Scope" "EMPTY_ARRAY" "Lcom/example/changeline/changeline/format/JsonOutput$Scope;" (.ref aEA)) (S_Ar : Sta Z h0 "com/example/changeline/changeline/format/JsonOutput$Scope" "ARRAY" "Lcom/example/changeline/changeline/format/JsonOutput$Scope;" (.ref aAr)) (EED : Exa Z h0 aED "com/example/changeline/changeline/format/JsonOutput$Scope") (EDo : Exa Z h0 aDo "com/example/changeline/changeline/format/JsonOutput$Scope") (EEA : Exa Z h0 aEA "com/example/changeline/changeline/format/JsonOutput$Scope") (EAr : Exa Z h0 aAr "com/example/changeline/changeline/format/JsonOutput$Scope") (OED : Fld Z h0 aED "java/lang/Enum" "ordinal" "I" (.int 0)) (OEA : Fld Z h0 aEA "java/lang/Enum" "ordinal" "I" (.int 5)) :
    MetW Z x code maxLocals ret tables_1 room_1 #[(.int p0), (.int p1), (.int p2), (.int p3)] h0 n0 (fun v h => v = some (.int 1)) := by
  refine k_body (f := (fun m => mkF m 0 #[.val (.int p0), .val (.int p1), .val (.int p2), .val (.int p3), .unset, .unset, .unset, .unset, .unset, .unset, .unset, .unset, .unset, .unset, .unset, .unset, .unset] [])) pn_0 (fun m => by first | (simp [entryFrame, mkF, argsToLocals, Value.category, maxLocals]; done) | rfl) ?_
  intro Γ T G X
  show Go Γ n0 _ T (mkF Γ.m 0 #[.val (.int p0), .val (.int p1), .val (.int p2), .val (.int p3), .unset, .unset, .unset, .unset, .unset, .unset, .unset, .unset, .unset, .unset, .unset, .unset, .unset] [])
  refine k_iloadN G X at_0 (pc' := 1) rfl rfl ?_
  refine k_iconst G X at_1 (pc' := 2) rfl (z := (3 : Int32)) (by decide) ?_
  refine k_iand G X at_2 (pc' := 3) rfl rfl ?_
  rcases and3 p3 with e | e | e | e <;> rw [e]
  · refine k_istore G X at_3 (pc' := 5) rfl (l' := #[.val (.int p0), .val (.int p1), .val (.int p2), .val (.int p3), .val (.int (0 : Int32)), .unset, .unset, .unset, .unset, .unset, .unset, .unset, .unset, .unset, .unset, .unset, .unset]) rfl ?_
    refine k_iloadN G X at_5 (pc' := 6) rfl rfl ?_
    refine k_iconst G X at_6 (pc' := 7) rfl (z := (2 : Int32)) (by decide) ?_
    refine k_ishr G X at_7 (pc' := 8) rfl rfl ?_
    refine k_iconst G X at_8 (pc' := 9) rfl (z := (1 : Int32)) (by decide) ?_
    refine k_iand G X at_9 (pc' := 10) rfl rfl ?_
    refine k_if_eq G X at_10 (pc' := 17) rfl (by decide) (pc'' := 13) rfl (fun c10 => ?_) (fun c10 => ?_)
    · refine k_iconst G X at_17 (pc' := 18) rfl (z := (0 : Int32)) (by decide) ?_
      refine k_istore G X at_18 (pc' := 20) rfl (l' := #[.val (.int p0), .val (.int p1), .val (.int p2), .val (.int p3), .val (.int (0 : Int32)), .val (.int (0 : Int32)), .unset, .unset, .unset, .unset, .unset, .unset, .unset, .unset, .unset, .unset, .unset]) rfl ?_
      refine k_iloadN G X at_20 (pc' := 21) rfl rfl ?_
      refine k_iconst G X at_21 (pc' := 22) rfl (z := (3 : Int32)) (by decide) ?_
      refine k_ishr G X at_22 (pc' := 23) rfl rfl ?_
      refine k_iconst G X at_23 (pc' := 24) rfl (z := (1 : Int32)) (by decide) ?_
      refine k_iand G X at_24 (pc' := 25) rfl rfl ?_
      refine k_if_eq G X at_25 (pc' := 32) rfl (by decide) (pc'' := 28) rfl (fun c25 => ?_) (fun c25 => ?_)
      · refine k_iconst G X at_32 (pc' := 33) rfl (z := (0 : Int32)) (by decide) ?_
        refine k_istore G X at_33 (pc' := 35) rfl (l' := #[.val (.int p0), .val (.int p1), .val (.int p2), .val (.int p3), .val (.int (0 : Int32)), .val (.int (0 : Int32)), .val (.int (0 : Int32)), .unset, .unset, .unset, .unset, .unset, .unset, .unset, .unset, .unset, .unset]) rfl ?_
        refine k_iload G X at_35 (pc' := 37) rfl rfl ?_
        refine k_if_eq G X at_37 (pc' := 46) rfl (by decide) (pc'' := 40) rfl (fun c37 => ?_) (fun c37 => (absurd c37 (by decide)))
        refine k_iload G X at_46 (pc' := 48) rfl rfl ?_
        refine k_istore G X at_48 (pc' := 50) rfl (l' := #[.val (.int p0), .val (.int p1), .val (.int p2), .val (.int p3), .val (.int (0 : Int32)), .val (.int (0 : Int32)), .val (.int (0 : Int32)), .val (.int (0 : Int32)), .unset, .unset, .unset, .unset, .unset, .unset, .unset, .unset, .unset]) rfl ?_
        refine k_iloadN G X at_50 (pc' := 51) rfl rfl ?_
        refine k_i2b G X at_51 (pc' := 52) rfl rfl ?_
        refine k_istore G X at_52 (pc' := 54) rfl (l' := #[.val (.int p0), .val (.int p1), .val (.int p2), .val (.int p3), .val (.int (0 : Int32)), .val (.int (0 : Int32)), .val (.int (0 : Int32)), .val (.int (0 : Int32)), .val (.int (p0.toInt8.toInt32)), .unset, .unset, .unset, .unset, .unset, .unset, .unset, .unset]) rfl ?_
        refine k_iloadN G X at_54 (pc' := 55) rfl rfl ?_
        refine k_i2b G X at_55 (pc' := 56) rfl rfl ?_
        refine k_istore G X at_56 (pc' := 58) rfl (l' := #[.val (.int p0), .val (.int p1), .val (.int p2), .val (.int p3), .val (.int (0 : Int32)), .val (.int (0 : Int32)), .val (.int (0 : Int32)), .val (.int (0 : Int32)), .val (.int (p0.toInt8.toInt32)), .val (.int (p1.toInt8.toInt32)), .unset, .unset, .unset, .unset, .unset, .unset, .unset]) rfl ?_
        refine k_iloadN G X at_58 (pc' := 59) rfl rfl ?_
        refine k_i2b G X at_59 (pc' := 60) rfl rfl ?_
        refine k_istore G X at_60 (pc' := 62) rfl (l' := #[.val (.int p0), .val (.int p1), .val (.int p2), .val (.int p3), .val (.int (0 : Int32)), .val (.int (0 : Int32)), .val (.int (0 : Int32)), .val (.int (0 : Int32)), .val (.int (p0.toInt8.toInt32)), .val (.int (p1.toInt8.toInt32)), .val (.int (p2.toInt8.toInt32)), .unset, .unset, .unset, .unset, .unset, .unset]) rfl ?_
        refine k_iload G X at_62 (pc' := 64) rfl rfl ?_
        refine k_newP G X (aty := .byte) (n := 0) (cap := 0) (w0 hw) at_64 (pc' := 66) rfl rfl (by decide) (by decide) (by decide) (by decide) (fun T h64 b64 k64 s_b64 E64 A_b64 X => ?_)
        have ne_aED_b64 : aED ≠ b64 := Nat.ne_of_lt (Nat.lt_of_lt_of_eq EED.lt s_b64)
        have ne_aDo_b64 : aDo ≠ b64 := Nat.ne_of_lt (Nat.lt_of_lt_of_eq EDo.lt s_b64)
        have ne_aEA_b64 : aEA ≠ b64 := Nat.ne_of_lt (Nat.lt_of_lt_of_eq EEA.lt s_b64)
        have ne_aAr_b64 : aAr ≠ b64 := Nat.ne_of_lt (Nat.lt_of_lt_of_eq EAr.lt s_b64)
        have ge_b64 : n0 ≤ b64 := Nat.le_trans (Jvm.OwnK.Old_le O) (Nat.le_of_eq s_b64)
        replace O := O.ext E64
        replace S_ED := S_ED.ext E64
        replace S_Do := S_Do.ext E64
        replace S_EA := S_EA.ext E64
        replace S_Ar := S_Ar.ext E64
        replace EED := EED.ext E64
        replace EDo := EDo.ext E64
        replace EEA := EEA.ext E64
        replace EAr := EAr.ext E64
        replace OED := OED.ext E64
        replace OEA := OEA.ext E64
        replace A_b64 : Arf Z h64 b64 k64 .byte 0 (fun _ => (.int (0 : Int32))) := A_b64
        refine k_astore G X at_66 (pc' := 68) rfl rfl (l' := #[.val (.int p0), .val (.int p1), .val (.int p2), .val (.int p3), .val (.int (0 : Int32)), .val (.int (0 : Int32)), .val (.int (0 : Int32)), .val (.int (0 : Int32)), .val (.int (p0.toInt8.toInt32)), .val (.int (p1.toInt8.toInt32)), .val (.int (p2.toInt8.toInt32)), .val (.ref b64), .unset, .unset, .unset, .unset, .unset]) rfl ?_
        refine k_iload G X at_68 (pc' := 70) rfl rfl ?_
        refine k_iconst G X at_70 (pc' := 71) rfl (z := (1 : Int32)) (by decide) ?_
        refine k_icmp_lt G X at_71 (pc' := 80) rfl (by decide) (pc'' := 74) rfl (fun c71 => ?_) (fun c71 => (absurd c71 (by decide)))
        refine k_iload G X at_80 (pc' := 82) rfl rfl ?_
        refine k_iconst G X at_82 (pc' := 83) rfl (z := (2 : Int32)) (by decide) ?_
        refine k_icmp_lt G X at_83 (pc' := 92) rfl (by decide) (pc'' := 86) rfl (fun c83 => ?_) (fun c83 => (absurd c83 (by decide)))
        refine k_iload G X at_92 (pc' := 94) rfl rfl ?_
        refine k_iconst G X at_94 (pc' := 95) rfl (z := (3 : Int32)) (by decide) ?_
        refine k_icmp_lt G X at_95 (pc' := 107) rfl (by decide) (pc'' := 98) rfl (fun c95 => ?_) (fun c95 => (absurd c95 (by decide)))
        refine k_new G X (w1 hw) (w2 hw) (w3 hw) at_107 (pc' := 110) rfl (by decide) (by decide) (fun T h107 b107 s_b107 E107 X_b107 D107 X => ?_)
        have ne_aED_b107 : aED ≠ b107 := Nat.ne_of_lt (Nat.lt_of_lt_of_eq EED.lt s_b107)
        have ne_aDo_b107 : aDo ≠ b107 := Nat.ne_of_lt (Nat.lt_of_lt_of_eq EDo.lt s_b107)
        have ne_aEA_b107 : aEA ≠ b107 := Nat.ne_of_lt (Nat.lt_of_lt_of_eq EEA.lt s_b107)
        have ne_aAr_b107 : aAr ≠ b107 := Nat.ne_of_lt (Nat.lt_of_lt_of_eq EAr.lt s_b107)
        have ne_b64_b107 : b64 ≠ b107 := Nat.ne_of_lt (Nat.lt_of_lt_of_eq A_b64.lt s_b107)
        have ge_b107 : n0 ≤ b107 := Nat.le_trans (Jvm.OwnK.Old_le O) (Nat.le_of_eq s_b107)
        replace O := O.ext E107
        replace S_ED := S_ED.ext E107
        replace S_Do := S_Do.ext E107
        replace S_EA := S_EA.ext E107
        replace S_Ar := S_Ar.ext E107
        replace EED := EED.ext E107
        replace EDo := EDo.ext E107
        replace EEA := EEA.ext E107
        replace EAr := EAr.ext E107
        replace OED := OED.ext E107
        replace OEA := OEA.ext E107
        replace A_b64 := A_b64.ext E107
        have F_b107_names : Fld Z h107 b107 "com/example/changeline/changeline/format/JsonOutput" "names" "Ljava/util/Map;" .null := D107 (Or.inr (w33 hw)) (ty := (.object "java/util/Map")) (by decide)
        have F_b107_bytes : Fld Z h107 b107 "com/example/changeline/changeline/format/JsonOutput" "bytes" "[B" .null := D107 (Or.inl (w35 hw)) (ty := (.array .byte)) (by decide)
        have F_b107_scopes : Fld Z h107 b107 "com/example/changeline/changeline/format/JsonOutput" "scopes" "[Lcom/example/changeline/changeline/format/JsonOutput$Scope;" .null := D107 (Or.inl (w39 hw)) (ty := (.array (.object "com/example/changeline/changeline/format/JsonOutput$Scope"))) (by decide)
        have F_b107_depth : Fld Z h107 b107 "com/example/changeline/changeline/format/JsonOutput" "depth" "I" (.int (0 : Int32)) := D107 (Or.inl (w41 hw)) (ty := .int) (by decide)
        have F_b107_length : Fld Z h107 b107 "com/example/changeline/changeline/format/JsonOutput" "length" "I" (.int (0 : Int32)) := D107 (Or.inl (w71 hw)) (ty := .int) (by decide)
        refine k_dup G X at_110 (pc' := 111) rfl rfl ?_
        refine k_callI G X (argsL := []) (rest := [(.ref b107)]) rfl rfl (w4 hw) (w5 hw) (w3 hw) (w6 hw) (by decide) (jo_init hw b107 aED h107 n0 ge_b107 O X_b107 F_b107_names F_b107_bytes F_b107_length F_b107_scopes F_b107_depth S_ED EED) at_111 pd0 rfl (pc' := 114) rfl rfl (wd := 1) rfl (by decide) (by decide) (by decide) (by decide) (fun T h111 v X q => ?_)
        obtain ⟨rfl, K111, E', b, sc, kb, ks, sz_b, sz_sc, ne_b_sc, FB, FL, FS, FD, BA, SCA, SO⟩ := q
        have ne_aED_b : aED ≠ b := Nat.ne_of_lt (Nat.lt_of_lt_of_le EED.lt sz_b)
        have ne_aED_sc : aED ≠ sc := Nat.ne_of_lt (Nat.lt_of_lt_of_le EED.lt sz_sc)
        have ne_aDo_b : aDo ≠ b := Nat.ne_of_lt (Nat.lt_of_lt_of_le EDo.lt sz_b)
        have ne_aDo_sc : aDo ≠ sc := Nat.ne_of_lt (Nat.lt_of_lt_of_le EDo.lt sz_sc)
        have ne_aEA_b : aEA ≠ b := Nat.ne_of_lt (Nat.lt_of_lt_of_le EEA.lt sz_b)
        have ne_aEA_sc : aEA ≠ sc := Nat.ne_of_lt (Nat.lt_of_lt_of_le EEA.lt sz_sc)
        have ne_aAr_b : aAr ≠ b := Nat.ne_of_lt (Nat.lt_of_lt_of_le EAr.lt sz_b)
        have ne_aAr_sc : aAr ≠ sc := Nat.ne_of_lt (Nat.lt_of_lt_of_le EAr.lt sz_sc)
        have ne_b64_b : b64 ≠ b := Nat.ne_of_lt (Nat.lt_of_lt_of_le A_b64.lt sz_b)
        have ne_b64_sc : b64 ≠ sc := Nat.ne_of_lt (Nat.lt_of_lt_of_le A_b64.lt sz_sc)
        have ne_o_b : b107 ≠ b := Nat.ne_of_lt (Nat.lt_of_lt_of_le X_b107.lt sz_b)
        have ge_b : n0 ≤ b := Nat.le_trans (Old_le O) sz_b
        have ne_o_sc : b107 ≠ sc := Nat.ne_of_lt (Nat.lt_of_lt_of_le X_b107.lt sz_sc)
        have ge_sc : n0 ≤ sc := Nat.le_trans (Old_le O) sz_sc
        replace S_ED := Sta_keepL S_ED K111 (allS (Pln_exa X_b107) (all0))
        replace S_Do := Sta_keepL S_Do K111 (allS (Pln_exa X_b107) (all0))
        replace S_EA := Sta_keepL S_EA K111 (allS (Pln_exa X_b107) (all0))
        replace S_Ar := Sta_keepL S_Ar K111 (allS (Pln_exa X_b107) (all0))
        replace O := O.keep K111 (allS ge_b107 (all0))
        replace EED := EED.keep K111
        replace EDo := EDo.keep K111
        replace EEA := EEA.keep K111
        replace EAr := EAr.keep K111
        replace OED := OED.keep K111 (by simp only [List.mem_cons, List.not_mem_nil, or_false, not_or]; exact ne_aED_b107)
        replace OEA := OEA.keep K111 (by simp only [List.mem_cons, List.not_mem_nil, or_false, not_or]; exact ne_aEA_b107)
        replace A_b64 := A_b64.keep K111 (by simp only [List.mem_cons, List.not_mem_nil, or_false, not_or]; exact ne_b64_b107)
        replace X_b107 := X_b107.keep K111
        show Go Γ n0 _ T (mkF Γ.m 114 #[.val (.int p0), .val (.int p1), .val (.int p2), .val (.int p3), .val (.int (0 : Int32)), .val (.int (0 : Int32)), .val (.int (0 : Int32)), .val (.int (0 : Int32)), .val (.int (p0.toInt8.toInt32)), .val (.int (p1.toInt8.toInt32)), .val (.int (p2.toInt8.toInt32)), .val (.ref b64), .unset, .unset, .unset, .unset, .unset] [(.ref b107)])
        refine k_astore G X at_114 (pc' := 116) rfl rfl (l' := #[.val (.int p0), .val (.int p1), .val (.int p2), .val (.int p3), .val (.int (0 : Int32)), .val (.int (0 : Int32)), .val (.int (0 : Int32)), .val (.int (0 : Int32)), .val (.int (p0.toInt8.toInt32)), .val (.int (p1.toInt8.toInt32)), .val (.int (p2.toInt8.toInt32)), .val (.ref b64), .val (.ref b107), .unset, .unset, .unset, .unset]) rfl ?_
        refine k_iload G X at_116 (pc' := 118) rfl rfl ?_
        refine k_if_eq G X at_118 (pc' := 127) rfl (by decide) (pc'' := 121) rfl (fun c118 => ?_) (fun c118 => (absurd c118 (by decide)))
        refine k_aload G X at_127 (pc' := 129) rfl rfl rfl ?_
        refine k_aload G X at_129 (pc' := 131) rfl rfl rfl ?_
        refine k_callV G X (argsL := [(.ref b64)]) (rest := []) rfl X_b107 (w46 hw) (w47 hw) (nf_sel (w49 hw)) (w49 hw) (w48 hw) (w3 hw) (w50 hw) (by decide) (jv00 hw b107 b b64 sc aED aDo kb k64 ks 0 0 512 (0 : Int32) (0 : Int32) (0 : Int32) (512 : Int32) _ _ _ h111 n0 ge_b107 ge_sc O X_b107 FB FL FS FD SCA SO ne_o_sc rfl rfl rfl rfl ge_b BA A_b64 EED OED EDo S_Do rfl ne_aED_sc ne_o_b.symm ne_b64_b107 ne_b64_b ne_b_sc ne_b64_sc (by decide)) at_131 pd9 rfl (pc' := 134) rfl rfl (wd := 0) rfl (by decide) (by decide) (by decide) (by decide) (fun T h131 v X q => ?_)
        obtain ⟨rfl, K131, E', SCA', FB', FL', FS', FD', BA'⟩ := q
        replace S_ED := Sta_keepL S_ED K131 (allS (Pln_arf SCA) (allS (Pln_exa X_b107) (allS (Pln_arf BA) (all0))))
        replace S_Do := Sta_keepL S_Do K131 (allS (Pln_arf SCA) (allS (Pln_exa X_b107) (allS (Pln_arf BA) (all0))))
        replace S_EA := Sta_keepL S_EA K131 (allS (Pln_arf SCA) (allS (Pln_exa X_b107) (allS (Pln_arf BA) (all0))))
        replace S_Ar := Sta_keepL S_Ar K131 (allS (Pln_arf SCA) (allS (Pln_exa X_b107) (allS (Pln_arf BA) (all0))))
        replace O := O.keep K131 (allS ge_sc (allS ge_b107 (allS ge_b (all0))))
        replace EED := EED.keep K131
        replace EDo := EDo.keep K131
        replace EEA := EEA.keep K131
        replace EAr := EAr.keep K131
        replace X_b107 := X_b107.keep K131
        have FB := FB'
        have FL := FL'
        have FS := FS'
        have FD := FD'
        have BA := BA'
        have SCA := SCA'
        show Go Γ n0 _ T (mkF Γ.m 134 #[.val (.int p0), .val (.int p1), .val (.int p2), .val (.int p3), .val (.int (0 : Int32)), .val (.int (0 : Int32)), .val (.int (0 : Int32)), .val (.int (0 : Int32)), .val (.int (p0.toInt8.toInt32)), .val (.int (p1.toInt8.toInt32)), .val (.int (p2.toInt8.toInt32)), .val (.ref b64), .val (.ref b107), .unset, .unset, .unset, .unset] [(.ref b107)])
        refine k_pop G X at_134 (pc' := 135) rfl rfl ?_
        refine k_iload G X at_135 (pc' := 137) rfl rfl ?_
        refine k_if_eq G X at_137 (pc' := 146) rfl (by decide) (pc'' := 140) rfl (fun c137 => ?_) (fun c137 => (absurd c137 (by decide)))
        refine k_iload G X at_146 (pc' := 148) rfl rfl ?_
        refine k_if_eq G X at_148 (pc' := 155) rfl (by decide) (pc'' := 151) rfl (fun c148 => ?_) (fun c148 => (absurd c148 (by decide)))
        refine k_iconst G X at_155 (pc' := 156) rfl (z := (0 : Int32)) (by decide) ?_
        refine k_istore G X at_156 (pc' := 158) rfl (l' := #[.val (.int p0), .val (.int p1), .val (.int p2), .val (.int p3), .val (.int (0 : Int32)), .val (.int (0 : Int32)), .val (.int (0 : Int32)), .val (.int (0 : Int32)), .val (.int (p0.toInt8.toInt32)), .val (.int (p1.toInt8.toInt32)), .val (.int (p2.toInt8.toInt32)), .val (.ref b64), .val (.ref b107), .val (.int (0 : Int32)), .unset, .unset, .unset]) rfl ?_
        refine k_aload G X at_158 (pc' := 160) rfl rfl rfl ?_
        refine k_callV G X (argsL := []) (rest := []) rfl X_b107 (w80 hw) (w81 hw) (nf_sel (w83 hw)) (w83 hw) (w82 hw) (w3 hw) (w84 hw) (by decide) (toB hw b107 b kb 0 512 (0 : Int32) (512 : Int32) _ h131 n0 O FB FL rfl rfl (by decide) (by decide) BA) at_160 pd10 rfl (pc' := 163) rfl rfl (wd := 0) rfl (by decide) (by decide) (by decide) (by decide) (fun T h160 v X q => ?_)
        obtain ⟨r160, kr160, rfl, sz_r160, K160, R160⟩ := q
        have ge_r160 : n0 ≤ r160 := Nat.le_trans (Old_le O) sz_r160
        have ne_aED_r160 : aED ≠ r160 := Nat.ne_of_lt (Nat.lt_of_lt_of_le EED.lt sz_r160)
        have ne_aDo_r160 : aDo ≠ r160 := Nat.ne_of_lt (Nat.lt_of_lt_of_le EDo.lt sz_r160)
        have ne_aEA_r160 : aEA ≠ r160 := Nat.ne_of_lt (Nat.lt_of_lt_of_le EEA.lt sz_r160)
        have ne_aAr_r160 : aAr ≠ r160 := Nat.ne_of_lt (Nat.lt_of_lt_of_le EAr.lt sz_r160)
        have ne_b107_r160 : b107 ≠ r160 := Nat.ne_of_lt (Nat.lt_of_lt_of_le X_b107.lt sz_r160)
        have ne_b_r160 : b ≠ r160 := Nat.ne_of_lt (Nat.lt_of_lt_of_le BA.lt sz_r160)
        have ne_sc_r160 : sc ≠ r160 := Nat.ne_of_lt (Nat.lt_of_lt_of_le SCA.lt sz_r160)
        replace S_ED := Jvm.OwnK.Sta_keep S_ED K160
        replace S_Do := Jvm.OwnK.Sta_keep S_Do K160
        replace S_EA := Jvm.OwnK.Sta_keep S_EA K160
        replace S_Ar := Jvm.OwnK.Sta_keep S_Ar K160
        replace O := O.keep K160 (all0)
        replace EED := EED.keep K160
        replace EDo := EDo.keep K160
        replace EEA := EEA.keep K160
        replace EAr := EAr.keep K160
        replace X_b107 := X_b107.keep K160
        replace FB := FB.keep K160 nin0
        replace FL := FL.keep K160 nin0
        replace FS := FS.keep K160 nin0
        replace FD := FD.keep K160 nin0
        replace BA := BA.keep K160 nin0
        replace SCA := SCA.keep K160 nin0
        show Go Γ n0 _ T (mkF Γ.m 163 #[.val (.int p0), .val (.int p1), .val (.int p2), .val (.int p3), .val (.int (0 : Int32)), .val (.int (0 : Int32)), .val (.int (0 : Int32)), .val (.int (0 : Int32)), .val (.int (p0.toInt8.toInt32)), .val (.int (p1.toInt8.toInt32)), .val (.int (p2.toInt8.toInt32)), .val (.ref b64), .val (.ref b107), .val (.int (0 : Int32)), .unset, .unset, .unset] [(.ref r160)])
        refine k_astore G X at_163 (pc' := 165) rfl rfl (l' := #[.val (.int p0), .val (.int p1), .val (.int p2), .val (.int p3), .val (.int (0 : Int32)), .val (.int (0 : Int32)), .val (.int (0 : Int32)), .val (.int (0 : Int32)), .val (.int (p0.toInt8.toInt32)), .val (.int (p1.toInt8.toInt32)), .val (.int (p2.toInt8.toInt32)), .val (.ref b64), .val (.ref b107), .val (.int (0 : Int32)), .val (.ref r160), .unset, .unset]) rfl ?_
        refine k_aload G X at_165 (pc' := 167) rfl rfl rfl ?_
        refine k_iload G X at_167 (pc' := 169) rfl rfl ?_
        refine k_iload G X at_169 (pc' := 171) rfl rfl ?_
        refine k_iload G X at_171 (pc' := 173) rfl rfl ?_
        refine k_iload G X at_173 (pc' := 175) rfl rfl ?_
        refine k_iload G X at_175 (pc' := 177) rfl rfl ?_
        refine k_iload G X at_177 (pc' := 179) rfl rfl ?_
        refine k_callS G X (argsL := [(.ref r160), (.int (0 : Int32)), (.int (0 : Int32)), (.int (p0.toInt8.toInt32)), (.int (p1.toInt8.toInt32)), (.int (p2.toInt8.toInt32)), (.int (0 : Int32))]) (rest := []) rfl (w94 hw) (w95 hw) (w96 hw) (w97 hw) (by decide) (chk_0_0 hw r160 kr160 _ (p0.toInt8.toInt32) (p1.toInt8.toInt32) (p2.toInt8.toInt32) h160 n0 R160 ) at_179 pd11 rfl (pc' := 182) rfl rfl (wd := 0) rfl (by decide) (by decide) (by decide) (by decide) (fun T h179 v X q => ?_)
        obtain ⟨rfl, e179⟩ := q
        replace X := X.eq e179
        show Go Γ n0 _ T (mkF Γ.m 182 #[.val (.int p0), .val (.int p1), .val (.int p2), .val (.int p3), .val (.int (0 : Int32)), .val (.int (0 : Int32)), .val (.int (0 : Int32)), .val (.int (0 : Int32)), .val (.int (p0.toInt8.toInt32)), .val (.int (p1.toInt8.toInt32)), .val (.int (p2.toInt8.toInt32)), .val (.ref b64), .val (.ref b107), .val (.int (0 : Int32)), .val (.ref r160), .unset, .unset] [(.int (1 : Int32))])
        refine k_istore G X at_182 (pc' := 184) rfl (l' := #[.val (.int p0), .val (.int p1), .val (.int p2), .val (.int p3), .val (.int (0 : Int32)), .val (.int (0 : Int32)), .val (.int (0 : Int32)), .val (.int (0 : Int32)), .val (.int (p0.toInt8.toInt32)), .val (.int (p1.toInt8.toInt32)), .val (.int (p2.toInt8.toInt32)), .val (.ref b64), .val (.ref b107), .val (.int (0 : Int32)), .val (.ref r160), .val (.int (1 : Int32)), .unset]) rfl ?_
        refine k_aload G X at_184 (pc' := 186) rfl rfl rfl ?_
        refine k_alen G X (z := (0 : Int32)) R160 rfl at_186 (pc' := 187) rfl ?_
        refine k_if_le G X at_187 (pc' := 201) rfl (by decide) (pc'' := 190) rfl (fun c187 => ?_) (fun c187 => (absurd c187 (by decide)))
        refine k_aload G X at_201 (pc' := 203) rfl rfl rfl ?_
        refine k_callV G X (argsL := []) (rest := []) rfl X_b107 (w80 hw) (w81 hw) (nf_sel (w83 hw)) (w83 hw) (w82 hw) (w3 hw) (w84 hw) (by decide) (toB hw b107 b kb 0 512 (0 : Int32) (512 : Int32) _ h160 n0 O FB FL rfl rfl (by decide) (by decide) BA) at_203 pd10 rfl (pc' := 206) rfl rfl (wd := 0) rfl (by decide) (by decide) (by decide) (by decide) (fun T h203 v X q => ?_)
        obtain ⟨r203, kr203, rfl, sz_r203, K203, R203⟩ := q
        have ge_r203 : n0 ≤ r203 := Nat.le_trans (Old_le O) sz_r203
        replace S_ED := Jvm.OwnK.Sta_keep S_ED K203
        replace S_Do := Jvm.OwnK.Sta_keep S_Do K203
        replace S_EA := Jvm.OwnK.Sta_keep S_EA K203
        replace S_Ar := Jvm.OwnK.Sta_keep S_Ar K203
        replace O := O.keep K203 (all0)
        replace EED := EED.keep K203
        replace EDo := EDo.keep K203
        replace EEA := EEA.keep K203
        replace EAr := EAr.keep K203
        replace X_b107 := X_b107.keep K203
        replace FB := FB.keep K203 nin0
        replace FL := FL.keep K203 nin0
        replace FS := FS.keep K203 nin0
        replace FD := FD.keep K203 nin0
        replace BA := BA.keep K203 nin0
        replace SCA := SCA.keep K203 nin0
        replace R160 := R160.keep K203 nin0
        show Go Γ n0 _ T (mkF Γ.m 206 #[.val (.int p0), .val (.int p1), .val (.int p2), .val (.int p3), .val (.int (0 : Int32)), .val (.int (0 : Int32)), .val (.int (0 : Int32)), .val (.int (0 : Int32)), .val (.int (p0.toInt8.toInt32)), .val (.int (p1.toInt8.toInt32)), .val (.int (p2.toInt8.toInt32)), .val (.ref b64), .val (.ref b107), .val (.int (0 : Int32)), .val (.ref r160), .val (.int (1 : Int32)), .unset] [(.ref r203)])
        refine k_astore G X at_206 (pc' := 208) rfl rfl (l' := #[.val (.int p0), .val (.int p1), .val (.int p2), .val (.int p3), .val (.int (0 : Int32)), .val (.int (0 : Int32)), .val (.int (0 : Int32)), .val (.int (0 : Int32)), .val (.int (p0.toInt8.toInt32)), .val (.int (p1.toInt8.toInt32)), .val (.int (p2.toInt8.toInt32)), .val (.ref b64), .val (.ref b107), .val (.int (0 : Int32)), .val (.ref r160), .val (.int (1 : Int32)), .val (.ref r203)]) rfl ?_
        refine k_iload G X at_208 (pc' := 210) rfl rfl ?_
        refine k_if_eq G X at_210 (pc' := 237) rfl (by decide) (pc'' := 213) rfl (fun c210 => (absurd c210 (by decide))) (fun c210 => ?_)
        refine k_aload G X at_213 (pc' := 215) rfl rfl rfl ?_
        refine k_iload G X at_215 (pc' := 217) rfl rfl ?_
        refine k_iload G X at_217 (pc' := 219) rfl rfl ?_
        refine k_iload G X at_219 (pc' := 221) rfl rfl ?_
        refine k_iload G X at_221 (pc' := 223) rfl rfl ?_
        refine k_iload G X at_223 (pc' := 225) rfl rfl ?_
        refine k_iload G X at_225 (pc' := 227) rfl rfl ?_
        refine k_callS G X (argsL := [(.ref r203), (.int (0 : Int32)), (.int (0 : Int32)), (.int (p0.toInt8.toInt32)), (.int (p1.toInt8.toInt32)), (.int (p2.toInt8.toInt32)), (.int (0 : Int32))]) (rest := []) rfl (w94 hw) (w95 hw) (w96 hw) (w97 hw) (by decide) (chk_0_0 hw r203 kr203 _ (p0.toInt8.toInt32) (p1.toInt8.toInt32) (p2.toInt8.toInt32) h203 n0 R203 ) at_227 pd11 rfl (pc' := 230) rfl rfl (wd := 0) rfl (by decide) (by decide) (by decide) (by decide) (fun T h227 v X q => ?_)
        obtain ⟨rfl, e227⟩ := q
        replace X := X.eq e227
        show Go Γ n0 _ T (mkF Γ.m 230 #[.val (.int p0), .val (.int p1), .val (.int p2), .val (.int p3), .val (.int (0 : Int32)), .val (.int (0 : Int32)), .val (.int (0 : Int32)), .val (.int (0 : Int32)), .val (.int (p0.toInt8.toInt32)), .val (.int (p1.toInt8.toInt32)), .val (.int (p2.toInt8.toInt32)), .val (.ref b64), .val (.ref b107), .val (.int (0 : Int32)), .val (.ref r160), .val (.int (1 : Int32)), .val (.ref r203)] [(.int (1 : Int32))])
        refine k_if_eq G X at_230 (pc' := 237) rfl (by decide) (pc'' := 233) rfl (fun c230 => (absurd c230 (by decide))) (fun c230 => ?_)
        refine k_iconst G X at_233 (pc' := 234) rfl (z := (1 : Int32)) (by decide) ?_
        refine k_goto G X at_234 (by decide) (pc' := 238) rfl ?_
        refine k_retb G X at_238 (t := .boolean) rfl (by simp) rfl ?_ (by decide) (by decide)
        rfl
      · refine k_iconst G X at_28 (pc' := 29) rfl (z := (1 : Int32)) (by decide) ?_
        refine k_goto G X at_29 (by decide) (pc' := 33) rfl ?_
        refine k_istore G X at_33 (pc' := 35) rfl (l' := #[.val (.int p0), .val (.int p1), .val (.int p2), .val (.int p3), .val (.int (0 : Int32)), .val (.int (0 : Int32)), .val (.int (1 : Int32)), .unset, .unset, .unset, .unset, .unset, .unset, .unset, .unset, .unset, .unset]) rfl ?_
        refine k_iload G X at_35 (pc' := 37) rfl rfl ?_
        refine k_if_eq G X at_37 (pc' := 46) rfl (by decide) (pc'' := 40) rfl (fun c37 => (absurd c37 (by decide))) (fun c37 => ?_)
        refine k_sipush G X at_40 (pc' := 43) rfl (z := (600 : Int32)) (by decide) ?_
        refine k_goto G X at_43 (by decide) (pc' := 48) rfl ?_
        refine k_istore G X at_48 (pc' := 50) rfl (l' := #[.val (.int p0), .val (.int p1), .val (.int p2), .val (.int p3), .val (.int (0 : Int32)), .val (.int (0 : Int32)), .val (.int (1 : Int32)), .val (.int (600 : Int32)), .unset, .unset, .unset, .unset, .unset, .unset, .unset, .unset, .unset]) rfl ?_
        refine k_iloadN G X at_50 (pc' := 51) rfl rfl ?_
        refine k_i2b G X at_51 (pc' := 52) rfl rfl ?_
        refine k_istore G X at_52 (pc' := 54) rfl (l' := #[.val (.int p0), .val (.int p1), .val (.int p2), .val (.int p3), .val (.int (0 : Int32)), .val (.int (0 : Int32)), .val (.int (1 : Int32)), .val (.int (600 : Int32)), .val (.int (p0.toInt8.toInt32)), .unset, .unset, .unset, .unset, .unset, .unset, .unset, .unset]) rfl ?_
        refine k_iloadN G X at_54 (pc' := 55) rfl rfl ?_
        refine k_i2b G X at_55 (pc' := 56) rfl rfl ?_
        refine k_istore G X at_56 (pc' := 58) rfl (l' := #[.val (.int p0), .val (.int p1), .val (.int p2), .val (.int p3), .val (.int (0 : Int32)), .val (.int (0 : Int32)), .val (.int (1 : Int32)), .val (.int (600 : Int32)), .val (.int (p0.toInt8.toInt32)), .val (.int (p1.toInt8.toInt32)), .unset, .unset, .unset, .unset, .unset, .unset, .unset]) rfl ?_
        refine k_iloadN G X at_58 (pc' := 59) rfl rfl ?_
        refine k_i2b G X at_59 (pc' := 60) rfl rfl ?_
        refine k_istore G X at_60 (pc' := 62) rfl (l' := #[.val (.int p0), .val (.int p1), .val (.int p2), .val (.int p3), .val (.int (0 : Int32)), .val (.int (0 : Int32)), .val (.int (1 : Int32)), .val (.int (600 : Int32)), .val (.int (p0.toInt8.toInt32)), .val (.int (p1.toInt8.toInt32)), .val (.int (p2.toInt8.toInt32)), .unset, .unset, .unset, .unset, .unset, .unset]) rfl ?_
        refine k_iload G X at_62 (pc' := 64) rfl rfl ?_
        refine k_newP G X (aty := .byte) (n := 600) (cap := 600) (w0 hw) at_64 (pc' := 66) rfl rfl (by decide) (by decide) (by decide) (by decide) (fun T h64 b64 k64 s_b64 E64 A_b64 X => ?_)
        have ne_aED_b64 : aED ≠ b64 := Nat.ne_of_lt (Nat.lt_of_lt_of_eq EED.lt s_b64)
        have ne_aDo_b64 : aDo ≠ b64 := Nat.ne_of_lt (Nat.lt_of_lt_of_eq EDo.lt s_b64)
        have ne_aEA_b64 : aEA ≠ b64 := Nat.ne_of_lt (Nat.lt_of_lt_of_eq EEA.lt s_b64)
        have ne_aAr_b64 : aAr ≠ b64 := Nat.ne_of_lt (Nat.lt_of_lt_of_eq EAr.lt s_b64)
        have ge_b64 : n0 ≤ b64 := Nat.le_trans (Jvm.OwnK.Old_le O) (Nat.le_of_eq s_b64)
        replace O := O.ext E64
        replace S_ED := S_ED.ext E64
        replace S_Do := S_Do.ext E64
        replace S_EA := S_EA.ext E64
        replace S_Ar := S_Ar.ext E64
        replace EED := EED.ext E64
        replace EDo := EDo.ext E64
        replace EEA := EEA.ext E64
        replace EAr := EAr.ext E64
        replace OED := OED.ext E64
        replace OEA := OEA.ext E64
        replace A_b64 : Arf Z h64 b64 k64 .byte 600 (fun _ => (.int (0 : Int32))) := A_b64
        refine k_astore G X at_66 (pc' := 68) rfl rfl (l' := #[.val (.int p0), .val (.int p1), .val (.int p2), .val (.int p3), .val (.int (0 : Int32)), .val (.int (0 : Int32)), .val (.int (1 : Int32)), .val (.int (600 : Int32)), .val (.int (p0.toInt8.toInt32)), .val (.int (p1.toInt8.toInt32)), .val (.int (p2.toInt8.toInt32)), .val (.ref b64), .unset, .unset, .unset, .unset, .unset]) rfl ?_
        refine k_iload G X at_68 (pc' := 70) rfl rfl ?_
        refine k_iconst G X at_70 (pc' := 71) rfl (z := (1 : Int32)) (by decide) ?_
        refine k_icmp_lt G X at_71 (pc' := 80) rfl (by decide) (pc'' := 74) rfl (fun c71 => (absurd c71 (by decide))) (fun c71 => ?_)
        refine k_aload G X at_74 (pc' := 76) rfl rfl rfl ?_
        refine k_iconst G X at_76 (pc' := 77) rfl (z := (0 : Int32)) (by decide) ?_
        refine k_iload G X at_77 (pc' := 79) rfl rfl ?_
        refine k_bastore G X (i := 0) (z := (p0.toInt8.toInt32)) A_b64 rfl (by decide) (by simp [nar]) ge_b64 at_79 (pc' := 80) rfl (fun T h79 W79 A_b64 X => ?_)
        replace O := O.wr W79 ge_b64
        replace S_ED := S_ED.wr W79
        replace S_Do := S_Do.wr W79
        replace S_EA := S_EA.wr W79
        replace S_Ar := S_Ar.wr W79
        replace EED := EED.wr W79
        replace EDo := EDo.wr W79
        replace EEA := EEA.wr W79
        replace EAr := EAr.wr W79
        replace OED := OED.other W79 (Or.inl ne_aED_b64)
        replace OEA := OEA.other W79 (Or.inl ne_aEA_b64)
        refine k_iload G X at_80 (pc' := 82) rfl rfl ?_
        refine k_iconst G X at_82 (pc' := 83) rfl (z := (2 : Int32)) (by decide) ?_
        refine k_icmp_lt G X at_83 (pc' := 92) rfl (by decide) (pc'' := 86) rfl (fun c83 => (absurd c83 (by decide))) (fun c83 => ?_)
        refine k_aload G X at_86 (pc' := 88) rfl rfl rfl ?_
        refine k_iconst G X at_88 (pc' := 89) rfl (z := (1 : Int32)) (by decide) ?_
        refine k_iload G X at_89 (pc' := 91) rfl rfl ?_
        refine k_bastore G X (i := 1) (z := (p1.toInt8.toInt32)) A_b64 rfl (by decide) (by simp [nar]) ge_b64 at_91 (pc' := 92) rfl (fun T h91 W91 A_b64 X => ?_)
        replace O := O.wr W91 ge_b64
        replace S_ED := S_ED.wr W91
        replace S_Do := S_Do.wr W91
        replace S_EA := S_EA.wr W91
        replace S_Ar := S_Ar.wr W91
        replace EED := EED.wr W91
        replace EDo := EDo.wr W91
        replace EEA := EEA.wr W91
        replace EAr := EAr.wr W91
        replace OED := OED.other W91 (Or.inl ne_aED_b64)
        replace OEA := OEA.other W91 (Or.inl ne_aEA_b64)
        refine k_iload G X at_92 (pc' := 94) rfl rfl ?_
        refine k_iconst G X at_94 (pc' := 95) rfl (z := (3 : Int32)) (by decide) ?_
        refine k_icmp_lt G X at_95 (pc' := 107) rfl (by decide) (pc'' := 98) rfl (fun c95 => (absurd c95 (by decide))) (fun c95 => ?_)
        refine k_aload G X at_98 (pc' := 100) rfl rfl rfl ?_
        refine k_iload G X at_100 (pc' := 102) rfl rfl ?_
        refine k_iconst G X at_102 (pc' := 103) rfl (z := (1 : Int32)) (by decide) ?_
        refine k_isub G X at_103 (pc' := 104) rfl (z := (599 : Int32)) (by decide) ?_
        refine k_iload G X at_104 (pc' := 106) rfl rfl ?_
        refine k_bastore G X (i := 599) (z := (p2.toInt8.toInt32)) A_b64 rfl (by decide) (by simp [nar]) ge_b64 at_106 (pc' := 107) rfl (fun T h106 W106 A_b64 X => ?_)
        replace O := O.wr W106 ge_b64
        replace S_ED := S_ED.wr W106
        replace S_Do := S_Do.wr W106
        replace S_EA := S_EA.wr W106
        replace S_Ar := S_Ar.wr W106
        replace EED := EED.wr W106
        replace EDo := EDo.wr W106
        replace EEA := EEA.wr W106
        replace EAr := EAr.wr W106
        replace OED := OED.other W106 (Or.inl ne_aED_b64)
        replace OEA := OEA.other W106 (Or.inl ne_aEA_b64)
        refine k_new G X (w1 hw) (w2 hw) (w3 hw) at_107 (pc' := 110) rfl (by decide) (by decide) (fun T h107 b107 s_b107 E107 X_b107 D107 X => ?_)
        have ne_aED_b107 : aED ≠ b107 := Nat.ne_of_lt (Nat.lt_of_lt_of_eq EED.lt s_b107)
        have ne_aDo_b107 : aDo ≠ b107 := Nat.ne_of_lt (Nat.lt_of_lt_of_eq EDo.lt s_b107)
        have ne_aEA_b107 : aEA ≠ b107 := Nat.ne_of_lt (Nat.lt_of_lt_of_eq EEA.lt s_b107)
        have ne_aAr_b107 : aAr ≠ b107 := Nat.ne_of_lt (Nat.lt_of_lt_of_eq EAr.lt s_b107)
        have ne_b64_b107 : b64 ≠ b107 := Nat.ne_of_lt (Nat.lt_of_lt_of_eq A_b64.lt s_b107)
        have ge_b107 : n0 ≤ b107 := Nat.le_trans (Jvm.OwnK.Old_le O) (Nat.le_of_eq s_b107)
        replace O := O.ext E107
        replace S_ED := S_ED.ext E107
        replace S_Do := S_Do.ext E107
        replace S_EA := S_EA.ext E107
        replace S_Ar := S_Ar.ext E107
        replace EED := EED.ext E107
        replace EDo := EDo.ext E107
        replace EEA := EEA.ext E107
        replace EAr := EAr.ext E107
        replace OED := OED.ext E107
        replace OEA := OEA.ext E107
        replace A_b64 := A_b64.ext E107
        have F_b107_names : Fld Z h107 b107 "com/example/changeline/changeline/format/JsonOutput" "names" "Ljava/util/Map;" .null := D107 (Or.inr (w33 hw)) (ty := (.object "java/util/Map")) (by decide)
        have F_b107_bytes : Fld Z h107 b107 "com/example/changeline/changeline/format/JsonOutput" "bytes" "[B" .null := D107 (Or.inl (w35 hw)) (ty := (.array .byte)) (by decide)
        have F_b107_scopes : Fld Z h107 b107 "com/example/changeline/changeline/format/JsonOutput" "scopes" "[Lcom/example/changeline/changeline/format/JsonOutput$Scope;" .null := D107 (Or.inl (w39 hw)) (ty := (.array (.object "com/example/changeline/changeline/format/JsonOutput$Scope"))) (by decide)
        have F_b107_depth : Fld Z h107 b107 "com/example/changeline/changeline/format/JsonOutput" "depth" "I" (.int (0 : Int32)) := D107 (Or.inl (w41 hw)) (ty := .int) (by decide)
        have F_b107_length : Fld Z h107 b107 "com/example/changeline/changeline/format/JsonOutput" "length" "I" (.int (0 : Int32)) := D107 (Or.inl (w71 hw)) (ty := .int) (by decide)
        refine k_dup G X at_110 (pc' := 111) rfl rfl ?_
        refine k_callI G X (argsL := []) (rest := [(.ref b107)]) rfl rfl (w4 hw) (w5 hw) (w3 hw) (w6 hw) (by decide) (jo_init hw b107 aED h107 n0 ge_b107 O X_b107 F_b107_names F_b107_bytes F_b107_length F_b107_scopes F_b107_depth S_ED EED) at_111 pd0 rfl (pc' := 114) rfl rfl (wd := 1) rfl (by decide) (by decide) (by decide) (by decide) (fun T h111 v X q => ?_)
        obtain ⟨rfl, K111, E', b, sc, kb, ks, sz_b, sz_sc, ne_b_sc, FB, FL, FS, FD, BA, SCA, SO⟩ := q
        have ne_aED_b : aED ≠ b := Nat.ne_of_lt (Nat.lt_of_lt_of_le EED.lt sz_b)
        have ne_aED_sc : aED ≠ sc := Nat.ne_of_lt (Nat.lt_of_lt_of_le EED.lt sz_sc)
        have ne_aDo_b : aDo ≠ b := Nat.ne_of_lt (Nat.lt_of_lt_of_le EDo.lt sz_b)
        have ne_aDo_sc : aDo ≠ sc := Nat.ne_of_lt (Nat.lt_of_lt_of_le EDo.lt sz_sc)
        have ne_aEA_b : aEA ≠ b := Nat.ne_of_lt (Nat.lt_of_lt_of_le EEA.lt sz_b)
        have ne_aEA_sc : aEA ≠ sc := Nat.ne_of_lt (Nat.lt_of_lt_of_le EEA.lt sz_sc)
        have ne_aAr_b : aAr ≠ b := Nat.ne_of_lt (Nat.lt_of_lt_of_le EAr.lt sz_b)
        have ne_aAr_sc : aAr ≠ sc := Nat.ne_of_lt (Nat.lt_of_lt_of_le EAr.lt sz_sc)
        have ne_b64_b : b64 ≠ b := Nat.ne_of_lt (Nat.lt_of_lt_of_le A_b64.lt sz_b)
        have ne_b64_sc : b64 ≠ sc := Nat.ne_of_lt (Nat.lt_of_lt_of_le A_b64.lt sz_sc)
        have ne_o_b : b107 ≠ b := Nat.ne_of_lt (Nat.lt_of_lt_of_le X_b107.lt sz_b)
        have ge_b : n0 ≤ b := Nat.le_trans (Old_le O) sz_b
        have ne_o_sc : b107 ≠ sc := Nat.ne_of_lt (Nat.lt_of_lt_of_le X_b107.lt sz_sc)
        have ge_sc : n0 ≤ sc := Nat.le_trans (Old_le O) sz_sc
        replace S_ED := Sta_keepL S_ED K111 (allS (Pln_exa X_b107) (all0))
        replace S_Do := Sta_keepL S_Do K111 (allS (Pln_exa X_b107) (all0))
        replace S_EA := Sta_keepL S_EA K111 (allS (Pln_exa X_b107) (all0))
        replace S_Ar := Sta_keepL S_Ar K111 (allS (Pln_exa X_b107) (all0))
        replace O := O.keep K111 (allS ge_b107 (all0))
        replace EED := EED.keep K111
        replace EDo := EDo.keep K111
        replace EEA := EEA.keep K111
        replace EAr := EAr.keep K111
        replace OED := OED.keep K111 (by simp only [List.mem_cons, List.not_mem_nil, or_false, not_or]; exact ne_aED_b107)
        replace OEA := OEA.keep K111 (by simp only [List.mem_cons, List.not_mem_nil, or_false, not_or]; exact ne_aEA_b107)
        replace A_b64 := A_b64.keep K111 (by simp only [List.mem_cons, List.not_mem_nil, or_false, not_or]; exact ne_b64_b107)
        replace X_b107 := X_b107.keep K111
        show Go Γ n0 _ T (mkF Γ.m 114 #[.val (.int p0), .val (.int p1), .val (.int p2), .val (.int p3), .val (.int (0 : Int32)), .val (.int (0 : Int32)), .val (.int (1 : Int32)), .val (.int (600 : Int32)), .val (.int (p0.toInt8.toInt32)), .val (.int (p1.toInt8.toInt32)), .val (.int (p2.toInt8.toInt32)), .val (.ref b64), .unset, .unset, .unset, .unset, .unset] [(.ref b107)])
        refine k_astore G X at_114 (pc' := 116) rfl rfl (l' := #[.val (.int p0), .val (.int p1), .val (.int p2), .val (.int p3), .val (.int (0 : Int32)), .val (.int (0 : Int32)), .val (.int (1 : Int32)), .val (.int (600 : Int32)), .val (.int (p0.toInt8.toInt32)), .val (.int (p1.toInt8.toInt32)), .val (.int (p2.toInt8.toInt32)), .val (.ref b64), .val (.ref b107), .unset, .unset, .unset, .unset]) rfl ?_
        refine k_iload G X at_116 (pc' := 118) rfl rfl ?_
        refine k_if_eq G X at_118 (pc' := 127) rfl (by decide) (pc'' := 121) rfl (fun c118 => ?_) (fun c118 => (absurd c118 (by decide)))
        refine k_aload G X at_127 (pc' := 129) rfl rfl rfl ?_
        refine k_aload G X at_129 (pc' := 131) rfl rfl rfl ?_
        refine k_callV G X (argsL := [(.ref b64)]) (rest := []) rfl X_b107 (w46 hw) (w47 hw) (nf_sel (w49 hw)) (w49 hw) (w48 hw) (w3 hw) (w50 hw) (by decide) (jv01 hw b107 b b64 sc aED aDo kb k64 ks 0 600 (0 : Int32) (600 : Int32) (600 : Int32) _ _ _ h111 n0 ge_b107 ge_sc O X_b107 FB FL FS FD SCA SO ne_o_sc rfl rfl rfl BA A_b64 EED OED EDo S_Do rfl ne_aED_sc ne_o_b.symm ne_b64_b107 ne_b64_b ne_b_sc ne_b64_sc (by decide) (by decide)) at_131 pd9 rfl (pc' := 134) rfl rfl (wd := 0) rfl (by decide) (by decide) (by decide) (by decide) (fun T h131 v X q => ?_)
        obtain ⟨rfl, K131, E', SCA', b', kb', sz_b', FB', FL', FS', FD', BA'⟩ := q
        have ne_o_b' : b107 ≠ b' := Nat.ne_of_lt (Nat.lt_of_lt_of_le X_b107.lt sz_b')
        have ne_sc_b' : sc ≠ b' := Nat.ne_of_lt (Nat.lt_of_lt_of_le SCA.lt sz_b')
        have ge_b' : n0 ≤ b' := Nat.le_trans (Old_le O) sz_b'
        replace S_ED := Sta_keepL S_ED K131 (allS (Pln_arf SCA) (allS (Pln_exa X_b107) (all0)))
        replace S_Do := Sta_keepL S_Do K131 (allS (Pln_arf SCA) (allS (Pln_exa X_b107) (all0)))
        replace S_EA := Sta_keepL S_EA K131 (allS (Pln_arf SCA) (allS (Pln_exa X_b107) (all0)))
        replace S_Ar := Sta_keepL S_Ar K131 (allS (Pln_arf SCA) (allS (Pln_exa X_b107) (all0)))
        replace O := O.keep K131 (allS ge_sc (allS ge_b107 (all0)))
        replace EED := EED.keep K131
        replace EDo := EDo.keep K131
        replace EEA := EEA.keep K131
        replace EAr := EAr.keep K131
        replace X_b107 := X_b107.keep K131
        have FB := FB'
        have FL := FL'
        have FS := FS'
        have FD := FD'
        have BA := BA'
        have SCA := SCA'
        show Go Γ n0 _ T (mkF Γ.m 134 #[.val (.int p0), .val (.int p1), .val (.int p2), .val (.int p3), .val (.int (0 : Int32)), .val (.int (0 : Int32)), .val (.int (1 : Int32)), .val (.int (600 : Int32)), .val (.int (p0.toInt8.toInt32)), .val (.int (p1.toInt8.toInt32)), .val (.int (p2.toInt8.toInt32)), .val (.ref b64), .val (.ref b107), .unset, .unset, .unset, .unset] [(.ref b107)])
        refine k_pop G X at_134 (pc' := 135) rfl rfl ?_
        refine k_iload G X at_135 (pc' := 137) rfl rfl ?_
        refine k_if_eq G X at_137 (pc' := 146) rfl (by decide) (pc'' := 140) rfl (fun c137 => ?_) (fun c137 => (absurd c137 (by decide)))
        refine k_iload G X at_146 (pc' := 148) rfl rfl ?_
        refine k_if_eq G X at_148 (pc' := 155) rfl (by decide) (pc'' := 151) rfl (fun c148 => ?_) (fun c148 => (absurd c148 (by decide)))
        refine k_iconst G X at_155 (pc' := 156) rfl (z := (0 : Int32)) (by decide) ?_
        refine k_istore G X at_156 (pc' := 158) rfl (l' := #[.val (.int p0), .val (.int p1), .val (.int p2), .val (.int p3), .val (.int (0 : Int32)), .val (.int (0 : Int32)), .val (.int (1 : Int32)), .val (.int (600 : Int32)), .val (.int (p0.toInt8.toInt32)), .val (.int (p1.toInt8.toInt32)), .val (.int (p2.toInt8.toInt32)), .val (.ref b64), .val (.ref b107), .val (.int (0 : Int32)), .unset, .unset, .unset]) rfl ?_
        refine k_aload G X at_158 (pc' := 160) rfl rfl rfl ?_
        refine k_callV G X (argsL := []) (rest := []) rfl X_b107 (w80 hw) (w81 hw) (nf_sel (w83 hw)) (w83 hw) (w82 hw) (w3 hw) (w84 hw) (by decide) (toB hw b107 b' kb' 600 1024 (600 : Int32) (1024 : Int32) _ h131 n0 O FB FL rfl rfl (by decide) (by decide) BA) at_160 pd10 rfl (pc' := 163) rfl rfl (wd := 0) rfl (by decide) (by decide) (by decide) (by decide) (fun T h160 v X q => ?_)
        obtain ⟨r160, kr160, rfl, sz_r160, K160, R160⟩ := q
        have ge_r160 : n0 ≤ r160 := Nat.le_trans (Old_le O) sz_r160
        have ne_aED_r160 : aED ≠ r160 := Nat.ne_of_lt (Nat.lt_of_lt_of_le EED.lt sz_r160)
        have ne_aDo_r160 : aDo ≠ r160 := Nat.ne_of_lt (Nat.lt_of_lt_of_le EDo.lt sz_r160)
        have ne_aEA_r160 : aEA ≠ r160 := Nat.ne_of_lt (Nat.lt_of_lt_of_le EEA.lt sz_r160)
        have ne_aAr_r160 : aAr ≠ r160 := Nat.ne_of_lt (Nat.lt_of_lt_of_le EAr.lt sz_r160)
        have ne_b107_r160 : b107 ≠ r160 := Nat.ne_of_lt (Nat.lt_of_lt_of_le X_b107.lt sz_r160)
        have ne_b'_r160 : b' ≠ r160 := Nat.ne_of_lt (Nat.lt_of_lt_of_le BA.lt sz_r160)
        have ne_sc_r160 : sc ≠ r160 := Nat.ne_of_lt (Nat.lt_of_lt_of_le SCA.lt sz_r160)
        replace S_ED := Jvm.OwnK.Sta_keep S_ED K160
        replace S_Do := Jvm.OwnK.Sta_keep S_Do K160
        replace S_EA := Jvm.OwnK.Sta_keep S_EA K160
        replace S_Ar := Jvm.OwnK.Sta_keep S_Ar K160
        replace O := O.keep K160 (all0)
        replace EED := EED.keep K160
        replace EDo := EDo.keep K160
        replace EEA := EEA.keep K160
        replace EAr := EAr.keep K160
        replace X_b107 := X_b107.keep K160
        replace FB := FB.keep K160 nin0
        replace FL := FL.keep K160 nin0
        replace FS := FS.keep K160 nin0
        replace FD := FD.keep K160 nin0
        replace BA := BA.keep K160 nin0
        replace SCA := SCA.keep K160 nin0
        show Go Γ n0 _ T (mkF Γ.m 163 #[.val (.int p0), .val (.int p1), .val (.int p2), .val (.int p3), .val (.int (0 : Int32)), .val (.int (0 : Int32)), .val (.int (1 : Int32)), .val (.int (600 : Int32)), .val (.int (p0.toInt8.toInt32)), .val (.int (p1.toInt8.toInt32)), .val (.int (p2.toInt8.toInt32)), .val (.ref b64), .val (.ref b107), .val (.int (0 : Int32)), .unset, .unset, .unset] [(.ref r160)])
        refine k_astore G X at_163 (pc' := 165) rfl rfl (l' := #[.val (.int p0), .val (.int p1), .val (.int p2), .val (.int p3), .val (.int (0 : Int32)), .val (.int (0 : Int32)), .val (.int (1 : Int32)), .val (.int (600 : Int32)), .val (.int (p0.toInt8.toInt32)), .val (.int (p1.toInt8.toInt32)), .val (.int (p2.toInt8.toInt32)), .val (.ref b64), .val (.ref b107), .val (.int (0 : Int32)), .val (.ref r160), .unset, .unset]) rfl ?_
        refine k_aload G X at_165 (pc' := 167) rfl rfl rfl ?_
        refine k_iload G X at_167 (pc' := 169) rfl rfl ?_
        refine k_iload G X at_169 (pc' := 171) rfl rfl ?_
        refine k_iload G X at_171 (pc' := 173) rfl rfl ?_
        refine k_iload G X at_173 (pc' := 175) rfl rfl ?_
        refine k_iload G X at_175 (pc' := 177) rfl rfl ?_
        refine k_iload G X at_177 (pc' := 179) rfl rfl ?_
        refine k_callS G X (argsL := [(.ref r160), (.int (600 : Int32)), (.int (0 : Int32)), (.int (p0.toInt8.toInt32)), (.int (p1.toInt8.toInt32)), (.int (p2.toInt8.toInt32)), (.int (1 : Int32))]) (rest := []) rfl (w94 hw) (w95 hw) (w96 hw) (w97 hw) (by decide) (chk_600_0 hw r160 kr160 _ (p0.toInt8.toInt32) (p1.toInt8.toInt32) (p2.toInt8.toInt32) h160 n0 R160 (by rfl) (by rfl) (by rfl) (by rfl)) at_179 pd11 rfl (pc' := 182) rfl rfl (wd := 0) rfl (by decide) (by decide) (by decide) (by decide) (fun T h179 v X q => ?_)
        obtain ⟨rfl, e179⟩ := q
        replace X := X.eq e179
        show Go Γ n0 _ T (mkF Γ.m 182 #[.val (.int p0), .val (.int p1), .val (.int p2), .val (.int p3), .val (.int (0 : Int32)), .val (.int (0 : Int32)), .val (.int (1 : Int32)), .val (.int (600 : Int32)), .val (.int (p0.toInt8.toInt32)), .val (.int (p1.toInt8.toInt32)), .val (.int (p2.toInt8.toInt32)), .val (.ref b64), .val (.ref b107), .val (.int (0 : Int32)), .val (.ref r160), .unset, .unset] [(.int (1 : Int32))])
        refine k_istore G X at_182 (pc' := 184) rfl (l' := #[.val (.int p0), .val (.int p1), .val (.int p2), .val (.int p3), .val (.int (0 : Int32)), .val (.int (0 : Int32)), .val (.int (1 : Int32)), .val (.int (600 : Int32)), .val (.int (p0.toInt8.toInt32)), .val (.int (p1.toInt8.toInt32)), .val (.int (p2.toInt8.toInt32)), .val (.ref b64), .val (.ref b107), .val (.int (0 : Int32)), .val (.ref r160), .val (.int (1 : Int32)), .unset]) rfl ?_
        refine k_aload G X at_184 (pc' := 186) rfl rfl rfl ?_
        refine k_alen G X (z := (600 : Int32)) R160 rfl at_186 (pc' := 187) rfl ?_
        refine k_if_le G X at_187 (pc' := 201) rfl (by decide) (pc'' := 190) rfl (fun c187 => (absurd c187 (by decide))) (fun c187 => ?_)
        refine k_aload G X at_190 (pc' := 192) rfl rfl rfl ?_
        refine k_iconst G X at_192 (pc' := 193) rfl (z := (0 : Int32)) (by decide) ?_
        refine k_aload G X at_193 (pc' := 195) rfl rfl rfl ?_
        refine k_iconst G X at_195 (pc' := 196) rfl (z := (0 : Int32)) (by decide) ?_
        refine k_baload G X (i := 0) (v := (.int (p0.toInt8.toInt32))) R160 rfl (by decide) (by rfl) at_196 (pc' := 197) rfl ?_
        refine k_iconst G X at_197 (pc' := 198) rfl (z := (1 : Int32)) (by decide) ?_
        refine k_ixor G X at_198 (pc' := 199) rfl rfl ?_
        refine k_i2b G X at_199 (pc' := 200) rfl rfl ?_
        refine k_bastore G X (i := 0) (z := ((((p0.toInt8.toInt32) ^^^ (1 : Int32)).toInt8.toInt32))) R160 rfl (by decide) (by simp [nar]) ge_r160 at_200 (pc' := 201) rfl (fun T h200 W200 R160 X => ?_)
        replace O := O.wr W200 ge_r160
        replace S_ED := S_ED.wr W200
        replace S_Do := S_Do.wr W200
        replace S_EA := S_EA.wr W200
        replace S_Ar := S_Ar.wr W200
        replace EED := EED.wr W200
        replace EDo := EDo.wr W200
        replace EEA := EEA.wr W200
        replace EAr := EAr.wr W200
        replace X_b107 := X_b107.wr W200
        replace FB := FB.other W200 (Or.inl ne_b107_r160)
        replace FL := FL.other W200 (Or.inl ne_b107_r160)
        replace FS := FS.other W200 (Or.inl ne_b107_r160)
        replace FD := FD.other W200 (Or.inl ne_b107_r160)
        replace BA := BA.other W200 ne_b'_r160
        replace SCA := SCA.other W200 ne_sc_r160
        refine k_aload G X at_201 (pc' := 203) rfl rfl rfl ?_
        refine k_callV G X (argsL := []) (rest := []) rfl X_b107 (w80 hw) (w81 hw) (nf_sel (w83 hw)) (w83 hw) (w82 hw) (w3 hw) (w84 hw) (by decide) (toB hw b107 b' kb' 600 1024 (600 : Int32) (1024 : Int32) _ h200 n0 O FB FL rfl rfl (by decide) (by decide) BA) at_203 pd10 rfl (pc' := 206) rfl rfl (wd := 0) rfl (by decide) (by decide) (by decide) (by decide) (fun T h203 v X q => ?_)
        obtain ⟨r203, kr203, rfl, sz_r203, K203, R203⟩ := q
        have ge_r203 : n0 ≤ r203 := Nat.le_trans (Old_le O) sz_r203
        replace S_ED := Jvm.OwnK.Sta_keep S_ED K203
        replace S_Do := Jvm.OwnK.Sta_keep S_Do K203
        replace S_EA := Jvm.OwnK.Sta_keep S_EA K203
        replace S_Ar := Jvm.OwnK.Sta_keep S_Ar K203
        replace O := O.keep K203 (all0)
        replace EED := EED.keep K203
        replace EDo := EDo.keep K203
        replace EEA := EEA.keep K203
        replace EAr := EAr.keep K203
        replace X_b107 := X_b107.keep K203
        replace FB := FB.keep K203 nin0
        replace FL := FL.keep K203 nin0
        replace FS := FS.keep K203 nin0
        replace FD := FD.keep K203 nin0
        replace BA := BA.keep K203 nin0
        replace SCA := SCA.keep K203 nin0
        replace R160 := R160.keep K203 nin0
        show Go Γ n0 _ T (mkF Γ.m 206 #[.val (.int p0), .val (.int p1), .val (.int p2), .val (.int p3), .val (.int (0 : Int32)), .val (.int (0 : Int32)), .val (.int (1 : Int32)), .val (.int (600 : Int32)), .val (.int (p0.toInt8.toInt32)), .val (.int (p1.toInt8.toInt32)), .val (.int (p2.toInt8.toInt32)), .val (.ref b64), .val (.ref b107), .val (.int (0 : Int32)), .val (.ref r160), .val (.int (1 : Int32)), .unset] [(.ref r203)])
        refine k_astore G X at_206 (pc' := 208) rfl rfl (l' := #[.val (.int p0), .val (.int p1), .val (.int p2), .val (.int p3), .val (.int (0 : Int32)), .val (.int (0 : Int32)), .val (.int (1 : Int32)), .val (.int (600 : Int32)), .val (.int (p0.toInt8.toInt32)), .val (.int (p1.toInt8.toInt32)), .val (.int (p2.toInt8.toInt32)), .val (.ref b64), .val (.ref b107), .val (.int (0 : Int32)), .val (.ref r160), .val (.int (1 : Int32)), .val (.ref r203)]) rfl ?_
        refine k_iload G X at_208 (pc' := 210) rfl rfl ?_
        refine k_if_eq G X at_210 (pc' := 237) rfl (by decide) (pc'' := 213) rfl (fun c210 => (absurd c210 (by decide))) (fun c210 => ?_)
        refine k_aload G X at_213 (pc' := 215) rfl rfl rfl ?_
        refine k_iload G X at_215 (pc' := 217) rfl rfl ?_
        refine k_iload G X at_217 (pc' := 219) rfl rfl ?_
        refine k_iload G X at_219 (pc' := 221) rfl rfl ?_
        refine k_iload G X at_221 (pc' := 223) rfl rfl ?_
        refine k_iload G X at_223 (pc' := 225) rfl rfl ?_
        refine k_iload G X at_225 (pc' := 227) rfl rfl ?_
        refine k_callS G X (argsL := [(.ref r203), (.int (600 : Int32)), (.int (0 : Int32)), (.int (p0.toInt8.toInt32)), (.int (p1.toInt8.toInt32)), (.int (p2.toInt8.toInt32)), (.int (1 : Int32))]) (rest := []) rfl (w94 hw) (w95 hw) (w96 hw) (w97 hw) (by decide) (chk_600_0 hw r203 kr203 _ (p0.toInt8.toInt32) (p1.toInt8.toInt32) (p2.toInt8.toInt32) h203 n0 R203 (by rfl) (by rfl) (by rfl) (by rfl)) at_227 pd11 rfl (pc' := 230) rfl rfl (wd := 0) rfl (by decide) (by decide) (by decide) (by decide) (fun T h227 v X q => ?_)
        obtain ⟨rfl, e227⟩ := q
        replace X := X.eq e227
        show Go Γ n0 _ T (mkF Γ.m 230 #[.val (.int p0), .val (.int p1), .val (.int p2), .val (.int p3), .val (.int (0 : Int32)), .val (.int (0 : Int32)), .val (.int (1 : Int32)), .val (.int (600 : Int32)), .val (.int (p0.toInt8.toInt32)), .val (.int (p1.toInt8.toInt32)), .val (.int (p2.toInt8.toInt32)), .val (.ref b64), .val (.ref b107), .val (.int (0 : Int32)), .val (.ref r160), .val (.int (1 : Int32)), .val (.ref r203)] [(.int (1 : Int32))])
        refine k_if_eq G X at_230 (pc' := 237) rfl (by decide) (pc'' := 233) rfl (fun c230 => (absurd c230 (by decide))) (fun c230 => ?_)
        refine k_iconst G X at_233 (pc' := 234) rfl (z := (1 : Int32)) (by decide) ?_
        refine k_goto G X at_234 (by decide) (pc' := 238) rfl ?_
        refine k_retb G X at_238 (t := .boolean) rfl (by simp) rfl ?_ (by decide) (by decide)
        rfl
    · refine k_iconst G X at_13 (pc' := 14) rfl (z := (1 : Int32)) (by decide) ?_
      refine k_goto G X at_14 (by decide) (pc' := 18) rfl ?_
      refine k_istore G X at_18 (pc' := 20) rfl (l' := #[.val (.int p0), .val (.int p1), .val (.int p2), .val (.int p3), .val (.int (0 : Int32)), .val (.int (1 : Int32)), .unset, .unset, .unset, .unset, .unset, .unset, .unset, .unset, .unset, .unset, .unset]) rfl ?_
      refine k_iloadN G X at_20 (pc' := 21) rfl rfl ?_
      refine k_iconst G X at_21 (pc' := 22) rfl (z := (3 : Int32)) (by decide) ?_
      refine k_ishr G X at_22 (pc' := 23) rfl rfl ?_
      refine k_iconst G X at_23 (pc' := 24) rfl (z := (1 : Int32)) (by decide) ?_
      refine k_iand G X at_24 (pc' := 25) rfl rfl ?_
      refine k_if_eq G X at_25 (pc' := 32) rfl (by decide) (pc'' := 28) rfl (fun c25 => ?_) (fun c25 => ?_)
      · refine k_iconst G X at_32 (pc' := 33) rfl (z := (0 : Int32)) (by decide) ?_
        refine k_istore G X at_33 (pc' := 35) rfl (l' := #[.val (.int p0), .val (.int p1), .val (.int p2), .val (.int p3), .val (.int (0 : Int32)), .val (.int (1 : Int32)), .val (.int (0 : Int32)), .unset, .unset, .unset, .unset, .unset, .unset, .unset, .unset, .unset, .unset]) rfl ?_
        refine k_iload G X at_35 (pc' := 37) rfl rfl ?_
        refine k_if_eq G X at_37 (pc' := 46) rfl (by decide) (pc'' := 40) rfl (fun c37 => ?_) (fun c37 => (absurd c37 (by decide)))
        refine k_iload G X at_46 (pc' := 48) rfl rfl ?_
        refine k_istore G X at_48 (pc' := 50) rfl (l' := #[.val (.int p0), .val (.int p1), .val (.int p2), .val (.int p3), .val (.int (0 : Int32)), .val (.int (1 : Int32)), .val (.int (0 : Int32)), .val (.int (0 : Int32)), .unset, .unset, .unset, .unset, .unset, .unset, .unset, .unset, .unset]) rfl ?_
        refine k_iloadN G X at_50 (pc' := 51) rfl rfl ?_
        refine k_i2b G X at_51 (pc' := 52) rfl rfl ?_
        refine k_istore G X at_52 (pc' := 54) rfl (l' := #[.val (.int p0), .val (.int p1), .val (.int p2), .val (.int p3), .val (.int (0 : Int32)), .val (.int (1 : Int32)), .val (.int (0 : Int32)), .val (.int (0 : Int32)), .val (.int (p0.toInt8.toInt32)), .unset, .unset, .unset, .unset, .unset, .unset, .unset, .unset]) rfl ?_
        refine k_iloadN G X at_54 (pc' := 55) rfl rfl ?_
        refine k_i2b G X at_55 (pc' := 56) rfl rfl ?_
        refine k_istore G X at_56 (pc' := 58) rfl (l' := #[.val (.int p0), .val (.int p1), .val (.int p2), .val (.int p3), .val (.int (0 : Int32)), .val (.int (1 : Int32)), .val (.int (0 : Int32)), .val (.int (0 : Int32)), .val (.int (p0.toInt8.toInt32)), .val (.int (p1.toInt8.toInt32)), .unset, .unset, .unset, .unset, .unset, .unset, .unset]) rfl ?_
        refine k_iloadN G X at_58 (pc' := 59) rfl rfl ?_
        refine k_i2b G X at_59 (pc' := 60) rfl rfl ?_
        refine k_istore G X at_60 (pc' := 62) rfl (l' := #[.val (.int p0), .val (.int p1), .val (.int p2), .val (.int p3), .val (.int (0 : Int32)), .val (.int (1 : Int32)), .val (.int (0 : Int32)), .val (.int (0 : Int32)), .val (.int (p0.toInt8.toInt32)), .val (.int (p1.toInt8.toInt32)), .val (.int (p2.toInt8.toInt32)), .unset, .unset, .unset, .unset, .unset, .unset]) rfl ?_
        refine k_iload G X at_62 (pc' := 64) rfl rfl ?_
        refine k_newP G X (aty := .byte) (n := 0) (cap := 0) (w0 hw) at_64 (pc' := 66) rfl rfl (by decide) (by decide) (by decide) (by decide) (fun T h64 b64 k64 s_b64 E64 A_b64 X => ?_)
        have ne_aED_b64 : aED ≠ b64 := Nat.ne_of_lt (Nat.lt_of_lt_of_eq EED.lt s_b64)
        have ne_aDo_b64 : aDo ≠ b64 := Nat.ne_of_lt (Nat.lt_of_lt_of_eq EDo.lt s_b64)
        have ne_aEA_b64 : aEA ≠ b64 := Nat.ne_of_lt (Nat.lt_of_lt_of_eq EEA.lt s_b64)
        have ne_aAr_b64 : aAr ≠ b64 := Nat.ne_of_lt (Nat.lt_of_lt_of_eq EAr.lt s_b64)
        have ge_b64 : n0 ≤ b64 := Nat.le_trans (Jvm.OwnK.Old_le O) (Nat.le_of_eq s_b64)
        replace O := O.ext E64
        replace S_ED := S_ED.ext E64
        replace S_Do := S_Do.ext E64
        replace S_EA := S_EA.ext E64
        replace S_Ar := S_Ar.ext E64
        replace EED := EED.ext E64
        replace EDo := EDo.ext E64
        replace EEA := EEA.ext E64
        replace EAr := EAr.ext E64
        replace OED := OED.ext E64
        replace OEA := OEA.ext E64
        replace A_b64 : Arf Z h64 b64 k64 .byte 0 (fun _ => (.int (0 : Int32))) := A_b64
        refine k_astore G X at_66 (pc' := 68) rfl rfl (l' := #[.val (.int p0), .val (.int p1), .val (.int p2), .val (.int p3), .val (.int (0 : Int32)), .val (.int (1 : Int32)), .val (.int (0 : Int32)), .val (.int (0 : Int32)), .val (.int (p0.toInt8.toInt32)), .val (.int (p1.toInt8.toInt32)), .val (.int (p2.toInt8.toInt32)), .val (.ref b64), .unset, .unset, .unset, .unset, .unset]) rfl ?_
        refine k_iload G X at_68 (pc' := 70) rfl rfl ?_
        refine k_iconst G X at_70 (pc' := 71) rfl (z := (1 : Int32)) (by decide) ?_
        refine k_icmp_lt G X at_71 (pc' := 80) rfl (by decide) (pc'' := 74) rfl (fun c71 => ?_) (fun c71 => (absurd c71 (by decide)))
        refine k_iload G X at_80 (pc' := 82) rfl rfl ?_
        refine k_iconst G X at_82 (pc' := 83) rfl (z := (2 : Int32)) (by decide) ?_
        refine k_icmp_lt G X at_83 (pc' := 92) rfl (by decide) (pc'' := 86) rfl (fun c83 => ?_) (fun c83 => (absurd c83 (by decide)))
        refine k_iload G X at_92 (pc' := 94) rfl rfl ?_
        refine k_iconst G X at_94 (pc' := 95) rfl (z := (3 : Int32)) (by decide) ?_
        refine k_icmp_lt G X at_95 (pc' := 107) rfl (by decide) (pc'' := 98) rfl (fun c95 => ?_) (fun c95 => (absurd c95 (by decide)))
        refine k_new G X (w1 hw) (w2 hw) (w3 hw) at_107 (pc' := 110) rfl (by decide) (by decide) (fun T h107 b107 s_b107 E107 X_b107 D107 X => ?_)
        have ne_aED_b107 : aED ≠ b107 := Nat.ne_of_lt (Nat.lt_of_lt_of_eq EED.lt s_b107)
        have ne_aDo_b107 : aDo ≠ b107 := Nat.ne_of_lt (Nat.lt_of_lt_of_eq EDo.lt s_b107)
        have ne_aEA_b107 : aEA ≠ b107 := Nat.ne_of_lt (Nat.lt_of_lt_of_eq EEA.lt s_b107)
        have ne_aAr_b107 : aAr ≠ b107 := Nat.ne_of_lt (Nat.lt_of_lt_of_eq EAr.lt s_b107)
        have ne_b64_b107 : b64 ≠ b107 := Nat.ne_of_lt (Nat.lt_of_lt_of_eq A_b64.lt s_b107)
        have ge_b107 : n0 ≤ b107 := Nat.le_trans (Jvm.OwnK.Old_le O) (Nat.le_of_eq s_b107)
        replace O := O.ext E107
        replace S_ED := S_ED.ext E107
        replace S_Do := S_Do.ext E107
        replace S_EA := S_EA.ext E107
        replace S_Ar := S_Ar.ext E107
        replace EED := EED.ext E107
        replace EDo := EDo.ext E107
        replace EEA := EEA.ext E107
        replace EAr := EAr.ext E107
        replace OED := OED.ext E107
        replace OEA := OEA.ext E107
        replace A_b64 := A_b64.ext E107
        have F_b107_names : Fld Z h107 b107 "com/example/changeline/changeline/format/JsonOutput" "names" "Ljava/util/Map;" .null := D107 (Or.inr (w33 hw)) (ty := (.object "java/util/Map")) (by decide)
        have F_b107_bytes : Fld Z h107 b107 "com/example/changeline/changeline/format/JsonOutput" "bytes" "[B" .null := D107 (Or.inl (w35 hw)) (ty := (.array .byte)) (by decide)
        have F_b107_scopes : Fld Z h107 b107 "com/example/changeline/changeline/format/JsonOutput" "scopes" "[Lcom/example/changeline/changeline/format/JsonOutput$Scope;" .null := D107 (Or.inl (w39 hw)) (ty := (.array (.object "com/example/changeline/changeline/format/JsonOutput$Scope"))) (by decide)
        have F_b107_depth : Fld Z h107 b107 "com/example/changeline/changeline/format/JsonOutput" "depth" "I" (.int (0 : Int32)) := D107 (Or.inl (w41 hw)) (ty := .int) (by decide)
        have F_b107_length : Fld Z h107 b107 "com/example/changeline/changeline/format/JsonOutput" "length" "I" (.int (0 : Int32)) := D107 (Or.inl (w71 hw)) (ty := .int) (by decide)
        refine k_dup G X at_110 (pc' := 111) rfl rfl ?_
        refine k_callI G X (argsL := []) (rest := [(.ref b107)]) rfl rfl (w4 hw) (w5 hw) (w3 hw) (w6 hw) (by decide) (jo_init hw b107 aED h107 n0 ge_b107 O X_b107 F_b107_names F_b107_bytes F_b107_length F_b107_scopes F_b107_depth S_ED EED) at_111 pd0 rfl (pc' := 114) rfl rfl (wd := 1) rfl (by decide) (by decide) (by decide) (by decide) (fun T h111 v X q => ?_)
        obtain ⟨rfl, K111, E', b, sc, kb, ks, sz_b, sz_sc, ne_b_sc, FB, FL, FS, FD, BA, SCA, SO⟩ := q
        have ne_aED_b : aED ≠ b := Nat.ne_of_lt (Nat.lt_of_lt_of_le EED.lt sz_b)
        have ne_aED_sc : aED ≠ sc := Nat.ne_of_lt (Nat.lt_of_lt_of_le EED.lt sz_sc)
        have ne_aDo_b : aDo ≠ b := Nat.ne_of_lt (Nat.lt_of_lt_of_le EDo.lt sz_b)
        have ne_aDo_sc : aDo ≠ sc := Nat.ne_of_lt (Nat.lt_of_lt_of_le EDo.lt sz_sc)
        have ne_aEA_b : aEA ≠ b := Nat.ne_of_lt (Nat.lt_of_lt_of_le EEA.lt sz_b)
        have ne_aEA_sc : aEA ≠ sc := Nat.ne_of_lt (Nat.lt_of_lt_of_le EEA.lt sz_sc)
        have ne_aAr_b : aAr ≠ b := Nat.ne_of_lt (Nat.lt_of_lt_of_le EAr.lt sz_b)
        have ne_aAr_sc : aAr ≠ sc := Nat.ne_of_lt (Nat.lt_of_lt_of_le EAr.lt sz_sc)
        have ne_b64_b : b64 ≠ b := Nat.ne_of_lt (Nat.lt_of_lt_of_le A_b64.lt sz_b)
        have ne_b64_sc : b64 ≠ sc := Nat.ne_of_lt (Nat.lt_of_lt_of_le A_b64.lt sz_sc)
        have ne_o_b : b107 ≠ b := Nat.ne_of_lt (Nat.lt_of_lt_of_le X_b107.lt sz_b)
        have ge_b : n0 ≤ b := Nat.le_trans (Old_le O) sz_b
        have ne_o_sc : b107 ≠ sc := Nat.ne_of_lt (Nat.lt_of_lt_of_le X_b107.lt sz_sc)
        have ge_sc : n0 ≤ sc := Nat.le_trans (Old_le O) sz_sc
        replace S_ED := Sta_keepL S_ED K111 (allS (Pln_exa X_b107) (all0))
        replace S_Do := Sta_keepL S_Do K111 (allS (Pln_exa X_b107) (all0))
        replace S_EA := Sta_keepL S_EA K111 (allS (Pln_exa X_b107) (all0))
        replace S_Ar := Sta_keepL S_Ar K111 (allS (Pln_exa X_b107) (all0))
        replace O := O.keep K111 (allS ge_b107 (all0))
        replace EED := EED.keep K111
        replace EDo := EDo.keep K111
        replace EEA := EEA.keep K111
        replace EAr := EAr.keep K111
        replace OED := OED.keep K111 (by simp only [List.mem_cons, List.not_mem_nil, or_false, not_or]; exact ne_aED_b107)
        replace OEA := OEA.keep K111 (by simp only [List.mem_cons, List.not_mem_nil, or_false, not_or]; exact ne_aEA_b107)
        replace A_b64 := A_b64.keep K111 (by simp only [List.mem_cons, List.not_mem_nil, or_false, not_or]; exact ne_b64_b107)
        replace X_b107 := X_b107.keep K111
        show Go Γ n0 _ T (mkF Γ.m 114 #[.val (.int p0), .val (.int p1), .val (.int p2), .val (.int p3), .val (.int (0 : Int32)), .val (.int (1 : Int32)), .val (.int (0 : Int32)), .val (.int (0 : Int32)), .val (.int (p0.toInt8.toInt32)), .val (.int (p1.toInt8.toInt32)), .val (.int (p2.toInt8.toInt32)), .val (.ref b64), .unset, .unset, .unset, .unset, .unset] [(.ref b107)])
        refine k_astore G X at_114 (pc' := 116) rfl rfl (l' := #[.val (.int p0), .val (.int p1), .val (.int p2), .val (.int p3), .val (.int (0 : Int32)), .val (.int (1 : Int32)), .val (.int (0 : Int32)), .val (.int (0 : Int32)), .val (.int (p0.toInt8.toInt32)), .val (.int (p1.toInt8.toInt32)), .val (.int (p2.toInt8.toInt32)), .val (.ref b64), .val (.ref b107), .unset, .unset, .unset, .unset]) rfl ?_
        refine k_iload G X at_116 (pc' := 118) rfl rfl ?_
        refine k_if_eq G X at_118 (pc' := 127) rfl (by decide) (pc'' := 121) rfl (fun c118 => (absurd c118 (by decide))) (fun c118 => ?_)
        refine k_aload G X at_121 (pc' := 123) rfl rfl rfl ?_
        refine k_callV G X (argsL := []) (rest := []) rfl X_b107 (w101 hw) (w102 hw) (nf_sel (w104 hw)) (w104 hw) (w103 hw) (w3 hw) (w105 hw) (by decide) (begA hw b107 b sc aED aDo aEA kb ks 0 512 (0 : Int32) (1 : Int32) (512 : Int32) _ _ h111 n0 ge_b107 ge_sc O X_b107 FB FL FS FD SCA SO ne_o_sc rfl rfl rfl ge_b BA EED OED EDo S_Do EEA S_EA rfl ne_aED_sc ne_o_b.symm ne_b_sc (by decide)) at_123 pd12 rfl (pc' := 126) rfl rfl (wd := 0) rfl (by decide) (by decide) (by decide) (by decide) (fun T h123 v X q => ?_)
        obtain ⟨rfl, K123, E', FB', FL', FS', FD', BA', SCA'⟩ := q
        replace S_ED := Sta_keepL S_ED K123 (allS (Pln_arf SCA) (allS (Pln_exa X_b107) (allS (Pln_arf BA) (all0))))
        replace S_Do := Sta_keepL S_Do K123 (allS (Pln_arf SCA) (allS (Pln_exa X_b107) (allS (Pln_arf BA) (all0))))
        replace S_EA := Sta_keepL S_EA K123 (allS (Pln_arf SCA) (allS (Pln_exa X_b107) (allS (Pln_arf BA) (all0))))
        replace S_Ar := Sta_keepL S_Ar K123 (allS (Pln_arf SCA) (allS (Pln_exa X_b107) (allS (Pln_arf BA) (all0))))
        replace O := O.keep K123 (allS ge_sc (allS ge_b107 (allS ge_b (all0))))
        replace EED := EED.keep K123
        replace EDo := EDo.keep K123
        replace EEA := EEA.keep K123
        replace EAr := EAr.keep K123
        replace OED := OED.keep K123 (by simp only [List.mem_cons, List.not_mem_nil, or_false, not_or]; exact ⟨ne_aED_sc, ne_aED_b107, ne_aED_b⟩)
        replace OEA := OEA.keep K123 (by simp only [List.mem_cons, List.not_mem_nil, or_false, not_or]; exact ⟨ne_aEA_sc, ne_aEA_b107, ne_aEA_b⟩)
        replace A_b64 := A_b64.keep K123 (by simp only [List.mem_cons, List.not_mem_nil, or_false, not_or]; exact ⟨ne_b64_sc, ne_b64_b107, ne_b64_b⟩)
        replace X_b107 := X_b107.keep K123
        have FB := FB'
        have FL := FL'
        have FS := FS'
        have FD := FD'
        have BA := BA'
        have SCA := SCA'
        show Go Γ n0 _ T (mkF Γ.m 126 #[.val (.int p0), .val (.int p1), .val (.int p2), .val (.int p3), .val (.int (0 : Int32)), .val (.int (1 : Int32)), .val (.int (0 : Int32)), .val (.int (0 : Int32)), .val (.int (p0.toInt8.toInt32)), .val (.int (p1.toInt8.toInt32)), .val (.int (p2.toInt8.toInt32)), .val (.ref b64), .val (.ref b107), .unset, .unset, .unset, .unset] [(.ref b107)])
        refine k_pop G X at_126 (pc' := 127) rfl rfl ?_
        refine k_aload G X at_127 (pc' := 129) rfl rfl rfl ?_
        refine k_aload G X at_129 (pc' := 131) rfl rfl rfl ?_
        refine k_callV G X (argsL := [(.ref b64)]) (rest := []) rfl X_b107 (w46 hw) (w47 hw) (nf_sel (w49 hw)) (w49 hw) (w48 hw) (w3 hw) (w50 hw) (by decide) (jv50 hw b107 b b64 sc aEA aAr kb k64 ks 1 0 512 (1 : Int32) (0 : Int32) (1 : Int32) (512 : Int32) _ _ _ h123 n0 ge_b107 ge_sc O X_b107 FB FL FS FD SCA SO ne_o_sc rfl rfl rfl rfl ge_b BA A_b64 EEA OEA EAr S_Ar rfl ne_aEA_sc ne_o_b.symm ne_b64_b107 ne_b64_b ne_b_sc ne_b64_sc (by decide)) at_131 pd9 rfl (pc' := 134) rfl rfl (wd := 0) rfl (by decide) (by decide) (by decide) (by decide) (fun T h131 v X q => ?_)
        obtain ⟨rfl, K131, E', SCA', FB', FL', FS', FD', BA'⟩ := q
        replace S_ED := Sta_keepL S_ED K131 (allS (Pln_arf SCA) (allS (Pln_exa X_b107) (allS (Pln_arf BA) (all0))))
        replace S_Do := Sta_keepL S_Do K131 (allS (Pln_arf SCA) (allS (Pln_exa X_b107) (allS (Pln_arf BA) (all0))))
        replace S_EA := Sta_keepL S_EA K131 (allS (Pln_arf SCA) (allS (Pln_exa X_b107) (allS (Pln_arf BA) (all0))))
        replace S_Ar := Sta_keepL S_Ar K131 (allS (Pln_arf SCA) (allS (Pln_exa X_b107) (allS (Pln_arf BA) (all0))))
        replace O := O.keep K131 (allS ge_sc (allS ge_b107 (allS ge_b (all0))))
        replace EED := EED.keep K131
        replace EDo := EDo.keep K131
        replace EEA := EEA.keep K131
        replace EAr := EAr.keep K131
        replace X_b107 := X_b107.keep K131
        have FB := FB'
        have FL := FL'
        have FS := FS'
        have FD := FD'
        have BA := BA'
        have SCA := SCA'
        show Go Γ n0 _ T (mkF Γ.m 134 #[.val (.int p0), .val (.int p1), .val (.int p2), .val (.int p3), .val (.int (0 : Int32)), .val (.int (1 : Int32)), .val (.int (0 : Int32)), .val (.int (0 : Int32)), .val (.int (p0.toInt8.toInt32)), .val (.int (p1.toInt8.toInt32)), .val (.int (p2.toInt8.toInt32)), .val (.ref b64), .val (.ref b107), .unset, .unset, .unset, .unset] [(.ref b107)])
        refine k_pop G X at_134 (pc' := 135) rfl rfl ?_
        refine k_iload G X at_135 (pc' := 137) rfl rfl ?_
        refine k_if_eq G X at_137 (pc' := 146) rfl (by decide) (pc'' := 140) rfl (fun c137 => (absurd c137 (by decide))) (fun c137 => ?_)
        refine k_aload G X at_140 (pc' := 142) rfl rfl rfl ?_
        refine k_callV G X (argsL := []) (rest := []) rfl X_b107 (w118 hw) (w119 hw) (nf_sel (w121 hw)) (w121 hw) (w120 hw) (w3 hw) (w122 hw) (by decide) (endA hw b107 b sc aAr aEA kb ks 1 512 (1 : Int32) (2 : Int32) (512 : Int32) _ _ h131 n0 ge_b107 ge_sc O X_b107 FB FL FS FD SCA SO ne_o_sc rfl rfl rfl ge_b BA S_EA S_Ar rfl ne_o_b.symm ne_b_sc (by decide)) at_142 pd12 rfl (pc' := 145) rfl rfl (wd := 0) rfl (by decide) (by decide) (by decide) (by decide) (fun T h142 v X q => ?_)
        obtain ⟨rfl, K142, E', FB', FL', FS', FD', BA'⟩ := q
        replace S_ED := Sta_keepL S_ED K142 (allS (Pln_exa X_b107) (allS (Pln_arf BA) (all0)))
        replace S_Do := Sta_keepL S_Do K142 (allS (Pln_exa X_b107) (allS (Pln_arf BA) (all0)))
        replace S_EA := Sta_keepL S_EA K142 (allS (Pln_exa X_b107) (allS (Pln_arf BA) (all0)))
        replace S_Ar := Sta_keepL S_Ar K142 (allS (Pln_exa X_b107) (allS (Pln_arf BA) (all0)))
        replace O := O.keep K142 (allS ge_b107 (allS ge_b (all0)))
        replace EED := EED.keep K142
        replace EDo := EDo.keep K142
        replace EEA := EEA.keep K142
        replace EAr := EAr.keep K142
        replace X_b107 := X_b107.keep K142
        replace SCA := SCA.keep K142 (by simp only [List.mem_cons, List.not_mem_nil, or_false, not_or]; exact ⟨(Ne.symm ne_o_sc), (Ne.symm ne_b_sc)⟩)
        have FB := FB'
        have FL := FL'
        have FS := FS'
        have FD := FD'
        have BA := BA'
        show Go Γ n0 _ T (mkF Γ.m 145 #[.val (.int p0), .val (.int p1), .val (.int p2), .val (.int p3), .val (.int (0 : Int32)), .val (.int (1 : Int32)), .val (.int (0 : Int32)), .val (.int (0 : Int32)), .val (.int (p0.toInt8.toInt32)), .val (.int (p1.toInt8.toInt32)), .val (.int (p2.toInt8.toInt32)), .val (.ref b64), .val (.ref b107), .unset, .unset, .unset, .unset] [(.ref b107)])
        refine k_pop G X at_145 (pc' := 146) rfl rfl ?_
        refine k_iload G X at_146 (pc' := 148) rfl rfl ?_
        refine k_if_eq G X at_148 (pc' := 155) rfl (by decide) (pc'' := 151) rfl (fun c148 => (absurd c148 (by decide))) (fun c148 => ?_)
        refine k_iconst G X at_151 (pc' := 152) rfl (z := (1 : Int32)) (by decide) ?_
        refine k_goto G X at_152 (by decide) (pc' := 156) rfl ?_
        refine k_istore G X at_156 (pc' := 158) rfl (l' := #[.val (.int p0), .val (.int p1), .val (.int p2), .val (.int p3), .val (.int (0 : Int32)), .val (.int (1 : Int32)), .val (.int (0 : Int32)), .val (.int (0 : Int32)), .val (.int (p0.toInt8.toInt32)), .val (.int (p1.toInt8.toInt32)), .val (.int (p2.toInt8.toInt32)), .val (.ref b64), .val (.ref b107), .val (.int (1 : Int32)), .unset, .unset, .unset]) rfl ?_
        refine k_aload G X at_158 (pc' := 160) rfl rfl rfl ?_
        refine k_callV G X (argsL := []) (rest := []) rfl X_b107 (w80 hw) (w81 hw) (nf_sel (w83 hw)) (w83 hw) (w82 hw) (w3 hw) (w84 hw) (by decide) (toB hw b107 b kb 2 512 (2 : Int32) (512 : Int32) _ h142 n0 O FB FL rfl rfl (by decide) (by decide) BA) at_160 pd10 rfl (pc' := 163) rfl rfl (wd := 0) rfl (by decide) (by decide) (by decide) (by decide) (fun T h160 v X q => ?_)
        obtain ⟨r160, kr160, rfl, sz_r160, K160, R160⟩ := q
        have ge_r160 : n0 ≤ r160 := Nat.le_trans (Old_le O) sz_r160
        have ne_aED_r160 : aED ≠ r160 := Nat.ne_of_lt (Nat.lt_of_lt_of_le EED.lt sz_r160)
        have ne_aDo_r160 : aDo ≠ r160 := Nat.ne_of_lt (Nat.lt_of_lt_of_le EDo.lt sz_r160)
        have ne_aEA_r160 : aEA ≠ r160 := Nat.ne_of_lt (Nat.lt_of_lt_of_le EEA.lt sz_r160)
        have ne_aAr_r160 : aAr ≠ r160 := Nat.ne_of_lt (Nat.lt_of_lt_of_le EAr.lt sz_r160)
        have ne_b107_r160 : b107 ≠ r160 := Nat.ne_of_lt (Nat.lt_of_lt_of_le X_b107.lt sz_r160)
        have ne_b_r160 : b ≠ r160 := Nat.ne_of_lt (Nat.lt_of_lt_of_le BA.lt sz_r160)
        have ne_sc_r160 : sc ≠ r160 := Nat.ne_of_lt (Nat.lt_of_lt_of_le SCA.lt sz_r160)
        replace S_ED := Jvm.OwnK.Sta_keep S_ED K160
        replace S_Do := Jvm.OwnK.Sta_keep S_Do K160
        replace S_EA := Jvm.OwnK.Sta_keep S_EA K160
        replace S_Ar := Jvm.OwnK.Sta_keep S_Ar K160
        replace O := O.keep K160 (all0)
        replace EED := EED.keep K160
        replace EDo := EDo.keep K160
        replace EEA := EEA.keep K160
        replace EAr := EAr.keep K160
        replace X_b107 := X_b107.keep K160
        replace FB := FB.keep K160 nin0
        replace FL := FL.keep K160 nin0
        replace FS := FS.keep K160 nin0
        replace FD := FD.keep K160 nin0
        replace BA := BA.keep K160 nin0
        replace SCA := SCA.keep K160 nin0
        show Go Γ n0 _ T (mkF Γ.m 163 #[.val (.int p0), .val (.int p1), .val (.int p2), .val (.int p3), .val (.int (0 : Int32)), .val (.int (1 : Int32)), .val (.int (0 : Int32)), .val (.int (0 : Int32)), .val (.int (p0.toInt8.toInt32)), .val (.int (p1.toInt8.toInt32)), .val (.int (p2.toInt8.toInt32)), .val (.ref b64), .val (.ref b107), .val (.int (1 : Int32)), .unset, .unset, .unset] [(.ref r160)])
        refine k_astore G X at_163 (pc' := 165) rfl rfl (l' := #[.val (.int p0), .val (.int p1), .val (.int p2), .val (.int p3), .val (.int (0 : Int32)), .val (.int (1 : Int32)), .val (.int (0 : Int32)), .val (.int (0 : Int32)), .val (.int (p0.toInt8.toInt32)), .val (.int (p1.toInt8.toInt32)), .val (.int (p2.toInt8.toInt32)), .val (.ref b64), .val (.ref b107), .val (.int (1 : Int32)), .val (.ref r160), .unset, .unset]) rfl ?_
        refine k_aload G X at_165 (pc' := 167) rfl rfl rfl ?_
        refine k_iload G X at_167 (pc' := 169) rfl rfl ?_
        refine k_iload G X at_169 (pc' := 171) rfl rfl ?_
        refine k_iload G X at_171 (pc' := 173) rfl rfl ?_
        refine k_iload G X at_173 (pc' := 175) rfl rfl ?_
        refine k_iload G X at_175 (pc' := 177) rfl rfl ?_
        refine k_iload G X at_177 (pc' := 179) rfl rfl ?_
        refine k_callS G X (argsL := [(.ref r160), (.int (0 : Int32)), (.int (1 : Int32)), (.int (p0.toInt8.toInt32)), (.int (p1.toInt8.toInt32)), (.int (p2.toInt8.toInt32)), (.int (0 : Int32))]) (rest := []) rfl (w94 hw) (w95 hw) (w96 hw) (w97 hw) (by decide) (chk_0_1 hw r160 kr160 _ (p0.toInt8.toInt32) (p1.toInt8.toInt32) (p2.toInt8.toInt32) h160 n0 R160 (by rfl) (by rfl)) at_179 pd11 rfl (pc' := 182) rfl rfl (wd := 0) rfl (by decide) (by decide) (by decide) (by decide) (fun T h179 v X q => ?_)
        obtain ⟨rfl, e179⟩ := q
        replace X := X.eq e179
        show Go Γ n0 _ T (mkF Γ.m 182 #[.val (.int p0), .val (.int p1), .val (.int p2), .val (.int p3), .val (.int (0 : Int32)), .val (.int (1 : Int32)), .val (.int (0 : Int32)), .val (.int (0 : Int32)), .val (.int (p0.toInt8.toInt32)), .val (.int (p1.toInt8.toInt32)), .val (.int (p2.toInt8.toInt32)), .val (.ref b64), .val (.ref b107), .val (.int (1 : Int32)), .val (.ref r160), .unset, .unset] [(.int (1 : Int32))])
        refine k_istore G X at_182 (pc' := 184) rfl (l' := #[.val (.int p0), .val (.int p1), .val (.int p2), .val (.int p3), .val (.int (0 : Int32)), .val (.int (1 : Int32)), .val (.int (0 : Int32)), .val (.int (0 : Int32)), .val (.int (p0.toInt8.toInt32)), .val (.int (p1.toInt8.toInt32)), .val (.int (p2.toInt8.toInt32)), .val (.ref b64), .val (.ref b107), .val (.int (1 : Int32)), .val (.ref r160), .val (.int (1 : Int32)), .unset]) rfl ?_
        refine k_aload G X at_184 (pc' := 186) rfl rfl rfl ?_
        refine k_alen G X (z := (2 : Int32)) R160 rfl at_186 (pc' := 187) rfl ?_
        refine k_if_le G X at_187 (pc' := 201) rfl (by decide) (pc'' := 190) rfl (fun c187 => (absurd c187 (by decide))) (fun c187 => ?_)
        refine k_aload G X at_190 (pc' := 192) rfl rfl rfl ?_
        refine k_iconst G X at_192 (pc' := 193) rfl (z := (0 : Int32)) (by decide) ?_
        refine k_aload G X at_193 (pc' := 195) rfl rfl rfl ?_
        refine k_iconst G X at_195 (pc' := 196) rfl (z := (0 : Int32)) (by decide) ?_
        refine k_baload G X (i := 0) (v := (.int (91 : Int32))) R160 rfl (by decide) (by rfl) at_196 (pc' := 197) rfl ?_
        refine k_iconst G X at_197 (pc' := 198) rfl (z := (1 : Int32)) (by decide) ?_
        refine k_ixor G X at_198 (pc' := 199) rfl (z := (90 : Int32)) (by decide) ?_
        refine k_i2b G X at_199 (pc' := 200) rfl (z := (90 : Int32)) (by decide) ?_
        refine k_bastore G X (i := 0) (z := ((90 : Int32))) R160 rfl (by decide) (by simp [nar]) ge_r160 at_200 (pc' := 201) rfl (fun T h200 W200 R160 X => ?_)
        replace O := O.wr W200 ge_r160
        replace S_ED := S_ED.wr W200
        replace S_Do := S_Do.wr W200
        replace S_EA := S_EA.wr W200
        replace S_Ar := S_Ar.wr W200
        replace EED := EED.wr W200
        replace EDo := EDo.wr W200
        replace EEA := EEA.wr W200
        replace EAr := EAr.wr W200
        replace X_b107 := X_b107.wr W200
        replace FB := FB.other W200 (Or.inl ne_b107_r160)
        replace FL := FL.other W200 (Or.inl ne_b107_r160)
        replace FS := FS.other W200 (Or.inl ne_b107_r160)
        replace FD := FD.other W200 (Or.inl ne_b107_r160)
        replace BA := BA.other W200 ne_b_r160
        replace SCA := SCA.other W200 ne_sc_r160
        refine k_aload G X at_201 (pc' := 203) rfl rfl rfl ?_
        refine k_callV G X (argsL := []) (rest := []) rfl X_b107 (w80 hw) (w81 hw) (nf_sel (w83 hw)) (w83 hw) (w82 hw) (w3 hw) (w84 hw) (by decide) (toB hw b107 b kb 2 512 (2 : Int32) (512 : Int32) _ h200 n0 O FB FL rfl rfl (by decide) (by decide) BA) at_203 pd10 rfl (pc' := 206) rfl rfl (wd := 0) rfl (by decide) (by decide) (by decide) (by decide) (fun T h203 v X q => ?_)
        obtain ⟨r203, kr203, rfl, sz_r203, K203, R203⟩ := q
        have ge_r203 : n0 ≤ r203 := Nat.le_trans (Old_le O) sz_r203
        replace S_ED := Jvm.OwnK.Sta_keep S_ED K203
        replace S_Do := Jvm.OwnK.Sta_keep S_Do K203
        replace S_EA := Jvm.OwnK.Sta_keep S_EA K203
        replace S_Ar := Jvm.OwnK.Sta_keep S_Ar K203
        replace O := O.keep K203 (all0)
        replace EED := EED.keep K203
        replace EDo := EDo.keep K203
        replace EEA := EEA.keep K203
        replace EAr := EAr.keep K203
        replace X_b107 := X_b107.keep K203
        replace FB := FB.keep K203 nin0
        replace FL := FL.keep K203 nin0
        replace FS := FS.keep K203 nin0
        replace FD := FD.keep K203 nin0
        replace BA := BA.keep K203 nin0
        replace SCA := SCA.keep K203 nin0
        replace R160 := R160.keep K203 nin0
        show Go Γ n0 _ T (mkF Γ.m 206 #[.val (.int p0), .val (.int p1), .val (.int p2), .val (.int p3), .val (.int (0 : Int32)), .val (.int (1 : Int32)), .val (.int (0 : Int32)), .val (.int (0 : Int32)), .val (.int (p0.toInt8.toInt32)), .val (.int (p1.toInt8.toInt32)), .val (.int (p2.toInt8.toInt32)), .val (.ref b64), .val (.ref b107), .val (.int (1 : Int32)), .val (.ref r160), .val (.int (1 : Int32)), .unset] [(.ref r203)])
        refine k_astore G X at_206 (pc' := 208) rfl rfl (l' := #[.val (.int p0), .val (.int p1), .val (.int p2), .val (.int p3), .val (.int (0 : Int32)), .val (.int (1 : Int32)), .val (.int (0 : Int32)), .val (.int (0 : Int32)), .val (.int (p0.toInt8.toInt32)), .val (.int (p1.toInt8.toInt32)), .val (.int (p2.toInt8.toInt32)), .val (.ref b64), .val (.ref b107), .val (.int (1 : Int32)), .val (.ref r160), .val (.int (1 : Int32)), .val (.ref r203)]) rfl ?_
        refine k_iload G X at_208 (pc' := 210) rfl rfl ?_
        refine k_if_eq G X at_210 (pc' := 237) rfl (by decide) (pc'' := 213) rfl (fun c210 => (absurd c210 (by decide))) (fun c210 => ?_)
        refine k_aload G X at_213 (pc' := 215) rfl rfl rfl ?_
        refine k_iload G X at_215 (pc' := 217) rfl rfl ?_
        refine k_iload G X at_217 (pc' := 219) rfl rfl ?_
        refine k_iload G X at_219 (pc' := 221) rfl rfl ?_
        refine k_iload G X at_221 (pc' := 223) rfl rfl ?_
        refine k_iload G X at_223 (pc' := 225) rfl rfl ?_
        refine k_iload G X at_225 (pc' := 227) rfl rfl ?_
        refine k_callS G X (argsL := [(.ref r203), (.int (0 : Int32)), (.int (1 : Int32)), (.int (p0.toInt8.toInt32)), (.int (p1.toInt8.toInt32)), (.int (p2.toInt8.toInt32)), (.int (0 : Int32))]) (rest := []) rfl (w94 hw) (w95 hw) (w96 hw) (w97 hw) (by decide) (chk_0_1 hw r203 kr203 _ (p0.toInt8.toInt32) (p1.toInt8.toInt32) (p2.toInt8.toInt32) h203 n0 R203 (by rfl) (by rfl)) at_227 pd11 rfl (pc' := 230) rfl rfl (wd := 0) rfl (by decide) (by decide) (by decide) (by decide) (fun T h227 v X q => ?_)
        obtain ⟨rfl, e227⟩ := q
        replace X := X.eq e227
        show Go Γ n0 _ T (mkF Γ.m 230 #[.val (.int p0), .val (.int p1), .val (.int p2), .val (.int p3), .val (.int (0 : Int32)), .val (.int (1 : Int32)), .val (.int (0 : Int32)), .val (.int (0 : Int32)), .val (.int (p0.toInt8.toInt32)), .val (.int (p1.toInt8.toInt32)), .val (.int (p2.toInt8.toInt32)), .val (.ref b64), .val (.ref b107), .val (.int (1 : Int32)), .val (.ref r160), .val (.int (1 : Int32)), .val (.ref r203)] [(.int (1 : Int32))])
        refine k_if_eq G X at_230 (pc' := 237) rfl (by decide) (pc'' := 233) rfl (fun c230 => (absurd c230 (by decide))) (fun c230 => ?_)
        refine k_iconst G X at_233 (pc' := 234) rfl (z := (1 : Int32)) (by decide) ?_
        refine k_goto G X at_234 (by decide) (pc' := 238) rfl ?_
        refine k_retb G X at_238 (t := .boolean) rfl (by simp) rfl ?_ (by decide) (by decide)
        rfl
      · refine k_iconst G X at_28 (pc' := 29) rfl (z := (1 : Int32)) (by decide) ?_
        refine k_goto G X at_29 (by decide) (pc' := 33) rfl ?_
        refine k_istore G X at_33 (pc' := 35) rfl (l' := #[.val (.int p0), .val (.int p1), .val (.int p2), .val (.int p3), .val (.int (0 : Int32)), .val (.int (1 : Int32)), .val (.int (1 : Int32)), .unset, .unset, .unset, .unset, .unset, .unset, .unset, .unset, .unset, .unset]) rfl ?_
        refine k_iload G X at_35 (pc' := 37) rfl rfl ?_
        refine k_if_eq G X at_37 (pc' := 46) rfl (by decide) (pc'' := 40) rfl (fun c37 => (absurd c37 (by decide))) (fun c37 => ?_)
        refine k_sipush G X at_40 (pc' := 43) rfl (z := (600 : Int32)) (by decide) ?_
        refine k_goto G X at_43 (by decide) (pc' := 48) rfl ?_
        refine k_istore G X at_48 (pc' := 50) rfl (l' := #[.val (.int p0), .val (.int p1), .val (.int p2), .val (.int p3), .val (.int (0 : Int32)), .val (.int (1 : Int32)), .val (.int (1 : Int32)), .val (.int (600 : Int32)), .unset, .unset, .unset, .unset, .unset, .unset, .unset, .unset, .unset]) rfl ?_
        refine k_iloadN G X at_50 (pc' := 51) rfl rfl ?_
        refine k_i2b G X at_51 (pc' := 52) rfl rfl ?_
        refine k_istore G X at_52 (pc' := 54) rfl (l' := #[.val (.int p0), .val (.int p1), .val (.int p2), .val (.int p3), .val (.int (0 : Int32)), .val (.int (1 : Int32)), .val (.int (1 : Int32)), .val (.int (600 : Int32)), .val (.int (p0.toInt8.toInt32)), .unset, .unset, .unset, .unset, .unset, .unset, .unset, .unset]) rfl ?_
        refine k_iloadN G X at_54 (pc' := 55) rfl rfl ?_
        refine k_i2b G X at_55 (pc' := 56) rfl rfl ?_
        refine k_istore G X at_56 (pc' := 58) rfl (l' := #[.val (.int p0), .val (.int p1), .val (.int p2), .val (.int p3), .val (.int (0 : Int32)), .val (.int (1 : Int32)), .val (.int (1 : Int32)), .val (.int (600 : Int32)), .val (.int (p0.toInt8.toInt32)), .val (.int (p1.toInt8.toInt32)), .unset, .unset, .unset, .unset, .unset, .unset, .unset]) rfl ?_
        refine k_iloadN G X at_58 (pc' := 59) rfl rfl ?_
        refine k_i2b G X at_59 (pc' := 60) rfl rfl ?_
        refine k_istore G X at_60 (pc' := 62) rfl (l' := #[.val (.int p0), .val (.int p1), .val (.int p2), .val (.int p3), .val (.int (0 : Int32)), .val (.int (1 : Int32)), .val (.int (1 : Int32)), .val (.int (600 : Int32)), .val (.int (p0.toInt8.toInt32)), .val (.int (p1.toInt8.toInt32)), .val (.int (p2.toInt8.toInt32)), .unset, .unset, .unset, .unset, .unset, .unset]) rfl ?_
        refine k_iload G X at_62 (pc' := 64) rfl rfl ?_
        refine k_newP G X (aty := .byte) (n := 600) (cap := 600) (w0 hw) at_64 (pc' := 66) rfl rfl (by decide) (by decide) (by decide) (by decide) (fun T h64 b64 k64 s_b64 E64 A_b64 X => ?_)
        have ne_aED_b64 : aED ≠ b64 := Nat.ne_of_lt (Nat.lt_of_lt_of_eq EED.lt s_b64)
        have ne_aDo_b64 : aDo ≠ b64 := Nat.ne_of_lt (Nat.lt_of_lt_of_eq EDo.lt s_b64)
        have ne_aEA_b64 : aEA ≠ b64 := Nat.ne_of_lt (Nat.lt_of_lt_of_eq EEA.lt s_b64)
        have ne_aAr_b64 : aAr ≠ b64 := Nat.ne_of_lt (Nat.lt_of_lt_of_eq EAr.lt s_b64)
        have ge_b64 : n0 ≤ b64 := Nat.le_trans (Jvm.OwnK.Old_le O) (Nat.le_of_eq s_b64)
        replace O := O.ext E64
        replace S_ED := S_ED.ext E64
        replace S_Do := S_Do.ext E64
        replace S_EA := S_EA.ext E64
        replace S_Ar := S_Ar.ext E64
        replace EED := EED.ext E64
        replace EDo := EDo.ext E64
        replace EEA := EEA.ext E64
        replace EAr := EAr.ext E64
        replace OED := OED.ext E64
        replace OEA := OEA.ext E64
        replace A_b64 : Arf Z h64 b64 k64 .byte 600 (fun _ => (.int (0 : Int32))) := A_b64
        refine k_astore G X at_66 (pc' := 68) rfl rfl (l' := #[.val (.int p0), .val (.int p1), .val (.int p2), .val (.int p3), .val (.int (0 : Int32)), .val (.int (1 : Int32)), .val (.int (1 : Int32)), .val (.int (600 : Int32)), .val (.int (p0.toInt8.toInt32)), .val (.int (p1.toInt8.toInt32)), .val (.int (p2.toInt8.toInt32)), .val (.ref b64), .unset, .unset, .unset, .unset, .unset]) rfl ?_
        refine k_iload G X at_68 (pc' := 70) rfl rfl ?_
        refine k_iconst G X at_70 (pc' := 71) rfl (z := (1 : Int32)) (by decide) ?_
        refine k_icmp_lt G X at_71 (pc' := 80) rfl (by decide) (pc'' := 74) rfl (fun c71 => (absurd c71 (by decide))) (fun c71 => ?_)
        refine k_aload G X at_74 (pc' := 76) rfl rfl rfl ?_
        refine k_iconst G X at_76 (pc' := 77) rfl (z := (0 : Int32)) (by decide) ?_
        refine k_iload G X at_77 (pc' := 79) rfl rfl ?_
        refine k_bastore G X (i := 0) (z := (p0.toInt8.toInt32)) A_b64 rfl (by decide) (by simp [nar]) ge_b64 at_79 (pc' := 80) rfl (fun T h79 W79 A_b64 X => ?_)
        replace O := O.wr W79 ge_b64
        replace S_ED := S_ED.wr W79
        replace S_Do := S_Do.wr W79
        replace S_EA := S_EA.wr W79
        replace S_Ar := S_Ar.wr W79
        replace EED := EED.wr W79
        replace EDo := EDo.wr W79
        replace EEA := EEA.wr W79
        replace EAr := EAr.wr W79
        replace OED := OED.other W79 (Or.inl ne_aED_b64)
        replace OEA := OEA.other W79 (Or.inl ne_aEA_b64)
        refine k_iload G X at_80 (pc' := 82) rfl rfl ?_
        refine k_iconst G X at_82 (pc' := 83) rfl (z := (2 : Int32)) (by decide) ?_
        refine k_icmp_lt G X at_83 (pc' := 92) rfl (by decide) (pc'' := 86) rfl (fun c83 => (absurd c83 (by decide))) (fun c83 => ?_)
        refine k_aload G X at_86 (pc' := 88) rfl rfl rfl ?_
        refine k_iconst G X at_88 (pc' := 89) rfl (z := (1 : Int32)) (by decide) ?_
        refine k_iload G X at_89 (pc' := 91) rfl rfl ?_
        refine k_bastore G X (i := 1) (z := (p1.toInt8.toInt32)) A_b64 rfl (by decide) (by simp [nar]) ge_b64 at_91 (pc' := 92) rfl (fun T h91 W91 A_b64 X => ?_)
        replace O := O.wr W91 ge_b64
        replace S_ED := S_ED.wr W91
        replace S_Do := S_Do.wr W91
        replace S_EA := S_EA.wr W91
        replace S_Ar := S_Ar.wr W91
        replace EED := EED.wr W91
        replace EDo := EDo.wr W91
        replace EEA := EEA.wr W91
        replace EAr := EAr.wr W91
        replace OED := OED.other W91 (Or.inl ne_aED_b64)
        replace OEA := OEA.other W91 (Or.inl ne_aEA_b64)
        refine k_iload G X at_92 (pc' := 94) rfl rfl ?_
        refine k_iconst G X at_94 (pc' := 95) rfl (z := (3 : Int32)) (by decide) ?_
        refine k_icmp_lt G X at_95 (pc' := 107) rfl (by decide) (pc'' := 98) rfl (fun c95 => (absurd c95 (by decide))) (fun c95 => ?_)
        refine k_aload G X at_98 (pc' := 100) rfl rfl rfl ?_
        refine k_iload G X at_100 (pc' := 102) rfl rfl ?_
        refine k_iconst G X at_102 (pc' := 103) rfl (z := (1 : Int32)) (by decide) ?_
        refine k_isub G X at_103 (pc' := 104) rfl (z := (599 : Int32)) (by decide) ?_
        refine k_iload G X at_104 (pc' := 106) rfl rfl ?_
        refine k_bastore G X (i := 599) (z := (p2.toInt8.toInt32)) A_b64 rfl (by decide) (by simp [nar]) ge_b64 at_106 (pc' := 107) rfl (fun T h106 W106 A_b64 X => ?_)
        replace O := O.wr W106 ge_b64
        replace S_ED := S_ED.wr W106
        replace S_Do := S_Do.wr W106
        replace S_EA := S_EA.wr W106
        replace S_Ar := S_Ar.wr W106
        replace EED := EED.wr W106
        replace EDo := EDo.wr W106
        replace EEA := EEA.wr W106
        replace EAr := EAr.wr W106
        replace OED := OED.other W106 (Or.inl ne_aED_b64)
        replace OEA := OEA.other W106 (Or.inl ne_aEA_b64)
        refine k_new G X (w1 hw) (w2 hw) (w3 hw) at_107 (pc' := 110) rfl (by decide) (by decide) (fun T h107 b107 s_b107 E107 X_b107 D107 X => ?_)
        have ne_aED_b107 : aED ≠ b107 := Nat.ne_of_lt (Nat.lt_of_lt_of_eq EED.lt s_b107)
        have ne_aDo_b107 : aDo ≠ b107 := Nat.ne_of_lt (Nat.lt_of_lt_of_eq EDo.lt s_b107)
        have ne_aEA_b107 : aEA ≠ b107 := Nat.ne_of_lt (Nat.lt_of_lt_of_eq EEA.lt s_b107)
        have ne_aAr_b107 : aAr ≠ b107 := Nat.ne_of_lt (Nat.lt_of_lt_of_eq EAr.lt s_b107)
        have ne_b64_b107 : b64 ≠ b107 := Nat.ne_of_lt (Nat.lt_of_lt_of_eq A_b64.lt s_b107)
        have ge_b107 : n0 ≤ b107 := Nat.le_trans (Jvm.OwnK.Old_le O) (Nat.le_of_eq s_b107)
        replace O := O.ext E107
        replace S_ED := S_ED.ext E107
        replace S_Do := S_Do.ext E107
        replace S_EA := S_EA.ext E107
        replace S_Ar := S_Ar.ext E107
        replace EED := EED.ext E107
        replace EDo := EDo.ext E107
        replace EEA := EEA.ext E107
        replace EAr := EAr.ext E107
        replace OED := OED.ext E107
        replace OEA := OEA.ext E107
        replace A_b64 := A_b64.ext E107
        have F_b107_names : Fld Z h107 b107 "com/example/changeline/changeline/format/JsonOutput" "names" "Ljava/util/Map;" .null := D107 (Or.inr (w33 hw)) (ty := (.object "java/util/Map")) (by decide)
        have F_b107_bytes : Fld Z h107 b107 "com/example/changeline/changeline/format/JsonOutput" "bytes" "[B" .null := D107 (Or.inl (w35 hw)) (ty := (.array .byte)) (by decide)
        have F_b107_scopes : Fld Z h107 b107 "com/example/changeline/changeline/format/JsonOutput" "scopes" "[Lcom/example/changeline/changeline/format/JsonOutput$Scope;" .null := D107 (Or.inl (w39 hw)) (ty := (.array (.object "com/example/changeline/changeline/format/JsonOutput$Scope"))) (by decide)
        have F_b107_depth : Fld Z h107 b107 "com/example/changeline/changeline/format/JsonOutput" "depth" "I" (.int (0 : Int32)) := D107 (Or.inl (w41 hw)) (ty := .int) (by decide)
        have F_b107_length : Fld Z h107 b107 "com/example/changeline/changeline/format/JsonOutput" "length" "I" (.int (0 : Int32)) := D107 (Or.inl (w71 hw)) (ty := .int) (by decide)
        refine k_dup G X at_110 (pc' := 111) rfl rfl ?_
        refine k_callI G X (argsL := []) (rest := [(.ref b107)]) rfl rfl (w4 hw) (w5 hw) (w3 hw) (w6 hw) (by decide) (jo_init hw b107 aED h107 n0 ge_b107 O X_b107 F_b107_names F_b107_bytes F_b107_length F_b107_scopes F_b107_depth S_ED EED) at_111 pd0 rfl (pc' := 114) rfl rfl (wd := 1) rfl (by decide) (by decide) (by decide) (by decide) (fun T h111 v X q => ?_)
        obtain ⟨rfl, K111, E', b, sc, kb, ks, sz_b, sz_sc, ne_b_sc, FB, FL, FS, FD, BA, SCA, SO⟩ := q
        have ne_aED_b : aED ≠ b := Nat.ne_of_lt (Nat.lt_of_lt_of_le EED.lt sz_b)
        have ne_aED_sc : aED ≠ sc := Nat.ne_of_lt (Nat.lt_of_lt_of_le EED.lt sz_sc)
        have ne_aDo_b : aDo ≠ b := Nat.ne_of_lt (Nat.lt_of_lt_of_le EDo.lt sz_b)
        have ne_aDo_sc : aDo ≠ sc := Nat.ne_of_lt (Nat.lt_of_lt_of_le EDo.lt sz_sc)
        have ne_aEA_b : aEA ≠ b := Nat.ne_of_lt (Nat.lt_of_lt_of_le EEA.lt sz_b)
        have ne_aEA_sc : aEA ≠ sc := Nat.ne_of_lt (Nat.lt_of_lt_of_le EEA.lt sz_sc)
        have ne_aAr_b : aAr ≠ b := Nat.ne_of_lt (Nat.lt_of_lt_of_le EAr.lt sz_b)
        have ne_aAr_sc : aAr ≠ sc := Nat.ne_of_lt (Nat.lt_of_lt_of_le EAr.lt sz_sc)
        have ne_b64_b : b64 ≠ b := Nat.ne_of_lt (Nat.lt_of_lt_of_le A_b64.lt sz_b)
        have ne_b64_sc : b64 ≠ sc := Nat.ne_of_lt (Nat.lt_of_lt_of_le A_b64.lt sz_sc)
        have ne_o_b : b107 ≠ b := Nat.ne_of_lt (Nat.lt_of_lt_of_le X_b107.lt sz_b)
        have ge_b : n0 ≤ b := Nat.le_trans (Old_le O) sz_b
        have ne_o_sc : b107 ≠ sc := Nat.ne_of_lt (Nat.lt_of_lt_of_le X_b107.lt sz_sc)
        have ge_sc : n0 ≤ sc := Nat.le_trans (Old_le O) sz_sc
        replace S_ED := Sta_keepL S_ED K111 (allS (Pln_exa X_b107) (all0))
        replace S_Do := Sta_keepL S_Do K111 (allS (Pln_exa X_b107) (all0))
        replace S_EA := Sta_keepL S_EA K111 (allS (Pln_exa X_b107) (all0))
        replace S_Ar := Sta_keepL S_Ar K111 (allS (Pln_exa X_b107) (all0))
        replace O := O.keep K111 (allS ge_b107 (all0))
        replace EED := EED.keep K111
        replace EDo := EDo.keep K111
        replace EEA := EEA.keep K111
        replace EAr := EAr.keep K111
        replace OED := OED.keep K111 (by simp only [List.mem_cons, List.not_mem_nil, or_false, not_or]; exact ne_aED_b107)
        replace OEA := OEA.keep K111 (by simp only [List.mem_cons, List.not_mem_nil, or_false, not_or]; exact ne_aEA_b107)
        replace A_b64 := A_b64.keep K111 (by simp only [List.mem_cons, List.not_mem_nil, or_false, not_or]; exact ne_b64_b107)
        replace X_b107 := X_b107.keep K111
        show Go Γ n0 _ T (mkF Γ.m 114 #[.val (.int p0), .val (.int p1), .val (.int p2), .val (.int p3), .val (.int (0 : Int32)), .val (.int (1 : Int32)), .val (.int (1 : Int32)), .val (.int (600 : Int32)), .val (.int (p0.toInt8.toInt32)), .val (.int (p1.toInt8.toInt32)), .val (.int (p2.toInt8.toInt32)), .val (.ref b64), .unset, .unset, .unset, .unset, .unset] [(.ref b107)])
        refine k_astore G X at_114 (pc' := 116) rfl rfl (l' := #[.val (.int p0), .val (.int p1), .val (.int p2), .val (.int p3), .val (.int (0 : Int32)), .val (.int (1 : Int32)), .val (.int (1 : Int32)), .val (.int (600 : Int32)), .val (.int (p0.toInt8.toInt32)), .val (.int (p1.toInt8.toInt32)), .val (.int (p2.toInt8.toInt32)), .val (.ref b64), .val (.ref b107), .unset, .unset, .unset, .unset]) rfl ?_
        refine k_iload G X at_116 (pc' := 118) rfl rfl ?_
        refine k_if_eq G X at_118 (pc' := 127) rfl (by decide) (pc'' := 121) rfl (fun c118 => (absurd c118 (by decide))) (fun c118 => ?_)
        refine k_aload G X at_121 (pc' := 123) rfl rfl rfl ?_
        refine k_callV G X (argsL := []) (rest := []) rfl X_b107 (w101 hw) (w102 hw) (nf_sel (w104 hw)) (w104 hw) (w103 hw) (w3 hw) (w105 hw) (by decide) (begA hw b107 b sc aED aDo aEA kb ks 0 512 (0 : Int32) (1 : Int32) (512 : Int32) _ _ h111 n0 ge_b107 ge_sc O X_b107 FB FL FS FD SCA SO ne_o_sc rfl rfl rfl ge_b BA EED OED EDo S_Do EEA S_EA rfl ne_aED_sc ne_o_b.symm ne_b_sc (by decide)) at_123 pd12 rfl (pc' := 126) rfl rfl (wd := 0) rfl (by decide) (by decide) (by decide) (by decide) (fun T h123 v X q => ?_)
        obtain ⟨rfl, K123, E', FB', FL', FS', FD', BA', SCA'⟩ := q
        replace S_ED := Sta_keepL S_ED K123 (allS (Pln_arf SCA) (allS (Pln_exa X_b107) (allS (Pln_arf BA) (all0))))
        replace S_Do := Sta_keepL S_Do K123 (allS (Pln_arf SCA) (allS (Pln_exa X_b107) (allS (Pln_arf BA) (all0))))
        replace S_EA := Sta_keepL S_EA K123 (allS (Pln_arf SCA) (allS (Pln_exa X_b107) (allS (Pln_arf BA) (all0))))
        replace S_Ar := Sta_keepL S_Ar K123 (allS (Pln_arf SCA) (allS (Pln_exa X_b107) (allS (Pln_arf BA) (all0))))
        replace O := O.keep K123 (allS ge_sc (allS ge_b107 (allS ge_b (all0))))
        replace EED := EED.keep K123
        replace EDo := EDo.keep K123
        replace EEA := EEA.keep K123
        replace EAr := EAr.keep K123
        replace OED := OED.keep K123 (by simp only [List.mem_cons, List.not_mem_nil, or_false, not_or]; exact ⟨ne_aED_sc, ne_aED_b107, ne_aED_b⟩)
        replace OEA := OEA.keep K123 (by simp only [List.mem_cons, List.not_mem_nil, or_false, not_or]; exact ⟨ne_aEA_sc, ne_aEA_b107, ne_aEA_b⟩)
        replace A_b64 := A_b64.keep K123 (by simp only [List.mem_cons, List.not_mem_nil, or_false, not_or]; exact ⟨ne_b64_sc, ne_b64_b107, ne_b64_b⟩)
        replace X_b107 := X_b107.keep K123
        have FB := FB'
        have FL := FL'
        have FS := FS'
        have FD := FD'
        have BA := BA'
        have SCA := SCA'
        show Go Γ n0 _ T (mkF Γ.m 126 #[.val (.int p0), .val (.int p1), .val (.int p2), .val (.int p3), .val (.int (0 : Int32)), .val (.int (1 : Int32)), .val (.int (1 : Int32)), .val (.int (600 : Int32)), .val (.int (p0.toInt8.toInt32)), .val (.int (p1.toInt8.toInt32)), .val (.int (p2.toInt8.toInt32)), .val (.ref b64), .val (.ref b107), .unset, .unset, .unset, .unset] [(.ref b107)])
        refine k_pop G X at_126 (pc' := 127) rfl rfl ?_
        refine k_aload G X at_127 (pc' := 129) rfl rfl rfl ?_
        refine k_aload G X at_129 (pc' := 131) rfl rfl rfl ?_
        refine k_callV G X (argsL := [(.ref b64)]) (rest := []) rfl X_b107 (w46 hw) (w47 hw) (nf_sel (w49 hw)) (w49 hw) (w48 hw) (w3 hw) (w50 hw) (by decide) (jv51 hw b107 b b64 sc aEA aAr kb k64 ks 1 600 (1 : Int32) (600 : Int32) (601 : Int32) _ _ _ h123 n0 ge_b107 ge_sc O X_b107 FB FL FS FD SCA SO ne_o_sc rfl rfl rfl BA A_b64 EEA OEA EAr S_Ar rfl ne_aEA_sc ne_o_b.symm ne_b64_b107 ne_b64_b ne_b_sc ne_b64_sc (by decide) (by decide)) at_131 pd9 rfl (pc' := 134) rfl rfl (wd := 0) rfl (by decide) (by decide) (by decide) (by decide) (fun T h131 v X q => ?_)
        obtain ⟨rfl, K131, E', SCA', b', kb', sz_b', FB', FL', FS', FD', BA'⟩ := q
        have ne_o_b' : b107 ≠ b' := Nat.ne_of_lt (Nat.lt_of_lt_of_le X_b107.lt sz_b')
        have ne_sc_b' : sc ≠ b' := Nat.ne_of_lt (Nat.lt_of_lt_of_le SCA.lt sz_b')
        have ge_b' : n0 ≤ b' := Nat.le_trans (Old_le O) sz_b'
        replace S_ED := Sta_keepL S_ED K131 (allS (Pln_arf SCA) (allS (Pln_exa X_b107) (all0)))
        replace S_Do := Sta_keepL S_Do K131 (allS (Pln_arf SCA) (allS (Pln_exa X_b107) (all0)))
        replace S_EA := Sta_keepL S_EA K131 (allS (Pln_arf SCA) (allS (Pln_exa X_b107) (all0)))
        replace S_Ar := Sta_keepL S_Ar K131 (allS (Pln_arf SCA) (allS (Pln_exa X_b107) (all0)))
        replace O := O.keep K131 (allS ge_sc (allS ge_b107 (all0)))
        replace EED := EED.keep K131
        replace EDo := EDo.keep K131
        replace EEA := EEA.keep K131
        replace EAr := EAr.keep K131
        replace X_b107 := X_b107.keep K131
        have FB := FB'
        have FL := FL'
        have FS := FS'
        have FD := FD'
        have BA := BA'
        have SCA := SCA'
        show Go Γ n0 _ T (mkF Γ.m 134 #[.val (.int p0), .val (.int p1), .val (.int p2), .val (.int p3), .val (.int (0 : Int32)), .val (.int (1 : Int32)), .val (.int (1 : Int32)), .val (.int (600 : Int32)), .val (.int (p0.toInt8.toInt32)), .val (.int (p1.toInt8.toInt32)), .val (.int (p2.toInt8.toInt32)), .val (.ref b64), .val (.ref b107), .unset, .unset, .unset, .unset] [(.ref b107)])
        refine k_pop G X at_134 (pc' := 135) rfl rfl ?_
        refine k_iload G X at_135 (pc' := 137) rfl rfl ?_
        refine k_if_eq G X at_137 (pc' := 146) rfl (by decide) (pc'' := 140) rfl (fun c137 => (absurd c137 (by decide))) (fun c137 => ?_)
        refine k_aload G X at_140 (pc' := 142) rfl rfl rfl ?_
        refine k_callV G X (argsL := []) (rest := []) rfl X_b107 (w118 hw) (w119 hw) (nf_sel (w121 hw)) (w121 hw) (w120 hw) (w3 hw) (w122 hw) (by decide) (endA hw b107 b' sc aAr aEA kb' ks 601 1024 (601 : Int32) (602 : Int32) (1024 : Int32) _ _ h131 n0 ge_b107 ge_sc O X_b107 FB FL FS FD SCA SO ne_o_sc rfl rfl rfl ge_b' BA S_EA S_Ar rfl ne_o_b'.symm ne_sc_b'.symm (by decide)) at_142 pd12 rfl (pc' := 145) rfl rfl (wd := 0) rfl (by decide) (by decide) (by decide) (by decide) (fun T h142 v X q => ?_)
        obtain ⟨rfl, K142, E', FB', FL', FS', FD', BA'⟩ := q
        replace S_ED := Sta_keepL S_ED K142 (allS (Pln_exa X_b107) (allS (Pln_arf BA) (all0)))
        replace S_Do := Sta_keepL S_Do K142 (allS (Pln_exa X_b107) (allS (Pln_arf BA) (all0)))
        replace S_EA := Sta_keepL S_EA K142 (allS (Pln_exa X_b107) (allS (Pln_arf BA) (all0)))
        replace S_Ar := Sta_keepL S_Ar K142 (allS (Pln_exa X_b107) (allS (Pln_arf BA) (all0)))
        replace O := O.keep K142 (allS ge_b107 (allS ge_b' (all0)))
        replace EED := EED.keep K142
        replace EDo := EDo.keep K142
        replace EEA := EEA.keep K142
        replace EAr := EAr.keep K142
        replace X_b107 := X_b107.keep K142
        replace SCA := SCA.keep K142 (by simp only [List.mem_cons, List.not_mem_nil, or_false, not_or]; exact ⟨(Ne.symm ne_o_sc), ne_sc_b'⟩)
        have FB := FB'
        have FL := FL'
        have FS := FS'
        have FD := FD'
        have BA := BA'
        show Go Γ n0 _ T (mkF Γ.m 145 #[.val (.int p0), .val (.int p1), .val (.int p2), .val (.int p3), .val (.int (0 : Int32)), .val (.int (1 : Int32)), .val (.int (1 : Int32)), .val (.int (600 : Int32)), .val (.int (p0.toInt8.toInt32)), .val (.int (p1.toInt8.toInt32)), .val (.int (p2.toInt8.toInt32)), .val (.ref b64), .val (.ref b107), .unset, .unset, .unset, .unset] [(.ref b107)])
        refine k_pop G X at_145 (pc' := 146) rfl rfl ?_
        refine k_iload G X at_146 (pc' := 148) rfl rfl ?_
        refine k_if_eq G X at_148 (pc' := 155) rfl (by decide) (pc'' := 151) rfl (fun c148 => (absurd c148 (by decide))) (fun c148 => ?_)
        refine k_iconst G X at_151 (pc' := 152) rfl (z := (1 : Int32)) (by decide) ?_
        refine k_goto G X at_152 (by decide) (pc' := 156) rfl ?_
        refine k_istore G X at_156 (pc' := 158) rfl (l' := #[.val (.int p0), .val (.int p1), .val (.int p2), .val (.int p3), .val (.int (0 : Int32)), .val (.int (1 : Int32)), .val (.int (1 : Int32)), .val (.int (600 : Int32)), .val (.int (p0.toInt8.toInt32)), .val (.int (p1.toInt8.toInt32)), .val (.int (p2.toInt8.toInt32)), .val (.ref b64), .val (.ref b107), .val (.int (1 : Int32)), .unset, .unset, .unset]) rfl ?_
        refine k_aload G X at_158 (pc' := 160) rfl rfl rfl ?_
        refine k_callV G X (argsL := []) (rest := []) rfl X_b107 (w80 hw) (w81 hw) (nf_sel (w83 hw)) (w83 hw) (w82 hw) (w3 hw) (w84 hw) (by decide) (toB hw b107 b' kb' 602 1024 (602 : Int32) (1024 : Int32) _ h142 n0 O FB FL rfl rfl (by decide) (by decide) BA) at_160 pd10 rfl (pc' := 163) rfl rfl (wd := 0) rfl (by decide) (by decide) (by decide) (by decide) (fun T h160 v X q => ?_)
        obtain ⟨r160, kr160, rfl, sz_r160, K160, R160⟩ := q
        have ge_r160 : n0 ≤ r160 := Nat.le_trans (Old_le O) sz_r160
        have ne_aED_r160 : aED ≠ r160 := Nat.ne_of_lt (Nat.lt_of_lt_of_le EED.lt sz_r160)
        have ne_aDo_r160 : aDo ≠ r160 := Nat.ne_of_lt (Nat.lt_of_lt_of_le EDo.lt sz_r160)
        have ne_aEA_r160 : aEA ≠ r160 := Nat.ne_of_lt (Nat.lt_of_lt_of_le EEA.lt sz_r160)
        have ne_aAr_r160 : aAr ≠ r160 := Nat.ne_of_lt (Nat.lt_of_lt_of_le EAr.lt sz_r160)
        have ne_b107_r160 : b107 ≠ r160 := Nat.ne_of_lt (Nat.lt_of_lt_of_le X_b107.lt sz_r160)
        have ne_b'_r160 : b' ≠ r160 := Nat.ne_of_lt (Nat.lt_of_lt_of_le BA.lt sz_r160)
        have ne_sc_r160 : sc ≠ r160 := Nat.ne_of_lt (Nat.lt_of_lt_of_le SCA.lt sz_r160)
        replace S_ED := Jvm.OwnK.Sta_keep S_ED K160
        replace S_Do := Jvm.OwnK.Sta_keep S_Do K160
        replace S_EA := Jvm.OwnK.Sta_keep S_EA K160
        replace S_Ar := Jvm.OwnK.Sta_keep S_Ar K160
        replace O := O.keep K160 (all0)
        replace EED := EED.keep K160
        replace EDo := EDo.keep K160
        replace EEA := EEA.keep K160
        replace EAr := EAr.keep K160
        replace X_b107 := X_b107.keep K160
        replace FB := FB.keep K160 nin0
        replace FL := FL.keep K160 nin0
        replace FS := FS.keep K160 nin0
        replace FD := FD.keep K160 nin0
        replace BA := BA.keep K160 nin0
        replace SCA := SCA.keep K160 nin0
        show Go Γ n0 _ T (mkF Γ.m 163 #[.val (.int p0), .val (.int p1), .val (.int p2), .val (.int p3), .val (.int (0 : Int32)), .val (.int (1 : Int32)), .val (.int (1 : Int32)), .val (.int (600 : Int32)), .val (.int (p0.toInt8.toInt32)), .val (.int (p1.toInt8.toInt32)), .val (.int (p2.toInt8.toInt32)), .val (.ref b64), .val (.ref b107), .val (.int (1 : Int32)), .unset, .unset, .unset] [(.ref r160)])
        refine k_astore G X at_163 (pc' := 165) rfl rfl (l' := #[.val (.int p0), .val (.int p1), .val (.int p2), .val (.int p3), .val (.int (0 : Int32)), .val (.int (1 : Int32)), .val (.int (1 : Int32)), .val (.int (600 : Int32)), .val (.int (p0.toInt8.toInt32)), .val (.int (p1.toInt8.toInt32)), .val (.int (p2.toInt8.toInt32)), .val (.ref b64), .val (.ref b107), .val (.int (1 : Int32)), .val (.ref r160), .unset, .unset]) rfl ?_
        refine k_aload G X at_165 (pc' := 167) rfl rfl rfl ?_
        refine k_iload G X at_167 (pc' := 169) rfl rfl ?_
        refine k_iload G X at_169 (pc' := 171) rfl rfl ?_
        refine k_iload G X at_171 (pc' := 173) rfl rfl ?_
        refine k_iload G X at_173 (pc' := 175) rfl rfl ?_
        refine k_iload G X at_175 (pc' := 177) rfl rfl ?_
        refine k_iload G X at_177 (pc' := 179) rfl rfl ?_
        refine k_callS G X (argsL := [(.ref r160), (.int (600 : Int32)), (.int (1 : Int32)), (.int (p0.toInt8.toInt32)), (.int (p1.toInt8.toInt32)), (.int (p2.toInt8.toInt32)), (.int (1 : Int32))]) (rest := []) rfl (w94 hw) (w95 hw) (w96 hw) (w97 hw) (by decide) (chk_600_1 hw r160 kr160 _ (p0.toInt8.toInt32) (p1.toInt8.toInt32) (p2.toInt8.toInt32) h160 n0 R160 (by rfl) (by rfl) (by rfl) (by rfl) (by rfl) (by rfl)) at_179 pd11 rfl (pc' := 182) rfl rfl (wd := 0) rfl (by decide) (by decide) (by decide) (by decide) (fun T h179 v X q => ?_)
        obtain ⟨rfl, e179⟩ := q
        replace X := X.eq e179
        show Go Γ n0 _ T (mkF Γ.m 182 #[.val (.int p0), .val (.int p1), .val (.int p2), .val (.int p3), .val (.int (0 : Int32)), .val (.int (1 : Int32)), .val (.int (1 : Int32)), .val (.int (600 : Int32)), .val (.int (p0.toInt8.toInt32)), .val (.int (p1.toInt8.toInt32)), .val (.int (p2.toInt8.toInt32)), .val (.ref b64), .val (.ref b107), .val (.int (1 : Int32)), .val (.ref r160), .unset, .unset] [(.int (1 : Int32))])
        refine k_istore G X at_182 (pc' := 184) rfl (l' := #[.val (.int p0), .val (.int p1), .val (.int p2), .val (.int p3), .val (.int (0 : Int32)), .val (.int (1 : Int32)), .val (.int (1 : Int32)), .val (.int (600 : Int32)), .val (.int (p0.toInt8.toInt32)), .val (.int (p1.toInt8.toInt32)), .val (.int (p2.toInt8.toInt32)), .val (.ref b64), .val (.ref b107), .val (.int (1 : Int32)), .val (.ref r160), .val (.int (1 : Int32)), .unset]) rfl ?_
        refine k_aload G X at_184 (pc' := 186) rfl rfl rfl ?_
        refine k_alen G X (z := (602 : Int32)) R160 rfl at_186 (pc' := 187) rfl ?_
        refine k_if_le G X at_187 (pc' := 201) rfl (by decide) (pc'' := 190) rfl (fun c187 => (absurd c187 (by decide))) (fun c187 => ?_)
        refine k_aload G X at_190 (pc' := 192) rfl rfl rfl ?_
        refine k_iconst G X at_192 (pc' := 193) rfl (z := (0 : Int32)) (by decide) ?_
        refine k_aload G X at_193 (pc' := 195) rfl rfl rfl ?_
        refine k_iconst G X at_195 (pc' := 196) rfl (z := (0 : Int32)) (by decide) ?_
        refine k_baload G X (i := 0) (v := (.int (91 : Int32))) R160 rfl (by decide) (by rfl) at_196 (pc' := 197) rfl ?_
        refine k_iconst G X at_197 (pc' := 198) rfl (z := (1 : Int32)) (by decide) ?_
        refine k_ixor G X at_198 (pc' := 199) rfl (z := (90 : Int32)) (by decide) ?_
        refine k_i2b G X at_199 (pc' := 200) rfl (z := (90 : Int32)) (by decide) ?_
        refine k_bastore G X (i := 0) (z := ((90 : Int32))) R160 rfl (by decide) (by simp [nar]) ge_r160 at_200 (pc' := 201) rfl (fun T h200 W200 R160 X => ?_)
        replace O := O.wr W200 ge_r160
        replace S_ED := S_ED.wr W200
        replace S_Do := S_Do.wr W200
        replace S_EA := S_EA.wr W200
        replace S_Ar := S_Ar.wr W200
        replace EED := EED.wr W200
        replace EDo := EDo.wr W200
        replace EEA := EEA.wr W200
        replace EAr := EAr.wr W200
        replace X_b107 := X_b107.wr W200
        replace FB := FB.other W200 (Or.inl ne_b107_r160)
        replace FL := FL.other W200 (Or.inl ne_b107_r160)
        replace FS := FS.other W200 (Or.inl ne_b107_r160)
        replace FD := FD.other W200 (Or.inl ne_b107_r160)
        replace BA := BA.other W200 ne_b'_r160
        replace SCA := SCA.other W200 ne_sc_r160
        refine k_aload G X at_201 (pc' := 203) rfl rfl rfl ?_
        refine k_callV G X (argsL := []) (rest := []) rfl X_b107 (w80 hw) (w81 hw) (nf_sel (w83 hw)) (w83 hw) (w82 hw) (w3 hw) (w84 hw) (by decide) (toB hw b107 b' kb' 602 1024 (602 : Int32) (1024 : Int32) _ h200 n0 O FB FL rfl rfl (by decide) (by decide) BA) at_203 pd10 rfl (pc' := 206) rfl rfl (wd := 0) rfl (by decide) (by decide) (by decide) (by decide) (fun T h203 v X q => ?_)
        obtain ⟨r203, kr203, rfl, sz_r203, K203, R203⟩ := q
        have ge_r203 : n0 ≤ r203 := Nat.le_trans (Old_le O) sz_r203
        replace S_ED := Jvm.OwnK.Sta_keep S_ED K203
        replace S_Do := Jvm.OwnK.Sta_keep S_Do K203
        replace S_EA := Jvm.OwnK.Sta_keep S_EA K203
        replace S_Ar := Jvm.OwnK.Sta_keep S_Ar K203
        replace O := O.keep K203 (all0)
        replace EED := EED.keep K203
        replace EDo := EDo.keep K203
        replace EEA := EEA.keep K203
        replace EAr := EAr.keep K203
        replace X_b107 := X_b107.keep K203
        replace FB := FB.keep K203 nin0
        replace FL := FL.keep K203 nin0
        replace FS := FS.keep K203 nin0
        replace FD := FD.keep K203 nin0
        replace BA := BA.keep K203 nin0
        replace SCA := SCA.keep K203 nin0
        replace R160 := R160.keep K203 nin0
        show Go Γ n0 _ T (mkF Γ.m 206 #[.val (.int p0), .val (.int p1), .val (.int p2), .val (.int p3), .val (.int (0 : Int32)), .val (.int (1 : Int32)), .val (.int (1 : Int32)), .val (.int (600 : Int32)), .val (.int (p0.toInt8.toInt32)), .val (.int (p1.toInt8.toInt32)), .val (.int (p2.toInt8.toInt32)), .val (.ref b64), .val (.ref b107), .val (.int (1 : Int32)), .val (.ref r160), .val (.int (1 : Int32)), .unset] [(.ref r203)])
        refine k_astore G X at_206 (pc' := 208) rfl rfl (l' := #[.val (.int p0), .val (.int p1), .val (.int p2), .val (.int p3), .val (.int (0 : Int32)), .val (.int (1 : Int32)), .val (.int (1 : Int32)), .val (.int (600 : Int32)), .val (.int (p0.toInt8.toInt32)), .val (.int (p1.toInt8.toInt32)), .val (.int (p2.toInt8.toInt32)), .val (.ref b64), .val (.ref b107), .val (.int (1 : Int32)), .val (.ref r160), .val (.int (1 : Int32)), .val (.ref r203)]) rfl ?_
        refine k_iload G X at_208 (pc' := 210) rfl rfl ?_
        refine k_if_eq G X at_210 (pc' := 237) rfl (by decide) (pc'' := 213) rfl (fun c210 => (absurd c210 (by decide))) (fun c210 => ?_)
        refine k_aload G X at_213 (pc' := 215) rfl rfl rfl ?_
        refine k_iload G X at_215 (pc' := 217) rfl rfl ?_
        refine k_iload G X at_217 (pc' := 219) rfl rfl ?_
        refine k_iload G X at_219 (pc' := 221) rfl rfl ?_
        refine k_iload G X at_221 (pc' := 223) rfl rfl ?_
        refine k_iload G X at_223 (pc' := 225) rfl rfl ?_
        refine k_iload G X at_225 (pc' := 227) rfl rfl ?_
        refine k_callS G X (argsL := [(.ref r203), (.int (600 : Int32)), (.int (1 : Int32)), (.int (p0.toInt8.toInt32)), (.int (p1.toInt8.toInt32)), (.int (p2.toInt8.toInt32)), (.int (1 : Int32))]) (rest := []) rfl (w94 hw) (w95 hw) (w96 hw) (w97 hw) (by decide) (chk_600_1 hw r203 kr203 _ (p0.toInt8.toInt32) (p1.toInt8.toInt32) (p2.toInt8.toInt32) h203 n0 R203 (by rfl) (by rfl) (by rfl) (by rfl) (by rfl) (by rfl)) at_227 pd11 rfl (pc' := 230) rfl rfl (wd := 0) rfl (by decide) (by decide) (by decide) (by decide) (fun T h227 v X q => ?_)
        obtain ⟨rfl, e227⟩ := q
        replace X := X.eq e227
        show Go Γ n0 _ T (mkF Γ.m 230 #[.val (.int p0), .val (.int p1), .val (.int p2), .val (.int p3), .val (.int (0 : Int32)), .val (.int (1 : Int32)), .val (.int (1 : Int32)), .val (.int (600 : Int32)), .val (.int (p0.toInt8.toInt32)), .val (.int (p1.toInt8.toInt32)), .val (.int (p2.toInt8.toInt32)), .val (.ref b64), .val (.ref b107), .val (.int (1 : Int32)), .val (.ref r160), .val (.int (1 : Int32)), .val (.ref r203)] [(.int (1 : Int32))])
        refine k_if_eq G X at_230 (pc' := 237) rfl (by decide) (pc'' := 233) rfl (fun c230 => (absurd c230 (by decide))) (fun c230 => ?_)
        refine k_iconst G X at_233 (pc' := 234) rfl (z := (1 : Int32)) (by decide) ?_
        refine k_goto G X at_234 (by decide) (pc' := 238) rfl ?_
        refine k_retb G X at_238 (t := .boolean) rfl (by simp) rfl ?_ (by decide) (by decide)
        rfl
  · refine k_istore G X at_3 (pc' := 5) rfl (l' := #[.val (.int p0), .val (.int p1), .val (.int p2), .val (.int p3), .val (.int (1 : Int32)), .unset, .unset, .unset, .unset, .unset, .unset, .unset, .unset, .unset, .unset, .unset, .unset]) rfl ?_
    refine k_iloadN G X at_5 (pc' := 6) rfl rfl ?_
    refine k_iconst G X at_6 (pc' := 7) rfl (z := (2 : Int32)) (by decide) ?_
    refine k_ishr G X at_7 (pc' := 8) rfl rfl ?_
    refine k_iconst G X at_8 (pc' := 9) rfl (z := (1 : Int32)) (by decide) ?_
    refine k_iand G X at_9 (pc' := 10) rfl rfl ?_
    refine k_if_eq G X at_10 (pc' := 17) rfl (by decide) (pc'' := 13) rfl (fun c10 => ?_) (fun c10 => ?_)
    · refine k_iconst G X at_17 (pc' := 18) rfl (z := (0 : Int32)) (by decide) ?_
      refine k_istore G X at_18 (pc' := 20) rfl (l' := #[.val (.int p0), .val (.int p1), .val (.int p2), .val (.int p3), .val (.int (1 : Int32)), .val (.int (0 : Int32)), .unset, .unset, .unset, .unset, .unset, .unset, .unset, .unset, .unset, .unset, .unset]) rfl ?_
      refine k_iloadN G X at_20 (pc' := 21) rfl rfl ?_
      refine k_iconst G X at_21 (pc' := 22) rfl (z := (3 : Int32)) (by decide) ?_
      refine k_ishr G X at_22 (pc' := 23) rfl rfl ?_
      refine k_iconst G X at_23 (pc' := 24) rfl (z := (1 : Int32)) (by decide) ?_
      refine k_iand G X at_24 (pc' := 25) rfl rfl ?_
      refine k_if_eq G X at_25 (pc' := 32) rfl (by decide) (pc'' := 28) rfl (fun c25 => ?_) (fun c25 => ?_)
      · refine k_iconst G X at_32 (pc' := 33) rfl (z := (0 : Int32)) (by decide) ?_
        refine k_istore G X at_33 (pc' := 35) rfl (l' := #[.val (.int p0), .val (.int p1), .val (.int p2), .val (.int p3), .val (.int (1 : Int32)), .val (.int (0 : Int32)), .val (.int (0 : Int32)), .unset, .unset, .unset, .unset, .unset, .unset, .unset, .unset, .unset, .unset]) rfl ?_
        refine k_iload G X at_35 (pc' := 37) rfl rfl ?_
        refine k_if_eq G X at_37 (pc' := 46) rfl (by decide) (pc'' := 40) rfl (fun c37 => ?_) (fun c37 => (absurd c37 (by decide)))
        refine k_iload G X at_46 (pc' := 48) rfl rfl ?_
        refine k_istore G X at_48 (pc' := 50) rfl (l' := #[.val (.int p0), .val (.int p1), .val (.int p2), .val (.int p3), .val (.int (1 : Int32)), .val (.int (0 : Int32)), .val (.int (0 : Int32)), .val (.int (1 : Int32)), .unset, .unset, .unset, .unset, .unset, .unset, .unset, .unset, .unset]) rfl ?_
        refine k_iloadN G X at_50 (pc' := 51) rfl rfl ?_
        refine k_i2b G X at_51 (pc' := 52) rfl rfl ?_
        refine k_istore G X at_52 (pc' := 54) rfl (l' := #[.val (.int p0), .val (.int p1), .val (.int p2), .val (.int p3), .val (.int (1 : Int32)), .val (.int (0 : Int32)), .val (.int (0 : Int32)), .val (.int (1 : Int32)), .val (.int (p0.toInt8.toInt32)), .unset, .unset, .unset, .unset, .unset, .unset, .unset, .unset]) rfl ?_
        refine k_iloadN G X at_54 (pc' := 55) rfl rfl ?_
        refine k_i2b G X at_55 (pc' := 56) rfl rfl ?_
        refine k_istore G X at_56 (pc' := 58) rfl (l' := #[.val (.int p0), .val (.int p1), .val (.int p2), .val (.int p3), .val (.int (1 : Int32)), .val (.int (0 : Int32)), .val (.int (0 : Int32)), .val (.int (1 : Int32)), .val (.int (p0.toInt8.toInt32)), .val (.int (p1.toInt8.toInt32)), .unset, .unset, .unset, .unset, .unset, .unset, .unset]) rfl ?_
        refine k_iloadN G X at_58 (pc' := 59) rfl rfl ?_
        refine k_i2b G X at_59 (pc' := 60) rfl rfl ?_
        refine k_istore G X at_60 (pc' := 62) rfl (l' := #[.val (.int p0), .val (.int p1), .val (.int p2), .val (.int p3), .val (.int (1 : Int32)), .val (.int (0 : Int32)), .val (.int (0 : Int32)), .val (.int (1 : Int32)), .val (.int (p0.toInt8.toInt32)), .val (.int (p1.toInt8.toInt32)), .val (.int (p2.toInt8.toInt32)), .unset, .unset, .unset, .unset, .unset, .unset]) rfl ?_
        refine k_iload G X at_62 (pc' := 64) rfl rfl ?_
        refine k_newP G X (aty := .byte) (n := 1) (cap := 1) (w0 hw) at_64 (pc' := 66) rfl rfl (by decide) (by decide) (by decide) (by decide) (fun T h64 b64 k64 s_b64 E64 A_b64 X => ?_)
        have ne_aED_b64 : aED ≠ b64 := Nat.ne_of_lt (Nat.lt_of_lt_of_eq EED.lt s_b64)
        have ne_aDo_b64 : aDo ≠ b64 := Nat.ne_of_lt (Nat.lt_of_lt_of_eq EDo.lt s_b64)
        have ne_aEA_b64 : aEA ≠ b64 := Nat.ne_of_lt (Nat.lt_of_lt_of_eq EEA.lt s_b64)
        have ne_aAr_b64 : aAr ≠ b64 := Nat.ne_of_lt (Nat.lt_of_lt_of_eq EAr.lt s_b64)
        have ge_b64 : n0 ≤ b64 := Nat.le_trans (Jvm.OwnK.Old_le O) (Nat.le_of_eq s_b64)
        replace O := O.ext E64
        replace S_ED := S_ED.ext E64
        replace S_Do := S_Do.ext E64
        replace S_EA := S_EA.ext E64
        replace S_Ar := S_Ar.ext E64
        replace EED := EED.ext E64
        replace EDo := EDo.ext E64
        replace EEA := EEA.ext E64
        replace EAr := EAr.ext E64
        replace OED := OED.ext E64
        replace OEA := OEA.ext E64
        replace A_b64 : Arf Z h64 b64 k64 .byte 1 (fun _ => (.int (0 : Int32))) := A_b64
        refine k_astore G X at_66 (pc' := 68) rfl rfl (l' := #[.val (.int p0), .val (.int p1), .val (.int p2), .val (.int p3), .val (.int (1 : Int32)), .val (.int (0 : Int32)), .val (.int (0 : Int32)), .val (.int (1 : Int32)), .val (.int (p0.toInt8.toInt32)), .val (.int (p1.toInt8.toInt32)), .val (.int (p2.toInt8.toInt32)), .val (.ref b64), .unset, .unset, .unset, .unset, .unset]) rfl ?_
        refine k_iload G X at_68 (pc' := 70) rfl rfl ?_
        refine k_iconst G X at_70 (pc' := 71) rfl (z := (1 : Int32)) (by decide) ?_
        refine k_icmp_lt G X at_71 (pc' := 80) rfl (by decide) (pc'' := 74) rfl (fun c71 => (absurd c71 (by decide))) (fun c71 => ?_)
        refine k_aload G X at_74 (pc' := 76) rfl rfl rfl ?_
        refine k_iconst G X at_76 (pc' := 77) rfl (z := (0 : Int32)) (by decide) ?_
        refine k_iload G X at_77 (pc' := 79) rfl rfl ?_
        refine k_bastore G X (i := 0) (z := (p0.toInt8.toInt32)) A_b64 rfl (by decide) (by simp [nar]) ge_b64 at_79 (pc' := 80) rfl (fun T h79 W79 A_b64 X => ?_)
        replace O := O.wr W79 ge_b64
        replace S_ED := S_ED.wr W79
        replace S_Do := S_Do.wr W79
        replace S_EA := S_EA.wr W79
        replace S_Ar := S_Ar.wr W79
        replace EED := EED.wr W79
        replace EDo := EDo.wr W79
        replace EEA := EEA.wr W79
        replace EAr := EAr.wr W79
        replace OED := OED.other W79 (Or.inl ne_aED_b64)
        replace OEA := OEA.other W79 (Or.inl ne_aEA_b64)
        refine k_iload G X at_80 (pc' := 82) rfl rfl ?_
        refine k_iconst G X at_82 (pc' := 83) rfl (z := (2 : Int32)) (by decide) ?_
        refine k_icmp_lt G X at_83 (pc' := 92) rfl (by decide) (pc'' := 86) rfl (fun c83 => ?_) (fun c83 => (absurd c83 (by decide)))
        refine k_iload G X at_92 (pc' := 94) rfl rfl ?_
        refine k_iconst G X at_94 (pc' := 95) rfl (z := (3 : Int32)) (by decide) ?_
        refine k_icmp_lt G X at_95 (pc' := 107) rfl (by decide) (pc'' := 98) rfl (fun c95 => ?_) (fun c95 => (absurd c95 (by decide)))
        refine k_new G X (w1 hw) (w2 hw) (w3 hw) at_107 (pc' := 110) rfl (by decide) (by decide) (fun T h107 b107 s_b107 E107 X_b107 D107 X => ?_)
        have ne_aED_b107 : aED ≠ b107 := Nat.ne_of_lt (Nat.lt_of_lt_of_eq EED.lt s_b107)
        have ne_aDo_b107 : aDo ≠ b107 := Nat.ne_of_lt (Nat.lt_of_lt_of_eq EDo.lt s_b107)
        have ne_aEA_b107 : aEA ≠ b107 := Nat.ne_of_lt (Nat.lt_of_lt_of_eq EEA.lt s_b107)
        have ne_aAr_b107 : aAr ≠ b107 := Nat.ne_of_lt (Nat.lt_of_lt_of_eq EAr.lt s_b107)
        have ne_b64_b107 : b64 ≠ b107 := Nat.ne_of_lt (Nat.lt_of_lt_of_eq A_b64.lt s_b107)
        have ge_b107 : n0 ≤ b107 := Nat.le_trans (Jvm.OwnK.Old_le O) (Nat.le_of_eq s_b107)
        replace O := O.ext E107
        replace S_ED := S_ED.ext E107
        replace S_Do := S_Do.ext E107
        replace S_EA := S_EA.ext E107
        replace S_Ar := S_Ar.ext E107
        replace EED := EED.ext E107
        replace EDo := EDo.ext E107
        replace EEA := EEA.ext E107
        replace EAr := EAr.ext E107
        replace OED := OED.ext E107
        replace OEA := OEA.ext E107
        replace A_b64 := A_b64.ext E107
        have F_b107_names : Fld Z h107 b107 "com/example/changeline/changeline/format/JsonOutput" "names" "Ljava/util/Map;" .null := D107 (Or.inr (w33 hw)) (ty := (.object "java/util/Map")) (by decide)
        have F_b107_bytes : Fld Z h107 b107 "com/example/changeline/changeline/format/JsonOutput" "bytes" "[B" .null := D107 (Or.inl (w35 hw)) (ty := (.array .byte)) (by decide)
        have F_b107_scopes : Fld Z h107 b107 "com/example/changeline/changeline/format/JsonOutput" "scopes" "[Lcom/example/changeline/changeline/format/JsonOutput$Scope;" .null := D107 (Or.inl (w39 hw)) (ty := (.array (.object "com/example/changeline/changeline/format/JsonOutput$Scope"))) (by decide)
        have F_b107_depth : Fld Z h107 b107 "com/example/changeline/changeline/format/JsonOutput" "depth" "I" (.int (0 : Int32)) := D107 (Or.inl (w41 hw)) (ty := .int) (by decide)
        have F_b107_length : Fld Z h107 b107 "com/example/changeline/changeline/format/JsonOutput" "length" "I" (.int (0 : Int32)) := D107 (Or.inl (w71 hw)) (ty := .int) (by decide)
        refine k_dup G X at_110 (pc' := 111) rfl rfl ?_
        refine k_callI G X (argsL := []) (rest := [(.ref b107)]) rfl rfl (w4 hw) (w5 hw) (w3 hw) (w6 hw) (by decide) (jo_init hw b107 aED h107 n0 ge_b107 O X_b107 F_b107_names F_b107_bytes F_b107_length F_b107_scopes F_b107_depth S_ED EED) at_111 pd0 rfl (pc' := 114) rfl rfl (wd := 1) rfl (by decide) (by decide) (by decide) (by decide) (fun T h111 v X q => ?_)
        obtain ⟨rfl, K111, E', b, sc, kb, ks, sz_b, sz_sc, ne_b_sc, FB, FL, FS, FD, BA, SCA, SO⟩ := q
        have ne_aED_b : aED ≠ b := Nat.ne_of_lt (Nat.lt_of_lt_of_le EED.lt sz_b)
        have ne_aED_sc : aED ≠ sc := Nat.ne_of_lt (Nat.lt_of_lt_of_le EED.lt sz_sc)
        have ne_aDo_b : aDo ≠ b := Nat.ne_of_lt (Nat.lt_of_lt_of_le EDo.lt sz_b)
        have ne_aDo_sc : aDo ≠ sc := Nat.ne_of_lt (Nat.lt_of_lt_of_le EDo.lt sz_sc)
        have ne_aEA_b : aEA ≠ b := Nat.ne_of_lt (Nat.lt_of_lt_of_le EEA.lt sz_b)
        have ne_aEA_sc : aEA ≠ sc := Nat.ne_of_lt (Nat.lt_of_lt_of_le EEA.lt sz_sc)
        have ne_aAr_b : aAr ≠ b := Nat.ne_of_lt (Nat.lt_of_lt_of_le EAr.lt sz_b)
        have ne_aAr_sc : aAr ≠ sc := Nat.ne_of_lt (Nat.lt_of_lt_of_le EAr.lt sz_sc)
        have ne_b64_b : b64 ≠ b := Nat.ne_of_lt (Nat.lt_of_lt_of_le A_b64.lt sz_b)
        have ne_b64_sc : b64 ≠ sc := Nat.ne_of_lt (Nat.lt_of_lt_of_le A_b64.lt sz_sc)
        have ne_o_b : b107 ≠ b := Nat.ne_of_lt (Nat.lt_of_lt_of_le X_b107.lt sz_b)
        have ge_b : n0 ≤ b := Nat.le_trans (Old_le O) sz_b
        have ne_o_sc : b107 ≠ sc := Nat.ne_of_lt (Nat.lt_of_lt_of_le X_b107.lt sz_sc)
        have ge_sc : n0 ≤ sc := Nat.le_trans (Old_le O) sz_sc
        replace S_ED := Sta_keepL S_ED K111 (allS (Pln_exa X_b107) (all0))
        replace S_Do := Sta_keepL S_Do K111 (allS (Pln_exa X_b107) (all0))
        replace S_EA := Sta_keepL S_EA K111 (allS (Pln_exa X_b107) (all0))
        replace S_Ar := Sta_keepL S_Ar K111 (allS (Pln_exa X_b107) (all0))
        replace O := O.keep K111 (allS ge_b107 (all0))
        replace EED := EED.keep K111
        replace EDo := EDo.keep K111
        replace EEA := EEA.keep K111
        replace EAr := EAr.keep K111
        replace OED := OED.keep K111 (by simp only [List.mem_cons, List.not_mem_nil, or_false, not_or]; exact ne_aED_b107)
        replace OEA := OEA.keep K111 (by simp only [List.mem_cons, List.not_mem_nil, or_false, not_or]; exact ne_aEA_b107)
        replace A_b64 := A_b64.keep K111 (by simp only [List.mem_cons, List.not_mem_nil, or_false, not_or]; exact ne_b64_b107)
        replace X_b107 := X_b107.keep K111
        show Go Γ n0 _ T (mkF Γ.m 114 #[.val (.int p0), .val (.int p1), .val (.int p2), .val (.int p3), .val (.int (1 : Int32)), .val (.int (0 : Int32)), .val (.int (0 : Int32)), .val (.int (1 : Int32)), .val (.int (p0.toInt8.toInt32)), .val (.int (p1.toInt8.toInt32)), .val (.int (p2.toInt8.toInt32)), .val (.ref b64), .unset, .unset, .unset, .unset, .unset] [(.ref b107)])
        refine k_astore G X at_114 (pc' := 116) rfl rfl (l' := #[.val (.int p0), .val (.int p1), .val (.int p2), .val (.int p3), .val (.int (1 : Int32)), .val (.int (0 : Int32)), .val (.int (0 : Int32)), .val (.int (1 : Int32)), .val (.int (p0.toInt8.toInt32)), .val (.int (p1.toInt8.toInt32)), .val (.int (p2.toInt8.toInt32)), .val (.ref b64), .val (.ref b107), .unset, .unset, .unset, .unset]) rfl ?_
        refine k_iload G X at_116 (pc' := 118) rfl rfl ?_
        refine k_if_eq G X at_118 (pc' := 127) rfl (by decide) (pc'' := 121) rfl (fun c118 => ?_) (fun c118 => (absurd c118 (by decide)))
        refine k_aload G X at_127 (pc' := 129) rfl rfl rfl ?_
        refine k_aload G X at_129 (pc' := 131) rfl rfl rfl ?_
        refine k_callV G X (argsL := [(.ref b64)]) (rest := []) rfl X_b107 (w46 hw) (w47 hw) (nf_sel (w49 hw)) (w49 hw) (w48 hw) (w3 hw) (w50 hw) (by decide) (jv00 hw b107 b b64 sc aED aDo kb k64 ks 0 1 512 (0 : Int32) (1 : Int32) (1 : Int32) (512 : Int32) _ _ _ h111 n0 ge_b107 ge_sc O X_b107 FB FL FS FD SCA SO ne_o_sc rfl rfl rfl rfl ge_b BA A_b64 EED OED EDo S_Do rfl ne_aED_sc ne_o_b.symm ne_b64_b107 ne_b64_b ne_b_sc ne_b64_sc (by decide)) at_131 pd9 rfl (pc' := 134) rfl rfl (wd := 0) rfl (by decide) (by decide) (by decide) (by decide) (fun T h131 v X q => ?_)
        obtain ⟨rfl, K131, E', SCA', FB', FL', FS', FD', BA'⟩ := q
        replace S_ED := Sta_keepL S_ED K131 (allS (Pln_arf SCA) (allS (Pln_exa X_b107) (allS (Pln_arf BA) (all0))))
        replace S_Do := Sta_keepL S_Do K131 (allS (Pln_arf SCA) (allS (Pln_exa X_b107) (allS (Pln_arf BA) (all0))))
        replace S_EA := Sta_keepL S_EA K131 (allS (Pln_arf SCA) (allS (Pln_exa X_b107) (allS (Pln_arf BA) (all0))))
        replace S_Ar := Sta_keepL S_Ar K131 (allS (Pln_arf SCA) (allS (Pln_exa X_b107) (allS (Pln_arf BA) (all0))))
        replace O := O.keep K131 (allS ge_sc (allS ge_b107 (allS ge_b (all0))))
        replace EED := EED.keep K131
        replace EDo := EDo.keep K131
        replace EEA := EEA.keep K131
        replace EAr := EAr.keep K131
        replace X_b107 := X_b107.keep K131
        have FB := FB'
        have FL := FL'
        have FS := FS'
        have FD := FD'
        have BA := BA'
        have SCA := SCA'
        show Go Γ n0 _ T (mkF Γ.m 134 #[.val (.int p0), .val (.int p1), .val (.int p2), .val (.int p3), .val (.int (1 : Int32)), .val (.int (0 : Int32)), .val (.int (0 : Int32)), .val (.int (1 : Int32)), .val (.int (p0.toInt8.toInt32)), .val (.int (p1.toInt8.toInt32)), .val (.int (p2.toInt8.toInt32)), .val (.ref b64), .val (.ref b107), .unset, .unset, .unset, .unset] [(.ref b107)])
        refine k_pop G X at_134 (pc' := 135) rfl rfl ?_
        refine k_iload G X at_135 (pc' := 137) rfl rfl ?_
        refine k_if_eq G X at_137 (pc' := 146) rfl (by decide) (pc'' := 140) rfl (fun c137 => ?_) (fun c137 => (absurd c137 (by decide)))
        refine k_iload G X at_146 (pc' := 148) rfl rfl ?_
        refine k_if_eq G X at_148 (pc' := 155) rfl (by decide) (pc'' := 151) rfl (fun c148 => ?_) (fun c148 => (absurd c148 (by decide)))
        refine k_iconst G X at_155 (pc' := 156) rfl (z := (0 : Int32)) (by decide) ?_
        refine k_istore G X at_156 (pc' := 158) rfl (l' := #[.val (.int p0), .val (.int p1), .val (.int p2), .val (.int p3), .val (.int (1 : Int32)), .val (.int (0 : Int32)), .val (.int (0 : Int32)), .val (.int (1 : Int32)), .val (.int (p0.toInt8.toInt32)), .val (.int (p1.toInt8.toInt32)), .val (.int (p2.toInt8.toInt32)), .val (.ref b64), .val (.ref b107), .val (.int (0 : Int32)), .unset, .unset, .unset]) rfl ?_
        refine k_aload G X at_158 (pc' := 160) rfl rfl rfl ?_
        refine k_callV G X (argsL := []) (rest := []) rfl X_b107 (w80 hw) (w81 hw) (nf_sel (w83 hw)) (w83 hw) (w82 hw) (w3 hw) (w84 hw) (by decide) (toB hw b107 b kb 1 512 (1 : Int32) (512 : Int32) _ h131 n0 O FB FL rfl rfl (by decide) (by decide) BA) at_160 pd10 rfl (pc' := 163) rfl rfl (wd := 0) rfl (by decide) (by decide) (by decide) (by decide) (fun T h160 v X q => ?_)
        obtain ⟨r160, kr160, rfl, sz_r160, K160, R160⟩ := q
        have ge_r160 : n0 ≤ r160 := Nat.le_trans (Old_le O) sz_r160
        have ne_aED_r160 : aED ≠ r160 := Nat.ne_of_lt (Nat.lt_of_lt_of_le EED.lt sz_r160)
        have ne_aDo_r160 : aDo ≠ r160 := Nat.ne_of_lt (Nat.lt_of_lt_of_le EDo.lt sz_r160)
        have ne_aEA_r160 : aEA ≠ r160 := Nat.ne_of_lt (Nat.lt_of_lt_of_le EEA.lt sz_r160)
        have ne_aAr_r160 : aAr ≠ r160 := Nat.ne_of_lt (Nat.lt_of_lt_of_le EAr.lt sz_r160)
        have ne_b107_r160 : b107 ≠ r160 := Nat.ne_of_lt (Nat.lt_of_lt_of_le X_b107.lt sz_r160)
        have ne_b_r160 : b ≠ r160 := Nat.ne_of_lt (Nat.lt_of_lt_of_le BA.lt sz_r160)
        have ne_sc_r160 : sc ≠ r160 := Nat.ne_of_lt (Nat.lt_of_lt_of_le SCA.lt sz_r160)
        replace S_ED := Jvm.OwnK.Sta_keep S_ED K160
        replace S_Do := Jvm.OwnK.Sta_keep S_Do K160
        replace S_EA := Jvm.OwnK.Sta_keep S_EA K160
        replace S_Ar := Jvm.OwnK.Sta_keep S_Ar K160
        replace O := O.keep K160 (all0)
        replace EED := EED.keep K160
        replace EDo := EDo.keep K160
        replace EEA := EEA.keep K160
        replace EAr := EAr.keep K160
        replace X_b107 := X_b107.keep K160
        replace FB := FB.keep K160 nin0
        replace FL := FL.keep K160 nin0
        replace FS := FS.keep K160 nin0
        replace FD := FD.keep K160 nin0
        replace BA := BA.keep K160 nin0
        replace SCA := SCA.keep K160 nin0
        show Go Γ n0 _ T (mkF Γ.m 163 #[.val (.int p0), .val (.int p1), .val (.int p2), .val (.int p3), .val (.int (1 : Int32)), .val (.int (0 : Int32)), .val (.int (0 : Int32)), .val (.int (1 : Int32)), .val (.int (p0.toInt8.toInt32)), .val (.int (p1.toInt8.toInt32)), .val (.int (p2.toInt8.toInt32)), .val (.ref b64), .val (.ref b107), .val (.int (0 : Int32)), .unset, .unset, .unset] [(.ref r160)])
        refine k_astore G X at_163 (pc' := 165) rfl rfl (l' := #[.val (.int p0), .val (.int p1), .val (.int p2), .val (.int p3), .val (.int (1 : Int32)), .val (.int (0 : Int32)), .val (.int (0 : Int32)), .val (.int (1 : Int32)), .val (.int (p0.toInt8.toInt32)), .val (.int (p1.toInt8.toInt32)), .val (.int (p2.toInt8.toInt32)), .val (.ref b64), .val (.ref b107), .val (.int (0 : Int32)), .val (.ref r160), .unset, .unset]) rfl ?_
        refine k_aload G X at_165 (pc' := 167) rfl rfl rfl ?_
        refine k_iload G X at_167 (pc' := 169) rfl rfl ?_
        refine k_iload G X at_169 (pc' := 171) rfl rfl ?_
        refine k_iload G X at_171 (pc' := 173) rfl rfl ?_
        refine k_iload G X at_173 (pc' := 175) rfl rfl ?_
        refine k_iload G X at_175 (pc' := 177) rfl rfl ?_
        refine k_iload G X at_177 (pc' := 179) rfl rfl ?_
        refine k_callS G X (argsL := [(.ref r160), (.int (1 : Int32)), (.int (0 : Int32)), (.int (p0.toInt8.toInt32)), (.int (p1.toInt8.toInt32)), (.int (p2.toInt8.toInt32)), (.int (0 : Int32))]) (rest := []) rfl (w94 hw) (w95 hw) (w96 hw) (w97 hw) (by decide) (chk_1_0 hw r160 kr160 _ (p0.toInt8.toInt32) (p1.toInt8.toInt32) (p2.toInt8.toInt32) h160 n0 R160 (by rfl)) at_179 pd11 rfl (pc' := 182) rfl rfl (wd := 0) rfl (by decide) (by decide) (by decide) (by decide) (fun T h179 v X q => ?_)
        obtain ⟨rfl, e179⟩ := q
        replace X := X.eq e179
        show Go Γ n0 _ T (mkF Γ.m 182 #[.val (.int p0), .val (.int p1), .val (.int p2), .val (.int p3), .val (.int (1 : Int32)), .val (.int (0 : Int32)), .val (.int (0 : Int32)), .val (.int (1 : Int32)), .val (.int (p0.toInt8.toInt32)), .val (.int (p1.toInt8.toInt32)), .val (.int (p2.toInt8.toInt32)), .val (.ref b64), .val (.ref b107), .val (.int (0 : Int32)), .val (.ref r160), .unset, .unset] [(.int (1 : Int32))])
        refine k_istore G X at_182 (pc' := 184) rfl (l' := #[.val (.int p0), .val (.int p1), .val (.int p2), .val (.int p3), .val (.int (1 : Int32)), .val (.int (0 : Int32)), .val (.int (0 : Int32)), .val (.int (1 : Int32)), .val (.int (p0.toInt8.toInt32)), .val (.int (p1.toInt8.toInt32)), .val (.int (p2.toInt8.toInt32)), .val (.ref b64), .val (.ref b107), .val (.int (0 : Int32)), .val (.ref r160), .val (.int (1 : Int32)), .unset]) rfl ?_
        refine k_aload G X at_184 (pc' := 186) rfl rfl rfl ?_
        refine k_alen G X (z := (1 : Int32)) R160 rfl at_186 (pc' := 187) rfl ?_
        refine k_if_le G X at_187 (pc' := 201) rfl (by decide) (pc'' := 190) rfl (fun c187 => (absurd c187 (by decide))) (fun c187 => ?_)
        refine k_aload G X at_190 (pc' := 192) rfl rfl rfl ?_
        refine k_iconst G X at_192 (pc' := 193) rfl (z := (0 : Int32)) (by decide) ?_
        refine k_aload G X at_193 (pc' := 195) rfl rfl rfl ?_
        refine k_iconst G X at_195 (pc' := 196) rfl (z := (0 : Int32)) (by decide) ?_
        refine k_baload G X (i := 0) (v := (.int (p0.toInt8.toInt32))) R160 rfl (by decide) (by rfl) at_196 (pc' := 197) rfl ?_
        refine k_iconst G X at_197 (pc' := 198) rfl (z := (1 : Int32)) (by decide) ?_
        refine k_ixor G X at_198 (pc' := 199) rfl rfl ?_
        refine k_i2b G X at_199 (pc' := 200) rfl rfl ?_
        refine k_bastore G X (i := 0) (z := ((((p0.toInt8.toInt32) ^^^ (1 : Int32)).toInt8.toInt32))) R160 rfl (by decide) (by simp [nar]) ge_r160 at_200 (pc' := 201) rfl (fun T h200 W200 R160 X => ?_)
        replace O := O.wr W200 ge_r160
        replace S_ED := S_ED.wr W200
        replace S_Do := S_Do.wr W200
        replace S_EA := S_EA.wr W200
        replace S_Ar := S_Ar.wr W200
        replace EED := EED.wr W200
        replace EDo := EDo.wr W200
        replace EEA := EEA.wr W200
        replace EAr := EAr.wr W200
        replace X_b107 := X_b107.wr W200
        replace FB := FB.other W200 (Or.inl ne_b107_r160)
        replace FL := FL.other W200 (Or.inl ne_b107_r160)
        replace FS := FS.other W200 (Or.inl ne_b107_r160)
        replace FD := FD.other W200 (Or.inl ne_b107_r160)
        replace BA := BA.other W200 ne_b_r160
        replace SCA := SCA.other W200 ne_sc_r160
        refine k_aload G X at_201 (pc' := 203) rfl rfl rfl ?_
        refine k_callV G X (argsL := []) (rest := []) rfl X_b107 (w80 hw) (w81 hw) (nf_sel (w83 hw)) (w83 hw) (w82 hw) (w3 hw) (w84 hw) (by decide) (toB hw b107 b kb 1 512 (1 : Int32) (512 : Int32) _ h200 n0 O FB FL rfl rfl (by decide) (by decide) BA) at_203 pd10 rfl (pc' := 206) rfl rfl (wd := 0) rfl (by decide) (by decide) (by decide) (by decide) (fun T h203 v X q => ?_)
        obtain ⟨r203, kr203, rfl, sz_r203, K203, R203⟩ := q
        have ge_r203 : n0 ≤ r203 := Nat.le_trans (Old_le O) sz_r203
        replace S_ED := Jvm.OwnK.Sta_keep S_ED K203
        replace S_Do := Jvm.OwnK.Sta_keep S_Do K203
        replace S_EA := Jvm.OwnK.Sta_keep S_EA K203
        replace S_Ar := Jvm.OwnK.Sta_keep S_Ar K203
        replace O := O.keep K203 (all0)
        replace EED := EED.keep K203
        replace EDo := EDo.keep K203
        replace EEA := EEA.keep K203
        replace EAr := EAr.keep K203
        replace X_b107 := X_b107.keep K203
        replace FB := FB.keep K203 nin0
        replace FL := FL.keep K203 nin0
        replace FS := FS.keep K203 nin0
        replace FD := FD.keep K203 nin0
        replace BA := BA.keep K203 nin0
        replace SCA := SCA.keep K203 nin0
        replace R160 := R160.keep K203 nin0
        show Go Γ n0 _ T (mkF Γ.m 206 #[.val (.int p0), .val (.int p1), .val (.int p2), .val (.int p3), .val (.int (1 : Int32)), .val (.int (0 : Int32)), .val (.int (0 : Int32)), .val (.int (1 : Int32)), .val (.int (p0.toInt8.toInt32)), .val (.int (p1.toInt8.toInt32)), .val (.int (p2.toInt8.toInt32)), .val (.ref b64), .val (.ref b107), .val (.int (0 : Int32)), .val (.ref r160), .val (.int (1 : Int32)), .unset] [(.ref r203)])
        refine k_astore G X at_206 (pc' := 208) rfl rfl (l' := #[.val (.int p0), .val (.int p1), .val (.int p2), .val (.int p3), .val (.int (1 : Int32)), .val (.int (0 : Int32)), .val (.int (0 : Int32)), .val (.int (1 : Int32)), .val (.int (p0.toInt8.toInt32)), .val (.int (p1.toInt8.toInt32)), .val (.int (p2.toInt8.toInt32)), .val (.ref b64), .val (.ref b107), .val (.int (0 : Int32)), .val (.ref r160), .val (.int (1 : Int32)), .val (.ref r203)]) rfl ?_
        refine k_iload G X at_208 (pc' := 210) rfl rfl ?_
        refine k_if_eq G X at_210 (pc' := 237) rfl (by decide) (pc'' := 213) rfl (fun c210 => (absurd c210 (by decide))) (fun c210 => ?_)
        refine k_aload G X at_213 (pc' := 215) rfl rfl rfl ?_
        refine k_iload G X at_215 (pc' := 217) rfl rfl ?_
        refine k_iload G X at_217 (pc' := 219) rfl rfl ?_
        refine k_iload G X at_219 (pc' := 221) rfl rfl ?_
        refine k_iload G X at_221 (pc' := 223) rfl rfl ?_
        refine k_iload G X at_223 (pc' := 225) rfl rfl ?_
        refine k_iload G X at_225 (pc' := 227) rfl rfl ?_
        refine k_callS G X (argsL := [(.ref r203), (.int (1 : Int32)), (.int (0 : Int32)), (.int (p0.toInt8.toInt32)), (.int (p1.toInt8.toInt32)), (.int (p2.toInt8.toInt32)), (.int (0 : Int32))]) (rest := []) rfl (w94 hw) (w95 hw) (w96 hw) (w97 hw) (by decide) (chk_1_0 hw r203 kr203 _ (p0.toInt8.toInt32) (p1.toInt8.toInt32) (p2.toInt8.toInt32) h203 n0 R203 (by rfl)) at_227 pd11 rfl (pc' := 230) rfl rfl (wd := 0) rfl (by decide) (by decide) (by decide) (by decide) (fun T h227 v X q => ?_)
        obtain ⟨rfl, e227⟩ := q
        replace X := X.eq e227
        show Go Γ n0 _ T (mkF Γ.m 230 #[.val (.int p0), .val (.int p1), .val (.int p2), .val (.int p3), .val (.int (1 : Int32)), .val (.int (0 : Int32)), .val (.int (0 : Int32)), .val (.int (1 : Int32)), .val (.int (p0.toInt8.toInt32)), .val (.int (p1.toInt8.toInt32)), .val (.int (p2.toInt8.toInt32)), .val (.ref b64), .val (.ref b107), .val (.int (0 : Int32)), .val (.ref r160), .val (.int (1 : Int32)), .val (.ref r203)] [(.int (1 : Int32))])
        refine k_if_eq G X at_230 (pc' := 237) rfl (by decide) (pc'' := 233) rfl (fun c230 => (absurd c230 (by decide))) (fun c230 => ?_)
        refine k_iconst G X at_233 (pc' := 234) rfl (z := (1 : Int32)) (by decide) ?_
        refine k_goto G X at_234 (by decide) (pc' := 238) rfl ?_
        refine k_retb G X at_238 (t := .boolean) rfl (by simp) rfl ?_ (by decide) (by decide)
        rfl
      · refine k_iconst G X at_28 (pc' := 29) rfl (z := (1 : Int32)) (by decide) ?_
        refine k_goto G X at_29 (by decide) (pc' := 33) rfl ?_
        refine k_istore G X at_33 (pc' := 35) rfl (l' := #[.val (.int p0), .val (.int p1), .val (.int p2), .val (.int p3), .val (.int (1 : Int32)), .val (.int (0 : Int32)), .val (.int (1 : Int32)), .unset, .unset, .unset, .unset, .unset, .unset, .unset, .unset, .unset, .unset]) rfl ?_
        refine k_iload G X at_35 (pc' := 37) rfl rfl ?_
        refine k_if_eq G X at_37 (pc' := 46) rfl (by decide) (pc'' := 40) rfl (fun c37 => (absurd c37 (by decide))) (fun c37 => ?_)
        refine k_sipush G X at_40 (pc' := 43) rfl (z := (600 : Int32)) (by decide) ?_
        refine k_goto G X at_43 (by decide) (pc' := 48) rfl ?_
        refine k_istore G X at_48 (pc' := 50) rfl (l' := #[.val (.int p0), .val (.int p1), .val (.int p2), .val (.int p3), .val (.int (1 : Int32)), .val (.int (0 : Int32)), .val (.int (1 : Int32)), .val (.int (600 : Int32)), .unset, .unset, .unset, .unset, .unset, .unset, .unset, .unset, .unset]) rfl ?_
        refine k_iloadN G X at_50 (pc' := 51) rfl rfl ?_
        refine k_i2b G X at_51 (pc' := 52) rfl rfl ?_
        refine k_istore G X at_52 (pc' := 54) rfl (l' := #[.val (.int p0), .val (.int p1), .val (.int p2), .val (.int p3), .val (.int (1 : Int32)), .val (.int (0 : Int32)), .val (.int (1 : Int32)), .val (.int (600 : Int32)), .val (.int (p0.toInt8.toInt32)), .unset, .unset, .unset, .unset, .unset, .unset, .unset, .unset]) rfl ?_
        refine k_iloadN G X at_54 (pc' := 55) rfl rfl ?_
        refine k_i2b G X at_55 (pc' := 56) rfl rfl ?_
        refine k_istore G X at_56 (pc' := 58) rfl (l' := #[.val (.int p0), .val (.int p1), .val (.int p2), .val (.int p3), .val (.int (1 : Int32)), .val (.int (0 : Int32)), .val (.int (1 : Int32)), .val (.int (600 : Int32)), .val (.int (p0.toInt8.toInt32)), .val (.int (p1.toInt8.toInt32)), .unset, .unset, .unset, .unset, .unset, .unset, .unset]) rfl ?_
        refine k_iloadN G X at_58 (pc' := 59) rfl rfl ?_
        refine k_i2b G X at_59 (pc' := 60) rfl rfl ?_
        refine k_istore G X at_60 (pc' := 62) rfl (l' := #[.val (.int p0), .val (.int p1), .val (.int p2), .val (.int p3), .val (.int (1 : Int32)), .val (.int (0 : Int32)), .val (.int (1 : Int32)), .val (.int (600 : Int32)), .val (.int (p0.toInt8.toInt32)), .val (.int (p1.toInt8.toInt32)), .val (.int (p2.toInt8.toInt32)), .unset, .unset, .unset, .unset, .unset, .unset]) rfl ?_
        refine k_iload G X at_62 (pc' := 64) rfl rfl ?_
        refine k_newP G X (aty := .byte) (n := 600) (cap := 600) (w0 hw) at_64 (pc' := 66) rfl rfl (by decide) (by decide) (by decide) (by decide) (fun T h64 b64 k64 s_b64 E64 A_b64 X => ?_)
        have ne_aED_b64 : aED ≠ b64 := Nat.ne_of_lt (Nat.lt_of_lt_of_eq EED.lt s_b64)
        have ne_aDo_b64 : aDo ≠ b64 := Nat.ne_of_lt (Nat.lt_of_lt_of_eq EDo.lt s_b64)
        have ne_aEA_b64 : aEA ≠ b64 := Nat.ne_of_lt (Nat.lt_of_lt_of_eq EEA.lt s_b64)
        have ne_aAr_b64 : aAr ≠ b64 := Nat.ne_of_lt (Nat.lt_of_lt_of_eq EAr.lt s_b64)
        have ge_b64 : n0 ≤ b64 := Nat.le_trans (Jvm.OwnK.Old_le O) (Nat.le_of_eq s_b64)
        replace O := O.ext E64
        replace S_ED := S_ED.ext E64
        replace S_Do := S_Do.ext E64
        replace S_EA := S_EA.ext E64
        replace S_Ar := S_Ar.ext E64
        replace EED := EED.ext E64
        replace EDo := EDo.ext E64
        replace EEA := EEA.ext E64
        replace EAr := EAr.ext E64
        replace OED := OED.ext E64
        replace OEA := OEA.ext E64
        replace A_b64 : Arf Z h64 b64 k64 .byte 600 (fun _ => (.int (0 : Int32))) := A_b64
        refine k_astore G X at_66 (pc' := 68) rfl rfl (l' := #[.val (.int p0), .val (.int p1), .val (.int p2), .val (.int p3), .val (.int (1 : Int32)), .val (.int (0 : Int32)), .val (.int (1 : Int32)), .val (.int (600 : Int32)), .val (.int (p0.toInt8.toInt32)), .val (.int (p1.toInt8.toInt32)), .val (.int (p2.toInt8.toInt32)), .val (.ref b64), .unset, .unset, .unset, .unset, .unset]) rfl ?_
        refine k_iload G X at_68 (pc' := 70) rfl rfl ?_
        refine k_iconst G X at_70 (pc' := 71) rfl (z := (1 : Int32)) (by decide) ?_
        refine k_icmp_lt G X at_71 (pc' := 80) rfl (by decide) (pc'' := 74) rfl (fun c71 => (absurd c71 (by decide))) (fun c71 => ?_)
        refine k_aload G X at_74 (pc' := 76) rfl rfl rfl ?_
        refine k_iconst G X at_76 (pc' := 77) rfl (z := (0 : Int32)) (by decide) ?_
        refine k_iload G X at_77 (pc' := 79) rfl rfl ?_
        refine k_bastore G X (i := 0) (z := (p0.toInt8.toInt32)) A_b64 rfl (by decide) (by simp [nar]) ge_b64 at_79 (pc' := 80) rfl (fun T h79 W79 A_b64 X => ?_)
        replace O := O.wr W79 ge_b64
        replace S_ED := S_ED.wr W79
        replace S_Do := S_Do.wr W79
        replace S_EA := S_EA.wr W79
        replace S_Ar := S_Ar.wr W79
        replace EED := EED.wr W79
        replace EDo := EDo.wr W79
        replace EEA := EEA.wr W79
        replace EAr := EAr.wr W79
        replace OED := OED.other W79 (Or.inl ne_aED_b64)
        replace OEA := OEA.other W79 (Or.inl ne_aEA_b64)
        refine k_iload G X at_80 (pc' := 82) rfl rfl ?_
        refine k_iconst G X at_82 (pc' := 83) rfl (z := (2 : Int32)) (by decide) ?_
        refine k_icmp_lt G X at_83 (pc' := 92) rfl (by decide) (pc'' := 86) rfl (fun c83 => (absurd c83 (by decide))) (fun c83 => ?_)
        refine k_aload G X at_86 (pc' := 88) rfl rfl rfl ?_
        refine k_iconst G X at_88 (pc' := 89) rfl (z := (1 : Int32)) (by decide) ?_
        refine k_iload G X at_89 (pc' := 91) rfl rfl ?_
        refine k_bastore G X (i := 1) (z := (p1.toInt8.toInt32)) A_b64 rfl (by decide) (by simp [nar]) ge_b64 at_91 (pc' := 92) rfl (fun T h91 W91 A_b64 X => ?_)
        replace O := O.wr W91 ge_b64
        replace S_ED := S_ED.wr W91
        replace S_Do := S_Do.wr W91
        replace S_EA := S_EA.wr W91
        replace S_Ar := S_Ar.wr W91
        replace EED := EED.wr W91
        replace EDo := EDo.wr W91
        replace EEA := EEA.wr W91
        replace EAr := EAr.wr W91
        replace OED := OED.other W91 (Or.inl ne_aED_b64)
        replace OEA := OEA.other W91 (Or.inl ne_aEA_b64)
        refine k_iload G X at_92 (pc' := 94) rfl rfl ?_
        refine k_iconst G X at_94 (pc' := 95) rfl (z := (3 : Int32)) (by decide) ?_
        refine k_icmp_lt G X at_95 (pc' := 107) rfl (by decide) (pc'' := 98) rfl (fun c95 => (absurd c95 (by decide))) (fun c95 => ?_)
        refine k_aload G X at_98 (pc' := 100) rfl rfl rfl ?_
        refine k_iload G X at_100 (pc' := 102) rfl rfl ?_
        refine k_iconst G X at_102 (pc' := 103) rfl (z := (1 : Int32)) (by decide) ?_
        refine k_isub G X at_103 (pc' := 104) rfl (z := (599 : Int32)) (by decide) ?_
        refine k_iload G X at_104 (pc' := 106) rfl rfl ?_
        refine k_bastore G X (i := 599) (z := (p2.toInt8.toInt32)) A_b64 rfl (by decide) (by simp [nar]) ge_b64 at_106 (pc' := 107) rfl (fun T h106 W106 A_b64 X => ?_)
        replace O := O.wr W106 ge_b64
        replace S_ED := S_ED.wr W106
        replace S_Do := S_Do.wr W106
        replace S_EA := S_EA.wr W106
        replace S_Ar := S_Ar.wr W106
        replace EED := EED.wr W106
        replace EDo := EDo.wr W106
        replace EEA := EEA.wr W106
        replace EAr := EAr.wr W106
        replace OED := OED.other W106 (Or.inl ne_aED_b64)
        replace OEA := OEA.other W106 (Or.inl ne_aEA_b64)
        refine k_new G X (w1 hw) (w2 hw) (w3 hw) at_107 (pc' := 110) rfl (by decide) (by decide) (fun T h107 b107 s_b107 E107 X_b107 D107 X => ?_)
        have ne_aED_b107 : aED ≠ b107 := Nat.ne_of_lt (Nat.lt_of_lt_of_eq EED.lt s_b107)
        have ne_aDo_b107 : aDo ≠ b107 := Nat.ne_of_lt (Nat.lt_of_lt_of_eq EDo.lt s_b107)
        have ne_aEA_b107 : aEA ≠ b107 := Nat.ne_of_lt (Nat.lt_of_lt_of_eq EEA.lt s_b107)
        have ne_aAr_b107 : aAr ≠ b107 := Nat.ne_of_lt (Nat.lt_of_lt_of_eq EAr.lt s_b107)
        have ne_b64_b107 : b64 ≠ b107 := Nat.ne_of_lt (Nat.lt_of_lt_of_eq A_b64.lt s_b107)
        have ge_b107 : n0 ≤ b107 := Nat.le_trans (Jvm.OwnK.Old_le O) (Nat.le_of_eq s_b107)
        replace O := O.ext E107
        replace S_ED := S_ED.ext E107
        replace S_Do := S_Do.ext E107
        replace S_EA := S_EA.ext E107
        replace S_Ar := S_Ar.ext E107
        replace EED := EED.ext E107
        replace EDo := EDo.ext E107
        replace EEA := EEA.ext E107
        replace EAr := EAr.ext E107
        replace OED := OED.ext E107
        replace OEA := OEA.ext E107
        replace A_b64 := A_b64.ext E107
        have F_b107_names : Fld Z h107 b107 "com/example/changeline/changeline/format/JsonOutput" "names" "Ljava/util/Map;" .null := D107 (Or.inr (w33 hw)) (ty := (.object "java/util/Map")) (by decide)
        have F_b107_bytes : Fld Z h107 b107 "com/example/changeline/changeline/format/JsonOutput" "bytes" "[B" .null := D107 (Or.inl (w35 hw)) (ty := (.array .byte)) (by decide)
        have F_b107_scopes : Fld Z h107 b107 "com/example/changeline/changeline/format/JsonOutput" "scopes" "[Lcom/example/changeline/changeline/format/JsonOutput$Scope;" .null := D107 (Or.inl (w39 hw)) (ty := (.array (.object "com/example/changeline/changeline/format/JsonOutput$Scope"))) (by decide)
        have F_b107_depth : Fld Z h107 b107 "com/example/changeline/changeline/format/JsonOutput" "depth" "I" (.int (0 : Int32)) := D107 (Or.inl (w41 hw)) (ty := .int) (by decide)
        have F_b107_length : Fld Z h107 b107 "com/example/changeline/changeline/format/JsonOutput" "length" "I" (.int (0 : Int32)) := D107 (Or.inl (w71 hw)) (ty := .int) (by decide)
        refine k_dup G X at_110 (pc' := 111) rfl rfl ?_
        refine k_callI G X (argsL := []) (rest := [(.ref b107)]) rfl rfl (w4 hw) (w5 hw) (w3 hw) (w6 hw) (by decide) (jo_init hw b107 aED h107 n0 ge_b107 O X_b107 F_b107_names F_b107_bytes F_b107_length F_b107_scopes F_b107_depth S_ED EED) at_111 pd0 rfl (pc' := 114) rfl rfl (wd := 1) rfl (by decide) (by decide) (by decide) (by decide) (fun T h111 v X q => ?_)
        obtain ⟨rfl, K111, E', b, sc, kb, ks, sz_b, sz_sc, ne_b_sc, FB, FL, FS, FD, BA, SCA, SO⟩ := q
        have ne_aED_b : aED ≠ b := Nat.ne_of_lt (Nat.lt_of_lt_of_le EED.lt sz_b)
        have ne_aED_sc : aED ≠ sc := Nat.ne_of_lt (Nat.lt_of_lt_of_le EED.lt sz_sc)
        have ne_aDo_b : aDo ≠ b := Nat.ne_of_lt (Nat.lt_of_lt_of_le EDo.lt sz_b)
        have ne_aDo_sc : aDo ≠ sc := Nat.ne_of_lt (Nat.lt_of_lt_of_le EDo.lt sz_sc)
        have ne_aEA_b : aEA ≠ b := Nat.ne_of_lt (Nat.lt_of_lt_of_le EEA.lt sz_b)
        have ne_aEA_sc : aEA ≠ sc := Nat.ne_of_lt (Nat.lt_of_lt_of_le EEA.lt sz_sc)
        have ne_aAr_b : aAr ≠ b := Nat.ne_of_lt (Nat.lt_of_lt_of_le EAr.lt sz_b)
        have ne_aAr_sc : aAr ≠ sc := Nat.ne_of_lt (Nat.lt_of_lt_of_le EAr.lt sz_sc)
        have ne_b64_b : b64 ≠ b := Nat.ne_of_lt (Nat.lt_of_lt_of_le A_b64.lt sz_b)
        have ne_b64_sc : b64 ≠ sc := Nat.ne_of_lt (Nat.lt_of_lt_of_le A_b64.lt sz_sc)
        have ne_o_b : b107 ≠ b := Nat.ne_of_lt (Nat.lt_of_lt_of_le X_b107.lt sz_b)
        have ge_b : n0 ≤ b := Nat.le_trans (Old_le O) sz_b
        have ne_o_sc : b107 ≠ sc := Nat.ne_of_lt (Nat.lt_of_lt_of_le X_b107.lt sz_sc)
        have ge_sc : n0 ≤ sc := Nat.le_trans (Old_le O) sz_sc
        replace S_ED := Sta_keepL S_ED K111 (allS (Pln_exa X_b107) (all0))
        replace S_Do := Sta_keepL S_Do K111 (allS (Pln_exa X_b107) (all0))
        replace S_EA := Sta_keepL S_EA K111 (allS (Pln_exa X_b107) (all0))
        replace S_Ar := Sta_keepL S_Ar K111 (allS (Pln_exa X_b107) (all0))
        replace O := O.keep K111 (allS ge_b107 (all0))
        replace EED := EED.keep K111
        replace EDo := EDo.keep K111
        replace EEA := EEA.keep K111
        replace EAr := EAr.keep K111
        replace OED := OED.keep K111 (by simp only [List.mem_cons, List.not_mem_nil, or_false, not_or]; exact ne_aED_b107)
        replace OEA := OEA.keep K111 (by simp only [List.mem_cons, List.not_mem_nil, or_false, not_or]; exact ne_aEA_b107)
        replace A_b64 := A_b64.keep K111 (by simp only [List.mem_cons, List.not_mem_nil, or_false, not_or]; exact ne_b64_b107)
        replace X_b107 := X_b107.keep K111
        show Go Γ n0 _ T (mkF Γ.m 114 #[.val (.int p0), .val (.int p1), .val (.int p2), .val (.int p3), .val (.int (1 : Int32)), .val (.int (0 : Int32)), .val (.int (1 : Int32)), .val (.int (600 : Int32)), .val (.int (p0.toInt8.toInt32)), .val (.int (p1.toInt8.toInt32)), .val (.int (p2.toInt8.toInt32)), .val (.ref b64), .unset, .unset, .unset, .unset, .unset] [(.ref b107)])
        refine k_astore G X at_114 (pc' := 116) rfl rfl (l' := #[.val (.int p0), .val (.int p1), .val (.int p2), .val (.int p3), .val (.int (1 : Int32)), .val (.int (0 : Int32)), .val (.int (1 : Int32)), .val (.int (600 : Int32)), .val (.int (p0.toInt8.toInt32)), .val (.int (p1.toInt8.toInt32)), .val (.int (p2.toInt8.toInt32)), .val (.ref b64), .val (.ref b107), .unset, .unset, .unset, .unset]) rfl ?_
        refine k_iload G X at_116 (pc' := 118) rfl rfl ?_
        refine k_if_eq G X at_118 (pc' := 127) rfl (by decide) (pc'' := 121) rfl (fun c118 => ?_) (fun c118 => (absurd c118 (by decide)))
        refine k_aload G X at_127 (pc' := 129) rfl rfl rfl ?_
        refine k_aload G X at_129 (pc' := 131) rfl rfl rfl ?_
        refine k_callV G X (argsL := [(.ref b64)]) (rest := []) rfl X_b107 (w46 hw) (w47 hw) (nf_sel (w49 hw)) (w49 hw) (w48 hw) (w3 hw) (w50 hw) (by decide) (jv01 hw b107 b b64 sc aED aDo kb k64 ks 0 600 (0 : Int32) (600 : Int32) (600 : Int32) _ _ _ h111 n0 ge_b107 ge_sc O X_b107 FB FL FS FD SCA SO ne_o_sc rfl rfl rfl BA A_b64 EED OED EDo S_Do rfl ne_aED_sc ne_o_b.symm ne_b64_b107 ne_b64_b ne_b_sc ne_b64_sc (by decide) (by decide)) at_131 pd9 rfl (pc' := 134) rfl rfl (wd := 0) rfl (by decide) (by decide) (by decide) (by decide) (fun T h131 v X q => ?_)
        obtain ⟨rfl, K131, E', SCA', b', kb', sz_b', FB', FL', FS', FD', BA'⟩ := q
        have ne_o_b' : b107 ≠ b' := Nat.ne_of_lt (Nat.lt_of_lt_of_le X_b107.lt sz_b')
        have ne_sc_b' : sc ≠ b' := Nat.ne_of_lt (Nat.lt_of_lt_of_le SCA.lt sz_b')
        have ge_b' : n0 ≤ b' := Nat.le_trans (Old_le O) sz_b'
        replace S_ED := Sta_keepL S_ED K131 (allS (Pln_arf SCA) (allS (Pln_exa X_b107) (all0)))
        replace S_Do := Sta_keepL S_Do K131 (allS (Pln_arf SCA) (allS (Pln_exa X_b107) (all0)))
        replace S_EA := Sta_keepL S_EA K131 (allS (Pln_arf SCA) (allS (Pln_exa X_b107) (all0)))
        replace S_Ar := Sta_keepL S_Ar K131 (allS (Pln_arf SCA) (allS (Pln_exa X_b107) (all0)))
        replace O := O.keep K131 (allS ge_sc (allS ge_b107 (all0)))
        replace EED := EED.keep K131
        replace EDo := EDo.keep K131
        replace EEA := EEA.keep K131
        replace EAr := EAr.keep K131
        replace X_b107 := X_b107.keep K131
        have FB := FB'
        have FL := FL'
        have FS := FS'
        have FD := FD'
        have BA := BA'
        have SCA := SCA'
        show Go Γ n0 _ T (mkF Γ.m 134 #[.val (.int p0), .val (.int p1), .val (.int p2), .val (.int p3), .val (.int (1 : Int32)), .val (.int (0 : Int32)), .val (.int (1 : Int32)), .val (.int (600 : Int32)), .val (.int (p0.toInt8.toInt32)), .val (.int (p1.toInt8.toInt32)), .val (.int (p2.toInt8.toInt32)), .val (.ref b64), .val (.ref b107), .unset, .unset, .unset, .unset] [(.ref b107)])
        refine k_pop G X at_134 (pc' := 135) rfl rfl ?_
        refine k_iload G X at_135 (pc' := 137) rfl rfl ?_
        refine k_if_eq G X at_137 (pc' := 146) rfl (by decide) (pc'' := 140) rfl (fun c137 => ?_) (fun c137 => (absurd c137 (by decide)))
        refine k_iload G X at_146 (pc' := 148) rfl rfl ?_
        refine k_if_eq G X at_148 (pc' := 155) rfl (by decide) (pc'' := 151) rfl (fun c148 => ?_) (fun c148 => (absurd c148 (by decide)))
        refine k_iconst G X at_155 (pc' := 156) rfl (z := (0 : Int32)) (by decide) ?_
        refine k_istore G X at_156 (pc' := 158) rfl (l' := #[.val (.int p0), .val (.int p1), .val (.int p2), .val (.int p3), .val (.int (1 : Int32)), .val (.int (0 : Int32)), .val (.int (1 : Int32)), .val (.int (600 : Int32)), .val (.int (p0.toInt8.toInt32)), .val (.int (p1.toInt8.toInt32)), .val (.int (p2.toInt8.toInt32)), .val (.ref b64), .val (.ref b107), .val (.int (0 : Int32)), .unset, .unset, .unset]) rfl ?_
        refine k_aload G X at_158 (pc' := 160) rfl rfl rfl ?_
        refine k_callV G X (argsL := []) (rest := []) rfl X_b107 (w80 hw) (w81 hw) (nf_sel (w83 hw)) (w83 hw) (w82 hw) (w3 hw) (w84 hw) (by decide) (toB hw b107 b' kb' 600 1024 (600 : Int32) (1024 : Int32) _ h131 n0 O FB FL rfl rfl (by decide) (by decide) BA) at_160 pd10 rfl (pc' := 163) rfl rfl (wd := 0) rfl (by decide) (by decide) (by decide) (by decide) (fun T h160 v X q => ?_)
        obtain ⟨r160, kr160, rfl, sz_r160, K160, R160⟩ := q
        have ge_r160 : n0 ≤ r160 := Nat.le_trans (Old_le O) sz_r160
        have ne_aED_r160 : aED ≠ r160 := Nat.ne_of_lt (Nat.lt_of_lt_of_le EED.lt sz_r160)
        have ne_aDo_r160 : aDo ≠ r160 := Nat.ne_of_lt (Nat.lt_of_lt_of_le EDo.lt sz_r160)
        have ne_aEA_r160 : aEA ≠ r160 := Nat.ne_of_lt (Nat.lt_of_lt_of_le EEA.lt sz_r160)
        have ne_aAr_r160 : aAr ≠ r160 := Nat.ne_of_lt (Nat.lt_of_lt_of_le EAr.lt sz_r160)
        have ne_b107_r160 : b107 ≠ r160 := Nat.ne_of_lt (Nat.lt_of_lt_of_le X_b107.lt sz_r160)
        have ne_b'_r160 : b' ≠ r160 := Nat.ne_of_lt (Nat.lt_of_lt_of_le BA.lt sz_r160)
        have ne_sc_r160 : sc ≠ r160 := Nat.ne_of_lt (Nat.lt_of_lt_of_le SCA.lt sz_r160)
        replace S_ED := Jvm.OwnK.Sta_keep S_ED K160
        replace S_Do := Jvm.OwnK.Sta_keep S_Do K160
        replace S_EA := Jvm.OwnK.Sta_keep S_EA K160
        replace S_Ar := Jvm.OwnK.Sta_keep S_Ar K160
        replace O := O.keep K160 (all0)
        replace EED := EED.keep K160
        replace EDo := EDo.keep K160
        replace EEA := EEA.keep K160
        replace EAr := EAr.keep K160
        replace X_b107 := X_b107.keep K160
        replace FB := FB.keep K160 nin0
        replace FL := FL.keep K160 nin0
        replace FS := FS.keep K160 nin0
        replace FD := FD.keep K160 nin0
        replace BA := BA.keep K160 nin0
        replace SCA := SCA.keep K160 nin0
        show Go Γ n0 _ T (mkF Γ.m 163 #[.val (.int p0), .val (.int p1), .val (.int p2), .val (.int p3), .val (.int (1 : Int32)), .val (.int (0 : Int32)), .val (.int (1 : Int32)), .val (.int (600 : Int32)), .val (.int (p0.toInt8.toInt32)), .val (.int (p1.toInt8.toInt32)), .val (.int (p2.toInt8.toInt32)), .val (.ref b64), .val (.ref b107), .val (.int (0 : Int32)), .unset, .unset, .unset] [(.ref r160)])
        refine k_astore G X at_163 (pc' := 165) rfl rfl (l' := #[.val (.int p0), .val (.int p1), .val (.int p2), .val (.int p3), .val (.int (1 : Int32)), .val (.int (0 : Int32)), .val (.int (1 : Int32)), .val (.int (600 : Int32)), .val (.int (p0.toInt8.toInt32)), .val (.int (p1.toInt8.toInt32)), .val (.int (p2.toInt8.toInt32)), .val (.ref b64), .val (.ref b107), .val (.int (0 : Int32)), .val (.ref r160), .unset, .unset]) rfl ?_
        refine k_aload G X at_165 (pc' := 167) rfl rfl rfl ?_
        refine k_iload G X at_167 (pc' := 169) rfl rfl ?_
        refine k_iload G X at_169 (pc' := 171) rfl rfl ?_
        refine k_iload G X at_171 (pc' := 173) rfl rfl ?_
        refine k_iload G X at_173 (pc' := 175) rfl rfl ?_
        refine k_iload G X at_175 (pc' := 177) rfl rfl ?_
        refine k_iload G X at_177 (pc' := 179) rfl rfl ?_
        refine k_callS G X (argsL := [(.ref r160), (.int (600 : Int32)), (.int (0 : Int32)), (.int (p0.toInt8.toInt32)), (.int (p1.toInt8.toInt32)), (.int (p2.toInt8.toInt32)), (.int (1 : Int32))]) (rest := []) rfl (w94 hw) (w95 hw) (w96 hw) (w97 hw) (by decide) (chk_600_0 hw r160 kr160 _ (p0.toInt8.toInt32) (p1.toInt8.toInt32) (p2.toInt8.toInt32) h160 n0 R160 (by rfl) (by rfl) (by rfl) (by rfl)) at_179 pd11 rfl (pc' := 182) rfl rfl (wd := 0) rfl (by decide) (by decide) (by decide) (by decide) (fun T h179 v X q => ?_)
        obtain ⟨rfl, e179⟩ := q
        replace X := X.eq e179
        show Go Γ n0 _ T (mkF Γ.m 182 #[.val (.int p0), .val (.int p1), .val (.int p2), .val (.int p3), .val (.int (1 : Int32)), .val (.int (0 : Int32)), .val (.int (1 : Int32)), .val (.int (600 : Int32)), .val (.int (p0.toInt8.toInt32)), .val (.int (p1.toInt8.toInt32)), .val (.int (p2.toInt8.toInt32)), .val (.ref b64), .val (.ref b107), .val (.int (0 : Int32)), .val (.ref r160), .unset, .unset] [(.int (1 : Int32))])
        refine k_istore G X at_182 (pc' := 184) rfl (l' := #[.val (.int p0), .val (.int p1), .val (.int p2), .val (.int p3), .val (.int (1 : Int32)), .val (.int (0 : Int32)), .val (.int (1 : Int32)), .val (.int (600 : Int32)), .val (.int (p0.toInt8.toInt32)), .val (.int (p1.toInt8.toInt32)), .val (.int (p2.toInt8.toInt32)), .val (.ref b64), .val (.ref b107), .val (.int (0 : Int32)), .val (.ref r160), .val (.int (1 : Int32)), .unset]) rfl ?_
        refine k_aload G X at_184 (pc' := 186) rfl rfl rfl ?_
        refine k_alen G X (z := (600 : Int32)) R160 rfl at_186 (pc' := 187) rfl ?_
        refine k_if_le G X at_187 (pc' := 201) rfl (by decide) (pc'' := 190) rfl (fun c187 => (absurd c187 (by decide))) (fun c187 => ?_)
        refine k_aload G X at_190 (pc' := 192) rfl rfl rfl ?_
        refine k_iconst G X at_192 (pc' := 193) rfl (z := (0 : Int32)) (by decide) ?_
        refine k_aload G X at_193 (pc' := 195) rfl rfl rfl ?_
        refine k_iconst G X at_195 (pc' := 196) rfl (z := (0 : Int32)) (by decide) ?_
        refine k_baload G X (i := 0) (v := (.int (p0.toInt8.toInt32))) R160 rfl (by decide) (by rfl) at_196 (pc' := 197) rfl ?_
        refine k_iconst G X at_197 (pc' := 198) rfl (z := (1 : Int32)) (by decide) ?_
        refine k_ixor G X at_198 (pc' := 199) rfl rfl ?_
        refine k_i2b G X at_199 (pc' := 200) rfl rfl ?_
        refine k_bastore G X (i := 0) (z := ((((p0.toInt8.toInt32) ^^^ (1 : Int32)).toInt8.toInt32))) R160 rfl (by decide) (by simp [nar]) ge_r160 at_200 (pc' := 201) rfl (fun T h200 W200 R160 X => ?_)
        replace O := O.wr W200 ge_r160
        replace S_ED := S_ED.wr W200
        replace S_Do := S_Do.wr W200
        replace S_EA := S_EA.wr W200
        replace S_Ar := S_Ar.wr W200
        replace EED := EED.wr W200
        replace EDo := EDo.wr W200
        replace EEA := EEA.wr W200
        replace EAr := EAr.wr W200
        replace X_b107 := X_b107.wr W200
        replace FB := FB.other W200 (Or.inl ne_b107_r160)
        replace FL := FL.other W200 (Or.inl ne_b107_r160)
        replace FS := FS.other W200 (Or.inl ne_b107_r160)
        replace FD := FD.other W200 (Or.inl ne_b107_r160)
        replace BA := BA.other W200 ne_b'_r160
        replace SCA := SCA.other W200 ne_sc_r160
        refine k_aload G X at_201 (pc' := 203) rfl rfl rfl ?_
        refine k_callV G X (argsL := []) (rest := []) rfl X_b107 (w80 hw) (w81 hw) (nf_sel (w83 hw)) (w83 hw) (w82 hw) (w3 hw) (w84 hw) (by decide) (toB hw b107 b' kb' 600 1024 (600 : Int32) (1024 : Int32) _ h200 n0 O FB FL rfl rfl (by decide) (by decide) BA) at_203 pd10 rfl (pc' := 206) rfl rfl (wd := 0) rfl (by decide) (by decide) (by decide) (by decide) (fun T h203 v X q => ?_)
        obtain ⟨r203, kr203, rfl, sz_r203, K203, R203⟩ := q
        have ge_r203 : n0 ≤ r203 := Nat.le_trans (Old_le O) sz_r203
        replace S_ED := Jvm.OwnK.Sta_keep S_ED K203
        replace S_Do := Jvm.OwnK.Sta_keep S_Do K203
        replace S_EA := Jvm.OwnK.Sta_keep S_EA K203
        replace S_Ar := Jvm.OwnK.Sta_keep S_Ar K203
        replace O := O.keep K203 (all0)
        replace EED := EED.keep K203
        replace EDo := EDo.keep K203
        replace EEA := EEA.keep K203
        replace EAr := EAr.keep K203
        replace X_b107 := X_b107.keep K203
        replace FB := FB.keep K203 nin0
        replace FL := FL.keep K203 nin0
        replace FS := FS.keep K203 nin0
        replace FD := FD.keep K203 nin0
        replace BA := BA.keep K203 nin0
        replace SCA := SCA.keep K203 nin0
        replace R160 := R160.keep K203 nin0
        show Go Γ n0 _ T (mkF Γ.m 206 #[.val (.int p0), .val (.int p1), .val (.int p2), .val (.int p3), .val (.int (1 : Int32)), .val (.int (0 : Int32)), .val (.int (1 : Int32)), .val (.int (600 : Int32)), .val (.int (p0.toInt8.toInt32)), .val (.int (p1.toInt8.toInt32)), .val (.int (p2.toInt8.toInt32)), .val (.ref b64), .val (.ref b107), .val (.int (0 : Int32)), .val (.ref r160), .val (.int (1 : Int32)), .unset] [(.ref r203)])
        refine k_astore G X at_206 (pc' := 208) rfl rfl (l' := #[.val (.int p0), .val (.int p1), .val (.int p2), .val (.int p3), .val (.int (1 : Int32)), .val (.int (0 : Int32)), .val (.int (1 : Int32)), .val (.int (600 : Int32)), .val (.int (p0.toInt8.toInt32)), .val (.int (p1.toInt8.toInt32)), .val (.int (p2.toInt8.toInt32)), .val (.ref b64), .val (.ref b107), .val (.int (0 : Int32)), .val (.ref r160), .val (.int (1 : Int32)), .val (.ref r203)]) rfl ?_
        refine k_iload G X at_208 (pc' := 210) rfl rfl ?_
        refine k_if_eq G X at_210 (pc' := 237) rfl (by decide) (pc'' := 213) rfl (fun c210 => (absurd c210 (by decide))) (fun c210 => ?_)
        refine k_aload G X at_213 (pc' := 215) rfl rfl rfl ?_
        refine k_iload G X at_215 (pc' := 217) rfl rfl ?_
        refine k_iload G X at_217 (pc' := 219) rfl rfl ?_
        refine k_iload G X at_219 (pc' := 221) rfl rfl ?_
        refine k_iload G X at_221 (pc' := 223) rfl rfl ?_
        refine k_iload G X at_223 (pc' := 225) rfl rfl ?_
        refine k_iload G X at_225 (pc' := 227) rfl rfl ?_
        refine k_callS G X (argsL := [(.ref r203), (.int (600 : Int32)), (.int (0 : Int32)), (.int (p0.toInt8.toInt32)), (.int (p1.toInt8.toInt32)), (.int (p2.toInt8.toInt32)), (.int (1 : Int32))]) (rest := []) rfl (w94 hw) (w95 hw) (w96 hw) (w97 hw) (by decide) (chk_600_0 hw r203 kr203 _ (p0.toInt8.toInt32) (p1.toInt8.toInt32) (p2.toInt8.toInt32) h203 n0 R203 (by rfl) (by rfl) (by rfl) (by rfl)) at_227 pd11 rfl (pc' := 230) rfl rfl (wd := 0) rfl (by decide) (by decide) (by decide) (by decide) (fun T h227 v X q => ?_)
        obtain ⟨rfl, e227⟩ := q
        replace X := X.eq e227
        show Go Γ n0 _ T (mkF Γ.m 230 #[.val (.int p0), .val (.int p1), .val (.int p2), .val (.int p3), .val (.int (1 : Int32)), .val (.int (0 : Int32)), .val (.int (1 : Int32)), .val (.int (600 : Int32)), .val (.int (p0.toInt8.toInt32)), .val (.int (p1.toInt8.toInt32)), .val (.int (p2.toInt8.toInt32)), .val (.ref b64), .val (.ref b107), .val (.int (0 : Int32)), .val (.ref r160), .val (.int (1 : Int32)), .val (.ref r203)] [(.int (1 : Int32))])
        refine k_if_eq G X at_230 (pc' := 237) rfl (by decide) (pc'' := 233) rfl (fun c230 => (absurd c230 (by decide))) (fun c230 => ?_)
        refine k_iconst G X at_233 (pc' := 234) rfl (z := (1 : Int32)) (by decide) ?_
        refine k_goto G X at_234 (by decide) (pc' := 238) rfl ?_
        refine k_retb G X at_238 (t := .boolean) rfl (by simp) rfl ?_ (by decide) (by decide)
        rfl
    · refine k_iconst G X at_13 (pc' := 14) rfl (z := (1 : Int32)) (by decide) ?_
      refine k_goto G X at_14 (by decide) (pc' := 18) rfl ?_
      refine k_istore G X at_18 (pc' := 20) rfl (l' := #[.val (.int p0), .val (.int p1), .val (.int p2), .val (.int p3), .val (.int (1 : Int32)), .val (.int (1 : Int32)), .unset, .unset, .unset, .unset, .unset, .unset, .unset, .unset, .unset, .unset, .unset]) rfl ?_
      refine k_iloadN G X at_20 (pc' := 21) rfl rfl ?_
      refine k_iconst G X at_21 (pc' := 22) rfl (z := (3 : Int32)) (by decide) ?_
      refine k_ishr G X at_22 (pc' := 23) rfl rfl ?_
      refine k_iconst G X at_23 (pc' := 24) rfl (z := (1 : Int32)) (by decide) ?_
      refine k_iand G X at_24 (pc' := 25) rfl rfl ?_
      refine k_if_eq G X at_25 (pc' := 32) rfl (by decide) (pc'' := 28) rfl (fun c25 => ?_) (fun c25 => ?_)
      · refine k_iconst G X at_32 (pc' := 33) rfl (z := (0 : Int32)) (by decide) ?_
        refine k_istore G X at_33 (pc' := 35) rfl (l' := #[.val (.int p0), .val (.int p1), .val (.int p2), .val (.int p3), .val (.int (1 : Int32)), .val (.int (1 : Int32)), .val (.int (0 : Int32)), .unset, .unset, .unset, .unset, .unset, .unset, .unset, .unset, .unset, .unset]) rfl ?_
        refine k_iload G X at_35 (pc' := 37) rfl rfl ?_
        refine k_if_eq G X at_37 (pc' := 46) rfl (by decide) (pc'' := 40) rfl (fun c37 => ?_) (fun c37 => (absurd c37 (by decide)))
        refine k_iload G X at_46 (pc' := 48) rfl rfl ?_
        refine k_istore G X at_48 (pc' := 50) rfl (l' := #[.val (.int p0), .val (.int p1), .val (.int p2), .val (.int p3), .val (.int (1 : Int32)), .val (.int (1 : Int32)), .val (.int (0 : Int32)), .val (.int (1 : Int32)), .unset, .unset, .unset, .unset, .unset, .unset, .unset, .unset, .unset]) rfl ?_
        refine k_iloadN G X at_50 (pc' := 51) rfl rfl ?_
        refine k_i2b G X at_51 (pc' := 52) rfl rfl ?_
        refine k_istore G X at_52 (pc' := 54) rfl (l' := #[.val (.int p0), .val (.int p1), .val (.int p2), .val (.int p3), .val (.int (1 : Int32)), .val (.int (1 : Int32)), .val (.int (0 : Int32)), .val (.int (1 : Int32)), .val (.int (p0.toInt8.toInt32)), .unset, .unset, .unset, .unset, .unset, .unset, .unset, .unset]) rfl ?_
        refine k_iloadN G X at_54 (pc' := 55) rfl rfl ?_
        refine k_i2b G X at_55 (pc' := 56) rfl rfl ?_
        refine k_istore G X at_56 (pc' := 58) rfl (l' := #[.val (.int p0), .val (.int p1), .val (.int p2), .val (.int p3), .val (.int (1 : Int32)), .val (.int (1 : Int32)), .val (.int (0 : Int32)), .val (.int (1 : Int32)), .val (.int (p0.toInt8.toInt32)), .val (.int (p1.toInt8.toInt32)), .unset, .unset, .unset, .unset, .unset, .unset, .unset]) rfl ?_
        refine k_iloadN G X at_58 (pc' := 59) rfl rfl ?_
        refine k_i2b G X at_59 (pc' := 60) rfl rfl ?_
        refine k_istore G X at_60 (pc' := 62) rfl (l' := #[.val (.int p0), .val (.int p1), .val (.int p2), .val (.int p3), .val (.int (1 : Int32)), .val (.int (1 : Int32)), .val (.int (0 : Int32)), .val (.int (1 : Int32)), .val (.int (p0.toInt8.toInt32)), .val (.int (p1.toInt8.toInt32)), .val (.int (p2.toInt8.toInt32)), .unset, .unset, .unset, .unset, .unset, .unset]) rfl ?_
        refine k_iload G X at_62 (pc' := 64) rfl rfl ?_
        refine k_newP G X (aty := .byte) (n := 1) (cap := 1) (w0 hw) at_64 (pc' := 66) rfl rfl (by decide) (by decide) (by decide) (by decide) (fun T h64 b64 k64 s_b64 E64 A_b64 X => ?_)
        have ne_aED_b64 : aED ≠ b64 := Nat.ne_of_lt (Nat.lt_of_lt_of_eq EED.lt s_b64)
        have ne_aDo_b64 : aDo ≠ b64 := Nat.ne_of_lt (Nat.lt_of_lt_of_eq EDo.lt s_b64)
        have ne_aEA_b64 : aEA ≠ b64 := Nat.ne_of_lt (Nat.lt_of_lt_of_eq EEA.lt s_b64)
        have ne_aAr_b64 : aAr ≠ b64 := Nat.ne_of_lt (Nat.lt_of_lt_of_eq EAr.lt s_b64)
        have ge_b64 : n0 ≤ b64 := Nat.le_trans (Jvm.OwnK.Old_le O) (Nat.le_of_eq s_b64)
        replace O := O.ext E64
        replace S_ED := S_ED.ext E64
        replace S_Do := S_Do.ext E64
        replace S_EA := S_EA.ext E64
        replace S_Ar := S_Ar.ext E64
        replace EED := EED.ext E64
        replace EDo := EDo.ext E64
        replace EEA := EEA.ext E64
        replace EAr := EAr.ext E64
        replace OED := OED.ext E64
        replace OEA := OEA.ext E64
        replace A_b64 : Arf Z h64 b64 k64 .byte 1 (fun _ => (.int (0 : Int32))) := A_b64
        refine k_astore G X at_66 (pc' := 68) rfl rfl (l' := #[.val (.int p0), .val (.int p1), .val (.int p2), .val (.int p3), .val (.int (1 : Int32)), .val (.int (1 : Int32)), .val (.int (0 : Int32)), .val (.int (1 : Int32)), .val (.int (p0.toInt8.toInt32)), .val (.int (p1.toInt8.toInt32)), .val (.int (p2.toInt8.toInt32)), .val (.ref b64), .unset, .unset, .unset, .unset, .unset]) rfl ?_
        refine k_iload G X at_68 (pc' := 70) rfl rfl ?_
        refine k_iconst G X at_70 (pc' := 71) rfl (z := (1 : Int32)) (by decide) ?_
        refine k_icmp_lt G X at_71 (pc' := 80) rfl (by decide) (pc'' := 74) rfl (fun c71 => (absurd c71 (by decide))) (fun c71 => ?_)
        refine k_aload G X at_74 (pc' := 76) rfl rfl rfl ?_
        refine k_iconst G X at_76 (pc' := 77) rfl (z := (0 : Int32)) (by decide) ?_
        refine k_iload G X at_77 (pc' := 79) rfl rfl ?_
        refine k_bastore G X (i := 0) (z := (p0.toInt8.toInt32)) A_b64 rfl (by decide) (by simp [nar]) ge_b64 at_79 (pc' := 80) rfl (fun T h79 W79 A_b64 X => ?_)
        replace O := O.wr W79 ge_b64
        replace S_ED := S_ED.wr W79
        replace S_Do := S_Do.wr W79
        replace S_EA := S_EA.wr W79
        replace S_Ar := S_Ar.wr W79
        replace EED := EED.wr W79
        replace EDo := EDo.wr W79
        replace EEA := EEA.wr W79
        replace EAr := EAr.wr W79
        replace OED := OED.other W79 (Or.inl ne_aED_b64)
        replace OEA := OEA.other W79 (Or.inl ne_aEA_b64)
        refine k_iload G X at_80 (pc' := 82) rfl rfl ?_
        refine k_iconst G X at_82 (pc' := 83) rfl (z := (2 : Int32)) (by decide) ?_
        refine k_icmp_lt G X at_83 (pc' := 92) rfl (by decide) (pc'' := 86) rfl (fun c83 => ?_) (fun c83 => (absurd c83 (by decide)))
        refine k_iload G X at_92 (pc' := 94) rfl rfl ?_
        refine k_iconst G X at_94 (pc' := 95) rfl (z := (3 : Int32)) (by decide) ?_
        refine k_icmp_lt G X at_95 (pc' := 107) rfl (by decide) (pc'' := 98) rfl (fun c95 => ?_) (fun c95 => (absurd c95 (by decide)))
        refine k_new G X (w1 hw) (w2 hw) (w3 hw) at_107 (pc' := 110) rfl (by decide) (by decide) (fun T h107 b107 s_b107 E107 X_b107 D107 X => ?_)
        have ne_aED_b107 : aED ≠ b107 := Nat.ne_of_lt (Nat.lt_of_lt_of_eq EED.lt s_b107)
        have ne_aDo_b107 : aDo ≠ b107 := Nat.ne_of_lt (Nat.lt_of_lt_of_eq EDo.lt s_b107)
        have ne_aEA_b107 : aEA ≠ b107 := Nat.ne_of_lt (Nat.lt_of_lt_of_eq EEA.lt s_b107)
        have ne_aAr_b107 : aAr ≠ b107 := Nat.ne_of_lt (Nat.lt_of_lt_of_eq EAr.lt s_b107)
        have ne_b64_b107 : b64 ≠ b107 := Nat.ne_of_lt (Nat.lt_of_lt_of_eq A_b64.lt s_b107)
        have ge_b107 : n0 ≤ b107 := Nat.le_trans (Jvm.OwnK.Old_le O) (Nat.le_of_eq s_b107)
        replace O := O.ext E107
        replace S_ED := S_ED.ext E107
        replace S_Do := S_Do.ext E107
        replace S_EA := S_EA.ext E107
        replace S_Ar := S_Ar.ext E107
        replace EED := EED.ext E107
        replace EDo := EDo.ext E107
        replace EEA := EEA.ext E107
        replace EAr := EAr.ext E107
        replace OED := OED.ext E107
        replace OEA := OEA.ext E107
        replace A_b64 := A_b64.ext E107
        have F_b107_names : Fld Z h107 b107 "com/example/changeline/changeline/format/JsonOutput" "names" "Ljava/util/Map;" .null := D107 (Or.inr (w33 hw)) (ty := (.object "java/util/Map")) (by decide)
        have F_b107_bytes : Fld Z h107 b107 "com/example/changeline/changeline/format/JsonOutput" "bytes" "[B" .null := D107 (Or.inl (w35 hw)) (ty := (.array .byte)) (by decide)
        have F_b107_scopes : Fld Z h107 b107 "com/example/changeline/changeline/format/JsonOutput" "scopes" "[Lcom/example/changeline/changeline/format/JsonOutput$Scope;" .null := D107 (Or.inl (w39 hw)) (ty := (.array (.object "com/example/changeline/changeline/format/JsonOutput$Scope"))) (by decide)
        have F_b107_depth : Fld Z h107 b107 "com/example/changeline/changeline/format/JsonOutput" "depth" "I" (.int (0 : Int32)) := D107 (Or.inl (w41 hw)) (ty := .int) (by decide)
        have F_b107_length : Fld Z h107 b107 "com/example/changeline/changeline/format/JsonOutput" "length" "I" (.int (0 : Int32)) := D107 (Or.inl (w71 hw)) (ty := .int) (by decide)
        refine k_dup G X at_110 (pc' := 111) rfl rfl ?_
        refine k_callI G X (argsL := []) (rest := [(.ref b107)]) rfl rfl (w4 hw) (w5 hw) (w3 hw) (w6 hw) (by decide) (jo_init hw b107 aED h107 n0 ge_b107 O X_b107 F_b107_names F_b107_bytes F_b107_length F_b107_scopes F_b107_depth S_ED EED) at_111 pd0 rfl (pc' := 114) rfl rfl (wd := 1) rfl (by decide) (by decide) (by decide) (by decide) (fun T h111 v X q => ?_)
        obtain ⟨rfl, K111, E', b, sc, kb, ks, sz_b, sz_sc, ne_b_sc, FB, FL, FS, FD, BA, SCA, SO⟩ := q
        have ne_aED_b : aED ≠ b := Nat.ne_of_lt (Nat.lt_of_lt_of_le EED.lt sz_b)
        have ne_aED_sc : aED ≠ sc := Nat.ne_of_lt (Nat.lt_of_lt_of_le EED.lt sz_sc)
        have ne_aDo_b : aDo ≠ b := Nat.ne_of_lt (Nat.lt_of_lt_of_le EDo.lt sz_b)
        have ne_aDo_sc : aDo ≠ sc := Nat.ne_of_lt (Nat.lt_of_lt_of_le EDo.lt sz_sc)
        have ne_aEA_b : aEA ≠ b := Nat.ne_of_lt (Nat.lt_of_lt_of_le EEA.lt sz_b)
        have ne_aEA_sc : aEA ≠ sc := Nat.ne_of_lt (Nat.lt_of_lt_of_le EEA.lt sz_sc)
        have ne_aAr_b : aAr ≠ b := Nat.ne_of_lt (Nat.lt_of_lt_of_le EAr.lt sz_b)
        have ne_aAr_sc : aAr ≠ sc := Nat.ne_of_lt (Nat.lt_of_lt_of_le EAr.lt sz_sc)
        have ne_b64_b : b64 ≠ b := Nat.ne_of_lt (Nat.lt_of_lt_of_le A_b64.lt sz_b)
        have ne_b64_sc : b64 ≠ sc := Nat.ne_of_lt (Nat.lt_of_lt_of_le A_b64.lt sz_sc)
        have ne_o_b : b107 ≠ b := Nat.ne_of_lt (Nat.lt_of_lt_of_le X_b107.lt sz_b)
        have ge_b : n0 ≤ b := Nat.le_trans (Old_le O) sz_b
        have ne_o_sc : b107 ≠ sc := Nat.ne_of_lt (Nat.lt_of_lt_of_le X_b107.lt sz_sc)
        have ge_sc : n0 ≤ sc := Nat.le_trans (Old_le O) sz_sc
        replace S_ED := Sta_keepL S_ED K111 (allS (Pln_exa X_b107) (all0))
        replace S_Do := Sta_keepL S_Do K111 (allS (Pln_exa X_b107) (all0))
        replace S_EA := Sta_keepL S_EA K111 (allS (Pln_exa X_b107) (all0))
        replace S_Ar := Sta_keepL S_Ar K111 (allS (Pln_exa X_b107) (all0))
        replace O := O.keep K111 (allS ge_b107 (all0))
        replace EED := EED.keep K111
        replace EDo := EDo.keep K111
        replace EEA := EEA.keep K111
        replace EAr := EAr.keep K111
        replace OED := OED.keep K111 (by simp only [List.mem_cons, List.not_mem_nil, or_false, not_or]; exact ne_aED_b107)
        replace OEA := OEA.keep K111 (by simp only [List.mem_cons, List.not_mem_nil, or_false, not_or]; exact ne_aEA_b107)
        replace A_b64 := A_b64.keep K111 (by simp only [List.mem_cons, List.not_mem_nil, or_false, not_or]; exact ne_b64_b107)
        replace X_b107 := X_b107.keep K111
        show Go Γ n0 _ T (mkF Γ.m 114 #[.val (.int p0), .val (.int p1), .val (.int p2), .val (.int p3), .val (.int (1 : Int32)), .val (.int (1 : Int32)), .val (.int (0 : Int32)), .val (.int (1 : Int32)), .val (.int (p0.toInt8.toInt32)), .val (.int (p1.toInt8.toInt32)), .val (.int (p2.toInt8.toInt32)), .val (.ref b64), .unset, .unset, .unset, .unset, .unset] [(.ref b107)])
        refine k_astore G X at_114 (pc' := 116) rfl rfl (l' := #[.val (.int p0), .val (.int p1), .val (.int p2), .val (.int p3), .val (.int (1 : Int32)), .val (.int (1 : Int32)), .val (.int (0 : Int32)), .val (.int (1 : Int32)), .val (.int (p0.toInt8.toInt32)), .val (.int (p1.toInt8.toInt32)), .val (.int (p2.toInt8.toInt32)), .val (.ref b64), .val (.ref b107), .unset, .unset, .unset, .unset]) rfl ?_
        refine k_iload G X at_116 (pc' := 118) rfl rfl ?_
        refine k_if_eq G X at_118 (pc' := 127) rfl (by decide) (pc'' := 121) rfl (fun c118 => (absurd c118 (by decide))) (fun c118 => ?_)
        refine k_aload G X at_121 (pc' := 123) rfl rfl rfl ?_
        refine k_callV G X (argsL := []) (rest := []) rfl X_b107 (w101 hw) (w102 hw) (nf_sel (w104 hw)) (w104 hw) (w103 hw) (w3 hw) (w105 hw) (by decide) (begA hw b107 b sc aED aDo aEA kb ks 0 512 (0 : Int32) (1 : Int32) (512 : Int32) _ _ h111 n0 ge_b107 ge_sc O X_b107 FB FL FS FD SCA SO ne_o_sc rfl rfl rfl ge_b BA EED OED EDo S_Do EEA S_EA rfl ne_aED_sc ne_o_b.symm ne_b_sc (by decide)) at_123 pd12 rfl (pc' := 126) rfl rfl (wd := 0) rfl (by decide) (by decide) (by decide) (by decide) (fun T h123 v X q => ?_)
        obtain ⟨rfl, K123, E', FB', FL', FS', FD', BA', SCA'⟩ := q
        replace S_ED := Sta_keepL S_ED K123 (allS (Pln_arf SCA) (allS (Pln_exa X_b107) (allS (Pln_arf BA) (all0))))
        replace S_Do := Sta_keepL S_Do K123 (allS (Pln_arf SCA) (allS (Pln_exa X_b107) (allS (Pln_arf BA) (all0))))
        replace S_EA := Sta_keepL S_EA K123 (allS (Pln_arf SCA) (allS (Pln_exa X_b107) (allS (Pln_arf BA) (all0))))
        replace S_Ar := Sta_keepL S_Ar K123 (allS (Pln_arf SCA) (allS (Pln_exa X_b107) (allS (Pln_arf BA) (all0))))
        replace O := O.keep K123 (allS ge_sc (allS ge_b107 (allS ge_b (all0))))
        replace EED := EED.keep K123
        replace EDo := EDo.keep K123
        replace EEA := EEA.keep K123
        replace EAr := EAr.keep K123
        replace OED := OED.keep K123 (by simp only [List.mem_cons, List.not_mem_nil, or_false, not_or]; exact ⟨ne_aED_sc, ne_aED_b107, ne_aED_b⟩)
        replace OEA := OEA.keep K123 (by simp only [List.mem_cons, List.not_mem_nil, or_false, not_or]; exact ⟨ne_aEA_sc, ne_aEA_b107, ne_aEA_b⟩)
        replace A_b64 := A_b64.keep K123 (by simp only [List.mem_cons, List.not_mem_nil, or_false, not_or]; exact ⟨ne_b64_sc, ne_b64_b107, ne_b64_b⟩)
        replace X_b107 := X_b107.keep K123
        have FB := FB'
        have FL := FL'
        have FS := FS'
        have FD := FD'
        have BA := BA'
        have SCA := SCA'
        show Go Γ n0 _ T (mkF Γ.m 126 #[.val (.int p0), .val (.int p1), .val (.int p2), .val (.int p3), .val (.int (1 : Int32)), .val (.int (1 : Int32)), .val (.int (0 : Int32)), .val (.int (1 : Int32)), .val (.int (p0.toInt8.toInt32)), .val (.int (p1.toInt8.toInt32)), .val (.int (p2.toInt8.toInt32)), .val (.ref b64), .val (.ref b107), .unset, .unset, .unset, .unset] [(.ref b107)])
        refine k_pop G X at_126 (pc' := 127) rfl rfl ?_
        refine k_aload G X at_127 (pc' := 129) rfl rfl rfl ?_
        refine k_aload G X at_129 (pc' := 131) rfl rfl rfl ?_
        refine k_callV G X (argsL := [(.ref b64)]) (rest := []) rfl X_b107 (w46 hw) (w47 hw) (nf_sel (w49 hw)) (w49 hw) (w48 hw) (w3 hw) (w50 hw) (by decide) (jv50 hw b107 b b64 sc aEA aAr kb k64 ks 1 1 512 (1 : Int32) (1 : Int32) (2 : Int32) (512 : Int32) _ _ _ h123 n0 ge_b107 ge_sc O X_b107 FB FL FS FD SCA SO ne_o_sc rfl rfl rfl rfl ge_b BA A_b64 EEA OEA EAr S_Ar rfl ne_aEA_sc ne_o_b.symm ne_b64_b107 ne_b64_b ne_b_sc ne_b64_sc (by decide)) at_131 pd9 rfl (pc' := 134) rfl rfl (wd := 0) rfl (by decide) (by decide) (by decide) (by decide) (fun T h131 v X q => ?_)
        obtain ⟨rfl, K131, E', SCA', FB', FL', FS', FD', BA'⟩ := q
        replace S_ED := Sta_keepL S_ED K131 (allS (Pln_arf SCA) (allS (Pln_exa X_b107) (allS (Pln_arf BA) (all0))))
        replace S_Do := Sta_keepL S_Do K131 (allS (Pln_arf SCA) (allS (Pln_exa X_b107) (allS (Pln_arf BA) (all0))))
        replace S_EA := Sta_keepL S_EA K131 (allS (Pln_arf SCA) (allS (Pln_exa X_b107) (allS (Pln_arf BA) (all0))))
        replace S_Ar := Sta_keepL S_Ar K131 (allS (Pln_arf SCA) (allS (Pln_exa X_b107) (allS (Pln_arf BA) (all0))))
        replace O := O.keep K131 (allS ge_sc (allS ge_b107 (allS ge_b (all0))))
        replace EED := EED.keep K131
        replace EDo := EDo.keep K131
        replace EEA := EEA.keep K131
        replace EAr := EAr.keep K131
        replace X_b107 := X_b107.keep K131
        have FB := FB'
        have FL := FL'
        have FS := FS'
        have FD := FD'
        have BA := BA'
        have SCA := SCA'
        show Go Γ n0 _ T (mkF Γ.m 134 #[.val (.int p0), .val (.int p1), .val (.int p2), .val (.int p3), .val (.int (1 : Int32)), .val (.int (1 : Int32)), .val (.int (0 : Int32)), .val (.int (1 : Int32)), .val (.int (p0.toInt8.toInt32)), .val (.int (p1.toInt8.toInt32)), .val (.int (p2.toInt8.toInt32)), .val (.ref b64), .val (.ref b107), .unset, .unset, .unset, .unset] [(.ref b107)])
        refine k_pop G X at_134 (pc' := 135) rfl rfl ?_
        refine k_iload G X at_135 (pc' := 137) rfl rfl ?_
        refine k_if_eq G X at_137 (pc' := 146) rfl (by decide) (pc'' := 140) rfl (fun c137 => (absurd c137 (by decide))) (fun c137 => ?_)
        refine k_aload G X at_140 (pc' := 142) rfl rfl rfl ?_
        refine k_callV G X (argsL := []) (rest := []) rfl X_b107 (w118 hw) (w119 hw) (nf_sel (w121 hw)) (w121 hw) (w120 hw) (w3 hw) (w122 hw) (by decide) (endA hw b107 b sc aAr aEA kb ks 2 512 (2 : Int32) (3 : Int32) (512 : Int32) _ _ h131 n0 ge_b107 ge_sc O X_b107 FB FL FS FD SCA SO ne_o_sc rfl rfl rfl ge_b BA S_EA S_Ar rfl ne_o_b.symm ne_b_sc (by decide)) at_142 pd12 rfl (pc' := 145) rfl rfl (wd := 0) rfl (by decide) (by decide) (by decide) (by decide) (fun T h142 v X q => ?_)
        obtain ⟨rfl, K142, E', FB', FL', FS', FD', BA'⟩ := q
        replace S_ED := Sta_keepL S_ED K142 (allS (Pln_exa X_b107) (allS (Pln_arf BA) (all0)))
        replace S_Do := Sta_keepL S_Do K142 (allS (Pln_exa X_b107) (allS (Pln_arf BA) (all0)))
        replace S_EA := Sta_keepL S_EA K142 (allS (Pln_exa X_b107) (allS (Pln_arf BA) (all0)))
        replace S_Ar := Sta_keepL S_Ar K142 (allS (Pln_exa X_b107) (allS (Pln_arf BA) (all0)))
        replace O := O.keep K142 (allS ge_b107 (allS ge_b (all0)))
        replace EED := EED.keep K142
        replace EDo := EDo.keep K142
        replace EEA := EEA.keep K142
        replace EAr := EAr.keep K142
        replace X_b107 := X_b107.keep K142
        replace SCA := SCA.keep K142 (by simp only [List.mem_cons, List.not_mem_nil, or_false, not_or]; exact ⟨(Ne.symm ne_o_sc), (Ne.symm ne_b_sc)⟩)
        have FB := FB'
        have FL := FL'
        have FS := FS'
        have FD := FD'
        have BA := BA'
        show Go Γ n0 _ T (mkF Γ.m 145 #[.val (.int p0), .val (.int p1), .val (.int p2), .val (.int p3), .val (.int (1 : Int32)), .val (.int (1 : Int32)), .val (.int (0 : Int32)), .val (.int (1 : Int32)), .val (.int (p0.toInt8.toInt32)), .val (.int (p1.toInt8.toInt32)), .val (.int (p2.toInt8.toInt32)), .val (.ref b64), .val (.ref b107), .unset, .unset, .unset, .unset] [(.ref b107)])
        refine k_pop G X at_145 (pc' := 146) rfl rfl ?_
        refine k_iload G X at_146 (pc' := 148) rfl rfl ?_
        refine k_if_eq G X at_148 (pc' := 155) rfl (by decide) (pc'' := 151) rfl (fun c148 => (absurd c148 (by decide))) (fun c148 => ?_)
        refine k_iconst G X at_151 (pc' := 152) rfl (z := (1 : Int32)) (by decide) ?_
        refine k_goto G X at_152 (by decide) (pc' := 156) rfl ?_
        refine k_istore G X at_156 (pc' := 158) rfl (l' := #[.val (.int p0), .val (.int p1), .val (.int p2), .val (.int p3), .val (.int (1 : Int32)), .val (.int (1 : Int32)), .val (.int (0 : Int32)), .val (.int (1 : Int32)), .val (.int (p0.toInt8.toInt32)), .val (.int (p1.toInt8.toInt32)), .val (.int (p2.toInt8.toInt32)), .val (.ref b64), .val (.ref b107), .val (.int (1 : Int32)), .unset, .unset, .unset]) rfl ?_
        refine k_aload G X at_158 (pc' := 160) rfl rfl rfl ?_
        refine k_callV G X (argsL := []) (rest := []) rfl X_b107 (w80 hw) (w81 hw) (nf_sel (w83 hw)) (w83 hw) (w82 hw) (w3 hw) (w84 hw) (by decide) (toB hw b107 b kb 3 512 (3 : Int32) (512 : Int32) _ h142 n0 O FB FL rfl rfl (by decide) (by decide) BA) at_160 pd10 rfl (pc' := 163) rfl rfl (wd := 0) rfl (by decide) (by decide) (by decide) (by decide) (fun T h160 v X q => ?_)
        obtain ⟨r160, kr160, rfl, sz_r160, K160, R160⟩ := q
        have ge_r160 : n0 ≤ r160 := Nat.le_trans (Old_le O) sz_r160
        have ne_aED_r160 : aED ≠ r160 := Nat.ne_of_lt (Nat.lt_of_lt_of_le EED.lt sz_r160)
        have ne_aDo_r160 : aDo ≠ r160 := Nat.ne_of_lt (Nat.lt_of_lt_of_le EDo.lt sz_r160)
        have ne_aEA_r160 : aEA ≠ r160 := Nat.ne_of_lt (Nat.lt_of_lt_of_le EEA.lt sz_r160)
        have ne_aAr_r160 : aAr ≠ r160 := Nat.ne_of_lt (Nat.lt_of_lt_of_le EAr.lt sz_r160)
        have ne_b107_r160 : b107 ≠ r160 := Nat.ne_of_lt (Nat.lt_of_lt_of_le X_b107.lt sz_r160)
        have ne_b_r160 : b ≠ r160 := Nat.ne_of_lt (Nat.lt_of_lt_of_le BA.lt sz_r160)
        have ne_sc_r160 : sc ≠ r160 := Nat.ne_of_lt (Nat.lt_of_lt_of_le SCA.lt sz_r160)
        replace S_ED := Jvm.OwnK.Sta_keep S_ED K160
        replace S_Do := Jvm.OwnK.Sta_keep S_Do K160
        replace S_EA := Jvm.OwnK.Sta_keep S_EA K160
        replace S_Ar := Jvm.OwnK.Sta_keep S_Ar K160
        replace O := O.keep K160 (all0)
        replace EED := EED.keep K160
        replace EDo := EDo.keep K160
        replace EEA := EEA.keep K160
        replace EAr := EAr.keep K160
        replace X_b107 := X_b107.keep K160
        replace FB := FB.keep K160 nin0
        replace FL := FL.keep K160 nin0
        replace FS := FS.keep K160 nin0
        replace FD := FD.keep K160 nin0
        replace BA := BA.keep K160 nin0
        replace SCA := SCA.keep K160 nin0
        show Go Γ n0 _ T (mkF Γ.m 163 #[.val (.int p0), .val (.int p1), .val (.int p2), .val (.int p3), .val (.int (1 : Int32)), .val (.int (1 : Int32)), .val (.int (0 : Int32)), .val (.int (1 : Int32)), .val (.int (p0.toInt8.toInt32)), .val (.int (p1.toInt8.toInt32)), .val (.int (p2.toInt8.toInt32)), .val (.ref b64), .val (.ref b107), .val (.int (1 : Int32)), .unset, .unset, .unset] [(.ref r160)])
        refine k_astore G X at_163 (pc' := 165) rfl rfl (l' := #[.val (.int p0), .val (.int p1), .val (.int p2), .val (.int p3), .val (.int (1 : Int32)), .val (.int (1 : Int32)), .val (.int (0 : Int32)), .val (.int (1 : Int32)), .val (.int (p0.toInt8.toInt32)), .val (.int (p1.toInt8.toInt32)), .val (.int (p2.toInt8.toInt32)), .val (.ref b64), .val (.ref b107), .val (.int (1 : Int32)), .val (.ref r160), .unset, .unset]) rfl ?_
        refine k_aload G X at_165 (pc' := 167) rfl rfl rfl ?_
        refine k_iload G X at_167 (pc' := 169) rfl rfl ?_
        refine k_iload G X at_169 (pc' := 171) rfl rfl ?_
        refine k_iload G X at_171 (pc' := 173) rfl rfl ?_
        refine k_iload G X at_173 (pc' := 175) rfl rfl ?_
        refine k_iload G X at_175 (pc' := 177) rfl rfl ?_
        refine k_iload G X at_177 (pc' := 179) rfl rfl ?_
        refine k_callS G X (argsL := [(.ref r160), (.int (1 : Int32)), (.int (1 : Int32)), (.int (p0.toInt8.toInt32)), (.int (p1.toInt8.toInt32)), (.int (p2.toInt8.toInt32)), (.int (0 : Int32))]) (rest := []) rfl (w94 hw) (w95 hw) (w96 hw) (w97 hw) (by decide) (chk_1_1 hw r160 kr160 _ (p0.toInt8.toInt32) (p1.toInt8.toInt32) (p2.toInt8.toInt32) h160 n0 R160 (by rfl) (by rfl) (by rfl)) at_179 pd11 rfl (pc' := 182) rfl rfl (wd := 0) rfl (by decide) (by decide) (by decide) (by decide) (fun T h179 v X q => ?_)
        obtain ⟨rfl, e179⟩ := q
        replace X := X.eq e179
        show Go Γ n0 _ T (mkF Γ.m 182 #[.val (.int p0), .val (.int p1), .val (.int p2), .val (.int p3), .val (.int (1 : Int32)), .val (.int (1 : Int32)), .val (.int (0 : Int32)), .val (.int (1 : Int32)), .val (.int (p0.toInt8.toInt32)), .val (.int (p1.toInt8.toInt32)), .val (.int (p2.toInt8.toInt32)), .val (.ref b64), .val (.ref b107), .val (.int (1 : Int32)), .val (.ref r160), .unset, .unset] [(.int (1 : Int32))])
        refine k_istore G X at_182 (pc' := 184) rfl (l' := #[.val (.int p0), .val (.int p1), .val (.int p2), .val (.int p3), .val (.int (1 : Int32)), .val (.int (1 : Int32)), .val (.int (0 : Int32)), .val (.int (1 : Int32)), .val (.int (p0.toInt8.toInt32)), .val (.int (p1.toInt8.toInt32)), .val (.int (p2.toInt8.toInt32)), .val (.ref b64), .val (.ref b107), .val (.int (1 : Int32)), .val (.ref r160), .val (.int (1 : Int32)), .unset]) rfl ?_
        refine k_aload G X at_184 (pc' := 186) rfl rfl rfl ?_
        refine k_alen G X (z := (3 : Int32)) R160 rfl at_186 (pc' := 187) rfl ?_
        refine k_if_le G X at_187 (pc' := 201) rfl (by decide) (pc'' := 190) rfl (fun c187 => (absurd c187 (by decide))) (fun c187 => ?_)
        refine k_aload G X at_190 (pc' := 192) rfl rfl rfl ?_
        refine k_iconst G X at_192 (pc' := 193) rfl (z := (0 : Int32)) (by decide) ?_
        refine k_aload G X at_193 (pc' := 195) rfl rfl rfl ?_
        refine k_iconst G X at_195 (pc' := 196) rfl (z := (0 : Int32)) (by decide) ?_
        refine k_baload G X (i := 0) (v := (.int (91 : Int32))) R160 rfl (by decide) (by rfl) at_196 (pc' := 197) rfl ?_
        refine k_iconst G X at_197 (pc' := 198) rfl (z := (1 : Int32)) (by decide) ?_
        refine k_ixor G X at_198 (pc' := 199) rfl (z := (90 : Int32)) (by decide) ?_
        refine k_i2b G X at_199 (pc' := 200) rfl (z := (90 : Int32)) (by decide) ?_
        refine k_bastore G X (i := 0) (z := ((90 : Int32))) R160 rfl (by decide) (by simp [nar]) ge_r160 at_200 (pc' := 201) rfl (fun T h200 W200 R160 X => ?_)
        replace O := O.wr W200 ge_r160
        replace S_ED := S_ED.wr W200
        replace S_Do := S_Do.wr W200
        replace S_EA := S_EA.wr W200
        replace S_Ar := S_Ar.wr W200
        replace EED := EED.wr W200
        replace EDo := EDo.wr W200
        replace EEA := EEA.wr W200
        replace EAr := EAr.wr W200
        replace X_b107 := X_b107.wr W200
        replace FB := FB.other W200 (Or.inl ne_b107_r160)
        replace FL := FL.other W200 (Or.inl ne_b107_r160)
        replace FS := FS.other W200 (Or.inl ne_b107_r160)
        replace FD := FD.other W200 (Or.inl ne_b107_r160)
        replace BA := BA.other W200 ne_b_r160
        replace SCA := SCA.other W200 ne_sc_r160
        refine k_aload G X at_201 (pc' := 203) rfl rfl rfl ?_
        refine k_callV G X (argsL := []) (rest := []) rfl X_b107 (w80 hw) (w81 hw) (nf_sel (w83 hw)) (w83 hw) (w82 hw) (w3 hw) (w84 hw) (by decide) (toB hw b107 b kb 3 512 (3 : Int32) (512 : Int32) _ h200 n0 O FB FL rfl rfl (by decide) (by decide) BA) at_203 pd10 rfl (pc' := 206) rfl rfl (wd := 0) rfl (by decide) (by decide) (by decide) (by decide) (fun T h203 v X q => ?_)
        obtain ⟨r203, kr203, rfl, sz_r203, K203, R203⟩ := q
        have ge_r203 : n0 ≤ r203 := Nat.le_trans (Old_le O) sz_r203
        replace S_ED := Jvm.OwnK.Sta_keep S_ED K203
        replace S_Do := Jvm.OwnK.Sta_keep S_Do K203
        replace S_EA := Jvm.OwnK.Sta_keep S_EA K203
        replace S_Ar := Jvm.OwnK.Sta_keep S_Ar K203
        replace O := O.keep K203 (all0)
        replace EED := EED.keep K203
        replace EDo := EDo.keep K203
        replace EEA := EEA.keep K203
        replace EAr := EAr.keep K203
        replace X_b107 := X_b107.keep K203
        replace FB := FB.keep K203 nin0
        replace FL := FL.keep K203 nin0
        replace FS := FS.keep K203 nin0
        replace FD := FD.keep K203 nin0
        replace BA := BA.keep K203 nin0
        replace SCA := SCA.keep K203 nin0
        replace R160 := R160.keep K203 nin0
        show Go Γ n0 _ T (mkF Γ.m 206 #[.val (.int p0), .val (.int p1), .val (.int p2), .val (.int p3), .val (.int (1 : Int32)), .val (.int (1 : Int32)), .val (.int (0 : Int32)), .val (.int (1 : Int32)), .val (.int (p0.toInt8.toInt32)), .val (.int (p1.toInt8.toInt32)), .val (.int (p2.toInt8.toInt32)), .val (.ref b64), .val (.ref b107), .val (.int (1 : Int32)), .val (.ref r160), .val (.int (1 : Int32)), .unset] [(.ref r203)])
        refine k_astore G X at_206 (pc' := 208) rfl rfl (l' := #[.val (.int p0), .val (.int p1), .val (.int p2), .val (.int p3), .val (.int (1 : Int32)), .val (.int (1 : Int32)), .val (.int (0 : Int32)), .val (.int (1 : Int32)), .val (.int (p0.toInt8.toInt32)), .val (.int (p1.toInt8.toInt32)), .val (.int (p2.toInt8.toInt32)), .val (.ref b64), .val (.ref b107), .val (.int (1 : Int32)), .val (.ref r160), .val (.int (1 : Int32)), .val (.ref r203)]) rfl ?_
        refine k_iload G X at_208 (pc' := 210) rfl rfl ?_
        refine k_if_eq G X at_210 (pc' := 237) rfl (by decide) (pc'' := 213) rfl (fun c210 => (absurd c210 (by decide))) (fun c210 => ?_)
        refine k_aload G X at_213 (pc' := 215) rfl rfl rfl ?_
        refine k_iload G X at_215 (pc' := 217) rfl rfl ?_
        refine k_iload G X at_217 (pc' := 219) rfl rfl ?_
        refine k_iload G X at_219 (pc' := 221) rfl rfl ?_
        refine k_iload G X at_221 (pc' := 223) rfl rfl ?_
        refine k_iload G X at_223 (pc' := 225) rfl rfl ?_
        refine k_iload G X at_225 (pc' := 227) rfl rfl ?_
        refine k_callS G X (argsL := [(.ref r203), (.int (1 : Int32)), (.int (1 : Int32)), (.int (p0.toInt8.toInt32)), (.int (p1.toInt8.toInt32)), (.int (p2.toInt8.toInt32)), (.int (0 : Int32))]) (rest := []) rfl (w94 hw) (w95 hw) (w96 hw) (w97 hw) (by decide) (chk_1_1 hw r203 kr203 _ (p0.toInt8.toInt32) (p1.toInt8.toInt32) (p2.toInt8.toInt32) h203 n0 R203 (by rfl) (by rfl) (by rfl)) at_227 pd11 rfl (pc' := 230) rfl rfl (wd := 0) rfl (by decide) (by decide) (by decide) (by decide) (fun T h227 v X q => ?_)
        obtain ⟨rfl, e227⟩ := q
        replace X := X.eq e227
        show Go Γ n0 _ T (mkF Γ.m 230 #[.val (.int p0), .val (.int p1), .val (.int p2), .val (.int p3), .val (.int (1 : Int32)), .val (.int (1 : Int32)), .val (.int (0 : Int32)), .val (.int (1 : Int32)), .val (.int (p0.toInt8.toInt32)), .val (.int (p1.toInt8.toInt32)), .val (.int (p2.toInt8.toInt32)), .val (.ref b64), .val (.ref b107), .val (.int (1 : Int32)), .val (.ref r160), .val (.int (1 : Int32)), .val (.ref r203)] [(.int (1 : Int32))])
        refine k_if_eq G X at_230 (pc' := 237) rfl (by decide) (pc'' := 233) rfl (fun c230 => (absurd c230 (by decide))) (fun c230 => ?_)
        refine k_iconst G X at_233 (pc' := 234) rfl (z := (1 : Int32)) (by decide) ?_
        refine k_goto G X at_234 (by decide) (pc' := 238) rfl ?_
        refine k_retb G X at_238 (t := .boolean) rfl (by simp) rfl ?_ (by decide) (by decide)
        rfl
      · refine k_iconst G X at_28 (pc' := 29) rfl (z := (1 : Int32)) (by decide) ?_
        refine k_goto G X at_29 (by decide) (pc' := 33) rfl ?_
        refine k_istore G X at_33 (pc' := 35) rfl (l' := #[.val (.int p0), .val (.int p1), .val (.int p2), .val (.int p3), .val (.int (1 : Int32)), .val (.int (1 : Int32)), .val (.int (1 : Int32)), .unset, .unset, .unset, .unset, .unset, .unset, .unset, .unset, .unset, .unset]) rfl ?_
        refine k_iload G X at_35 (pc' := 37) rfl rfl ?_
        refine k_if_eq G X at_37 (pc' := 46) rfl (by decide) (pc'' := 40) rfl (fun c37 => (absurd c37 (by decide))) (fun c37 => ?_)
        refine k_sipush G X at_40 (pc' := 43) rfl (z := (600 : Int32)) (by decide) ?_
        refine k_goto G X at_43 (by decide) (pc' := 48) rfl ?_
        refine k_istore G X at_48 (pc' := 50) rfl (l' := #[.val (.int p0), .val (.int p1), .val (.int p2), .val (.int p3), .val (.int (1 : Int32)), .val (.int (1 : Int32)), .val (.int (1 : Int32)), .val (.int (600 : Int32)), .unset, .unset, .unset, .unset, .unset, .unset, .unset, .unset, .unset]) rfl ?_
        refine k_iloadN G X at_50 (pc' := 51) rfl rfl ?_
        refine k_i2b G X at_51 (pc' := 52) rfl rfl ?_
        refine k_istore G X at_52 (pc' := 54) rfl (l' := #[.val (.int p0), .val (.int p1), .val (.int p2), .val (.int p3), .val (.int (1 : Int32)), .val (.int (1 : Int32)), .val (.int (1 : Int32)), .val (.int (600 : Int32)), .val (.int (p0.toInt8.toInt32)), .unset, .unset, .unset, .unset, .unset, .unset, .unset, .unset]) rfl ?_
        refine k_iloadN G X at_54 (pc' := 55) rfl rfl ?_
        refine k_i2b G X at_55 (pc' := 56) rfl rfl ?_
        refine k_istore G X at_56 (pc' := 58) rfl (l' := #[.val (.int p0), .val (.int p1), .val (.int p2), .val (.int p3), .val (.int (1 : Int32)), .val (.int (1 : Int32)), .val (.int (1 : Int32)), .val (.int (600 : Int32)), .val (.int (p0.toInt8.toInt32)), .val (.int (p1.toInt8.toInt32)), .unset, .unset, .unset, .unset, .unset, .unset, .unset]) rfl ?_
        refine k_iloadN G X at_58 (pc' := 59) rfl rfl ?_
        refine k_i2b G X at_59 (pc' := 60) rfl rfl ?_
        refine k_istore G X at_60 (pc' := 62) rfl (l' := #[.val (.int p0), .val (.int p1), .val (.int p2), .val (.int p3), .val (.int (1 : Int32)), .val (.int (1 : Int32)), .val (.int (1 : Int32)), .val (.int (600 : Int32)), .val (.int (p0.toInt8.toInt32)), .val (.int (p1.toInt8.toInt32)), .val (.int (p2.toInt8.toInt32)), .unset, .unset, .unset, .unset, .unset, .unset]) rfl ?_
        refine k_iload G X at_62 (pc' := 64) rfl rfl ?_
        refine k_newP G X (aty := .byte) (n := 600) (cap := 600) (w0 hw) at_64 (pc' := 66) rfl rfl (by decide) (by decide) (by decide) (by decide) (fun T h64 b64 k64 s_b64 E64 A_b64 X => ?_)
        have ne_aED_b64 : aED ≠ b64 := Nat.ne_of_lt (Nat.lt_of_lt_of_eq EED.lt s_b64)
        have ne_aDo_b64 : aDo ≠ b64 := Nat.ne_of_lt (Nat.lt_of_lt_of_eq EDo.lt s_b64)
        have ne_aEA_b64 : aEA ≠ b64 := Nat.ne_of_lt (Nat.lt_of_lt_of_eq EEA.lt s_b64)
        have ne_aAr_b64 : aAr ≠ b64 := Nat.ne_of_lt (Nat.lt_of_lt_of_eq EAr.lt s_b64)
        have ge_b64 : n0 ≤ b64 := Nat.le_trans (Jvm.OwnK.Old_le O) (Nat.le_of_eq s_b64)
        replace O := O.ext E64
        replace S_ED := S_ED.ext E64
        replace S_Do := S_Do.ext E64
        replace S_EA := S_EA.ext E64
        replace S_Ar := S_Ar.ext E64
        replace EED := EED.ext E64
        replace EDo := EDo.ext E64
        replace EEA := EEA.ext E64
        replace EAr := EAr.ext E64
        replace OED := OED.ext E64
        replace OEA := OEA.ext E64
        replace A_b64 : Arf Z h64 b64 k64 .byte 600 (fun _ => (.int (0 : Int32))) := A_b64
        refine k_astore G X at_66 (pc' := 68) rfl rfl (l' := #[.val (.int p0), .val (.int p1), .val (.int p2), .val (.int p3), .val (.int (1 : Int32)), .val (.int (1 : Int32)), .val (.int (1 : Int32)), .val (.int (600 : Int32)), .val (.int (p0.toInt8.toInt32)), .val (.int (p1.toInt8.toInt32)), .val (.int (p2.toInt8.toInt32)), .val (.ref b64), .unset, .unset, .unset, .unset, .unset]) rfl ?_
        refine k_iload G X at_68 (pc' := 70) rfl rfl ?_
        refine k_iconst G X at_70 (pc' := 71) rfl (z := (1 : Int32)) (by decide) ?_
        refine k_icmp_lt G X at_71 (pc' := 80) rfl (by decide) (pc'' := 74) rfl (fun c71 => (absurd c71 (by decide))) (fun c71 => ?_)
        refine k_aload G X at_74 (pc' := 76) rfl rfl rfl ?_
        refine k_iconst G X at_76 (pc' := 77) rfl (z := (0 : Int32)) (by decide) ?_
        refine k_iload G X at_77 (pc' := 79) rfl rfl ?_
        refine k_bastore G X (i := 0) (z := (p0.toInt8.toInt32)) A_b64 rfl (by decide) (by simp [nar]) ge_b64 at_79 (pc' := 80) rfl (fun T h79 W79 A_b64 X => ?_)
        replace O := O.wr W79 ge_b64
        replace S_ED := S_ED.wr W79
        replace S_Do := S_Do.wr W79
        replace S_EA := S_EA.wr W79
        replace S_Ar := S_Ar.wr W79
        replace EED := EED.wr W79
        replace EDo := EDo.wr W79
        replace EEA := EEA.wr W79
        replace EAr := EAr.wr W79
        replace OED := OED.other W79 (Or.inl ne_aED_b64)
        replace OEA := OEA.other W79 (Or.inl ne_aEA_b64)
        refine k_iload G X at_80 (pc' := 82) rfl rfl ?_
        refine k_iconst G X at_82 (pc' := 83) rfl (z := (2 : Int32)) (by decide) ?_
        refine k_icmp_lt G X at_83 (pc' := 92) rfl (by decide) (pc'' := 86) rfl (fun c83 => (absurd c83 (by decide))) (fun c83 => ?_)
        refine k_aload G X at_86 (pc' := 88) rfl rfl rfl ?_
        refine k_iconst G X at_88 (pc' := 89) rfl (z := (1 : Int32)) (by decide) ?_
        refine k_iload G X at_89 (pc' := 91) rfl rfl ?_
        refine k_bastore G X (i := 1) (z := (p1.toInt8.toInt32)) A_b64 rfl (by decide) (by simp [nar]) ge_b64 at_91 (pc' := 92) rfl (fun T h91 W91 A_b64 X => ?_)
        replace O := O.wr W91 ge_b64
        replace S_ED := S_ED.wr W91
        replace S_Do := S_Do.wr W91
        replace S_EA := S_EA.wr W91
        replace S_Ar := S_Ar.wr W91
        replace EED := EED.wr W91
        replace EDo := EDo.wr W91
        replace EEA := EEA.wr W91
        replace EAr := EAr.wr W91
        replace OED := OED.other W91 (Or.inl ne_aED_b64)
        replace OEA := OEA.other W91 (Or.inl ne_aEA_b64)
        refine k_iload G X at_92 (pc' := 94) rfl rfl ?_
        refine k_iconst G X at_94 (pc' := 95) rfl (z := (3 : Int32)) (by decide) ?_
        refine k_icmp_lt G X at_95 (pc' := 107) rfl (by decide) (pc'' := 98) rfl (fun c95 => (absurd c95 (by decide))) (fun c95 => ?_)
        refine k_aload G X at_98 (pc' := 100) rfl rfl rfl ?_
        refine k_iload G X at_100 (pc' := 102) rfl rfl ?_
        refine k_iconst G X at_102 (pc' := 103) rfl (z := (1 : Int32)) (by decide) ?_
        refine k_isub G X at_103 (pc' := 104) rfl (z := (599 : Int32)) (by decide) ?_
        refine k_iload G X at_104 (pc' := 106) rfl rfl ?_
        refine k_bastore G X (i := 599) (z := (p2.toInt8.toInt32)) A_b64 rfl (by decide) (by simp [nar]) ge_b64 at_106 (pc' := 107) rfl (fun T h106 W106 A_b64 X => ?_)
        replace O := O.wr W106 ge_b64
        replace S_ED := S_ED.wr W106
        replace S_Do := S_Do.wr W106
        replace S_EA := S_EA.wr W106
        replace S_Ar := S_Ar.wr W106
        replace EED := EED.wr W106
        replace EDo := EDo.wr W106
        replace EEA := EEA.wr W106
        replace EAr := EAr.wr W106
        replace OED := OED.other W106 (Or.inl ne_aED_b64)
        replace OEA := OEA.other W106 (Or.inl ne_aEA_b64)
        refine k_new G X (w1 hw) (w2 hw) (w3 hw) at_107 (pc' := 110) rfl (by decide) (by decide) (fun T h107 b107 s_b107 E107 X_b107 D107 X => ?_)
        have ne_aED_b107 : aED ≠ b107 := Nat.ne_of_lt (Nat.lt_of_lt_of_eq EED.lt s_b107)
        have ne_aDo_b107 : aDo ≠ b107 := Nat.ne_of_lt (Nat.lt_of_lt_of_eq EDo.lt s_b107)
        have ne_aEA_b107 : aEA ≠ b107 := Nat.ne_of_lt (Nat.lt_of_lt_of_eq EEA.lt s_b107)
        have ne_aAr_b107 : aAr ≠ b107 := Nat.ne_of_lt (Nat.lt_of_lt_of_eq EAr.lt s_b107)
        have ne_b64_b107 : b64 ≠ b107 := Nat.ne_of_lt (Nat.lt_of_lt_of_eq A_b64.lt s_b107)
        have ge_b107 : n0 ≤ b107 := Nat.le_trans (Jvm.OwnK.Old_le O) (Nat.le_of_eq s_b107)
        replace O := O.ext E107
        replace S_ED := S_ED.ext E107
        replace S_Do := S_Do.ext E107
        replace S_EA := S_EA.ext E107
        replace S_Ar := S_Ar.ext E107
        replace EED := EED.ext E107
        replace EDo := EDo.ext E107
        replace EEA := EEA.ext E107
        replace EAr := EAr.ext E107
        replace OED := OED.ext E107
        replace OEA := OEA.ext E107
        replace A_b64 := A_b64.ext E107
        have F_b107_names : Fld Z h107 b107 "com/example/changeline/changeline/format/JsonOutput" "names" "Ljava/util/Map;" .null := D107 (Or.inr (w33 hw)) (ty := (.object "java/util/Map")) (by decide)
        have F_b107_bytes : Fld Z h107 b107 "com/example/changeline/changeline/format/JsonOutput" "bytes" "[B" .null := D107 (Or.inl (w35 hw)) (ty := (.array .byte)) (by decide)
        have F_b107_scopes : Fld Z h107 b107 "com/example/changeline/changeline/format/JsonOutput" "scopes" "[Lcom/example/changeline/changeline/format/JsonOutput$Scope;" .null := D107 (Or.inl (w39 hw)) (ty := (.array (.object "com/example/changeline/changeline/format/JsonOutput$Scope"))) (by decide)
        have F_b107_depth : Fld Z h107 b107 "com/example/changeline/changeline/format/JsonOutput" "depth" "I" (.int (0 : Int32)) := D107 (Or.inl (w41 hw)) (ty := .int) (by decide)
        have F_b107_length : Fld Z h107 b107 "com/example/changeline/changeline/format/JsonOutput" "length" "I" (.int (0 : Int32)) := D107 (Or.inl (w71 hw)) (ty := .int) (by decide)
        refine k_dup G X at_110 (pc' := 111) rfl rfl ?_
        refine k_callI G X (argsL := []) (rest := [(.ref b107)]) rfl rfl (w4 hw) (w5 hw) (w3 hw) (w6 hw) (by decide) (jo_init hw b107 aED h107 n0 ge_b107 O X_b107 F_b107_names F_b107_bytes F_b107_length F_b107_scopes F_b107_depth S_ED EED) at_111 pd0 rfl (pc' := 114) rfl rfl (wd := 1) rfl (by decide) (by decide) (by decide) (by decide) (fun T h111 v X q => ?_)
        obtain ⟨rfl, K111, E', b, sc, kb, ks, sz_b, sz_sc, ne_b_sc, FB, FL, FS, FD, BA, SCA, SO⟩ := q
        have ne_aED_b : aED ≠ b := Nat.ne_of_lt (Nat.lt_of_lt_of_le EED.lt sz_b)
        have ne_aED_sc : aED ≠ sc := Nat.ne_of_lt (Nat.lt_of_lt_of_le EED.lt sz_sc)
        have ne_aDo_b : aDo ≠ b := Nat.ne_of_lt (Nat.lt_of_lt_of_le EDo.lt sz_b)
        have ne_aDo_sc : aDo ≠ sc := Nat.ne_of_lt (Nat.lt_of_lt_of_le EDo.lt sz_sc)
        have ne_aEA_b : aEA ≠ b := Nat.ne_of_lt (Nat.lt_of_lt_of_le EEA.lt sz_b)
        have ne_aEA_sc : aEA ≠ sc := Nat.ne_of_lt (Nat.lt_of_lt_of_le EEA.lt sz_sc)
        have ne_aAr_b : aAr ≠ b := Nat.ne_of_lt (Nat.lt_of_lt_of_le EAr.lt sz_b)
        have ne_aAr_sc : aAr ≠ sc := Nat.ne_of_lt (Nat.lt_of_lt_of_le EAr.lt sz_sc)
        have ne_b64_b : b64 ≠ b := Nat.ne_of_lt (Nat.lt_of_lt_of_le A_b64.lt sz_b)
        have ne_b64_sc : b64 ≠ sc := Nat.ne_of_lt (Nat.lt_of_lt_of_le A_b64.lt sz_sc)
        have ne_o_b : b107 ≠ b := Nat.ne_of_lt (Nat.lt_of_lt_of_le X_b107.lt sz_b)
        have ge_b : n0 ≤ b := Nat.le_trans (Old_le O) sz_b
        have ne_o_sc : b107 ≠ sc := Nat.ne_of_lt (Nat.lt_of_lt_of_le X_b107.lt sz_sc)
        have ge_sc : n0 ≤ sc := Nat.le_trans (Old_le O) sz_sc
        replace S_ED := Sta_keepL S_ED K111 (allS (Pln_exa X_b107) (all0))
        replace S_Do := Sta_keepL S_Do K111 (allS (Pln_exa X_b107) (all0))
        replace S_EA := Sta_keepL S_EA K111 (allS (Pln_exa X_b107) (all0))
        replace S_Ar := Sta_keepL S_Ar K111 (allS (Pln_exa X_b107) (all0))
        replace O := O.keep K111 (allS ge_b107 (all0))
        replace EED := EED.keep K111
        replace EDo := EDo.keep K111
        replace EEA := EEA.keep K111
        replace EAr := EAr.keep K111
        replace OED := OED.keep K111 (by simp only [List.mem_cons, List.not_mem_nil, or_false, not_or]; exact ne_aED_b107)
        replace OEA := OEA.keep K111 (by simp only [List.mem_cons, List.not_mem_nil, or_false, not_or]; exact ne_aEA_b107)
        replace A_b64 := A_b64.keep K111 (by simp only [List.mem_cons, List.not_mem_nil, or_false, not_or]; exact ne_b64_b107)
        replace X_b107 := X_b107.keep K111
        show Go Γ n0 _ T (mkF Γ.m 114 #[.val (.int p0), .val (.int p1), .val (.int p2), .val (.int p3), .val (.int (1 : Int32)), .val (.int (1 : Int32)), .val (.int (1 : Int32)), .val (.int (600 : Int32)), .val (.int (p0.toInt8.toInt32)), .val (.int (p1.toInt8.toInt32)), .val (.int (p2.toInt8.toInt32)), .val (.ref b64), .unset, .unset, .unset, .unset, .unset] [(.ref b107)])
        refine k_astore G X at_114 (pc' := 116) rfl rfl (l' := #[.val (.int p0), .val (.int p1), .val (.int p2), .val (.int p3), .val (.int (1 : Int32)), .val (.int (1 : Int32)), .val (.int (1 : Int32)), .val (.int (600 : Int32)), .val (.int (p0.toInt8.toInt32)), .val (.int (p1.toInt8.toInt32)), .val (.int (p2.toInt8.toInt32)), .val (.ref b64), .val (.ref b107), .unset, .unset, .unset, .unset]) rfl ?_
        refine k_iload G X at_116 (pc' := 118) rfl rfl ?_
        refine k_if_eq G X at_118 (pc' := 127) rfl (by decide) (pc'' := 121) rfl (fun c118 => (absurd c118 (by decide))) (fun c118 => ?_)
        refine k_aload G X at_121 (pc' := 123) rfl rfl rfl ?_
        refine k_callV G X (argsL := []) (rest := []) rfl X_b107 (w101 hw) (w102 hw) (nf_sel (w104 hw)) (w104 hw) (w103 hw) (w3 hw) (w105 hw) (by decide) (begA hw b107 b sc aED aDo aEA kb ks 0 512 (0 : Int32) (1 : Int32) (512 : Int32) _ _ h111 n0 ge_b107 ge_sc O X_b107 FB FL FS FD SCA SO ne_o_sc rfl rfl rfl ge_b BA EED OED EDo S_Do EEA S_EA rfl ne_aED_sc ne_o_b.symm ne_b_sc (by decide)) at_123 pd12 rfl (pc' := 126) rfl rfl (wd := 0) rfl (by decide) (by decide) (by decide) (by decide) (fun T h123 v X q => ?_)
        obtain ⟨rfl, K123, E', FB', FL', FS', FD', BA', SCA'⟩ := q
        replace S_ED := Sta_keepL S_ED K123 (allS (Pln_arf SCA) (allS (Pln_exa X_b107) (allS (Pln_arf BA) (all0))))
        replace S_Do := Sta_keepL S_Do K123 (allS (Pln_arf SCA) (allS (Pln_exa X_b107) (allS (Pln_arf BA) (all0))))
        replace S_EA := Sta_keepL S_EA K123 (allS (Pln_arf SCA) (allS (Pln_exa X_b107) (allS (Pln_arf BA) (all0))))
        replace S_Ar := Sta_keepL S_Ar K123 (allS (Pln_arf SCA) (allS (Pln_exa X_b107) (allS (Pln_arf BA) (all0))))
        replace O := O.keep K123 (allS ge_sc (allS ge_b107 (allS ge_b (all0))))
        replace EED := EED.keep K123
        replace EDo := EDo.keep K123
        replace EEA := EEA.keep K123
        replace EAr := EAr.keep K123
        replace OED := OED.keep K123 (by simp only [List.mem_cons, List.not_mem_nil, or_false, not_or]; exact ⟨ne_aED_sc, ne_aED_b107, ne_aED_b⟩)
        replace OEA := OEA.keep K123 (by simp only [List.mem_cons, List.not_mem_nil, or_false, not_or]; exact ⟨ne_aEA_sc, ne_aEA_b107, ne_aEA_b⟩)
        replace A_b64 := A_b64.keep K123 (by simp only [List.mem_cons, List.not_mem_nil, or_false, not_or]; exact ⟨ne_b64_sc, ne_b64_b107, ne_b64_b⟩)
        replace X_b107 := X_b107.keep K123
        have FB := FB'
        have FL := FL'
        have FS := FS'
        have FD := FD'
        have BA := BA'
        have SCA := SCA'
        show Go Γ n0 _ T (mkF Γ.m 126 #[.val (.int p0), .val (.int p1), .val (.int p2), .val (.int p3), .val (.int (1 : Int32)), .val (.int (1 : Int32)), .val (.int (1 : Int32)), .val (.int (600 : Int32)), .val (.int (p0.toInt8.toInt32)), .val (.int (p1.toInt8.toInt32)), .val (.int (p2.toInt8.toInt32)), .val (.ref b64), .val (.ref b107), .unset, .unset, .unset, .unset] [(.ref b107)])
        refine k_pop G X at_126 (pc' := 127) rfl rfl ?_
        refine k_aload G X at_127 (pc' := 129) rfl rfl rfl ?_
        refine k_aload G X at_129 (pc' := 131) rfl rfl rfl ?_
        refine k_callV G X (argsL := [(.ref b64)]) (rest := []) rfl X_b107 (w46 hw) (w47 hw) (nf_sel (w49 hw)) (w49 hw) (w48 hw) (w3 hw) (w50 hw) (by decide) (jv51 hw b107 b b64 sc aEA aAr kb k64 ks 1 600 (1 : Int32) (600 : Int32) (601 : Int32) _ _ _ h123 n0 ge_b107 ge_sc O X_b107 FB FL FS FD SCA SO ne_o_sc rfl rfl rfl BA A_b64 EEA OEA EAr S_Ar rfl ne_aEA_sc ne_o_b.symm ne_b64_b107 ne_b64_b ne_b_sc ne_b64_sc (by decide) (by decide)) at_131 pd9 rfl (pc' := 134) rfl rfl (wd := 0) rfl (by decide) (by decide) (by decide) (by decide) (fun T h131 v X q => ?_)
        obtain ⟨rfl, K131, E', SCA', b', kb', sz_b', FB', FL', FS', FD', BA'⟩ := q
        have ne_o_b' : b107 ≠ b' := Nat.ne_of_lt (Nat.lt_of_lt_of_le X_b107.lt sz_b')
        have ne_sc_b' : sc ≠ b' := Nat.ne_of_lt (Nat.lt_of_lt_of_le SCA.lt sz_b')
        have ge_b' : n0 ≤ b' := Nat.le_trans (Old_le O) sz_b'
        replace S_ED := Sta_keepL S_ED K131 (allS (Pln_arf SCA) (allS (Pln_exa X_b107) (all0)))
        replace S_Do := Sta_keepL S_Do K131 (allS (Pln_arf SCA) (allS (Pln_exa X_b107) (all0)))
        replace S_EA := Sta_keepL S_EA K131 (allS (Pln_arf SCA) (allS (Pln_exa X_b107) (all0)))
        replace S_Ar := Sta_keepL S_Ar K131 (allS (Pln_arf SCA) (allS (Pln_exa X_b107) (all0)))
        replace O := O.keep K131 (allS ge_sc (allS ge_b107 (all0)))
        replace EED := EED.keep K131
        replace EDo := EDo.keep K131
        replace EEA := EEA.keep K131
        replace EAr := EAr.keep K131
        replace X_b107 := X_b107.keep K131
        have FB := FB'
        have FL := FL'
        have FS := FS'
        have FD := FD'
        have BA := BA'
        have SCA := SCA'
        show Go Γ n0 _ T (mkF Γ.m 134 #[.val (.int p0), .val (.int p1), .val (.int p2), .val (.int p3), .val (.int (1 : Int32)), .val (.int (1 : Int32)), .val (.int (1 : Int32)), .val (.int (600 : Int32)), .val (.int (p0.toInt8.toInt32)), .val (.int (p1.toInt8.toInt32)), .val (.int (p2.toInt8.toInt32)), .val (.ref b64), .val (.ref b107), .unset, .unset, .unset, .unset] [(.ref b107)])
        refine k_pop G X at_134 (pc' := 135) rfl rfl ?_
        refine k_iload G X at_135 (pc' := 137) rfl rfl ?_
        refine k_if_eq G X at_137 (pc' := 146) rfl (by decide) (pc'' := 140) rfl (fun c137 => (absurd c137 (by decide))) (fun c137 => ?_)
        refine k_aload G X at_140 (pc' := 142) rfl rfl rfl ?_
        refine k_callV G X (argsL := []) (rest := []) rfl X_b107 (w118 hw) (w119 hw) (nf_sel (w121 hw)) (w121 hw) (w120 hw) (w3 hw) (w122 hw) (by decide) (endA hw b107 b' sc aAr aEA kb' ks 601 1024 (601 : Int32) (602 : Int32) (1024 : Int32) _ _ h131 n0 ge_b107 ge_sc O X_b107 FB FL FS FD SCA SO ne_o_sc rfl rfl rfl ge_b' BA S_EA S_Ar rfl ne_o_b'.symm ne_sc_b'.symm (by decide)) at_142 pd12 rfl (pc' := 145) rfl rfl (wd := 0) rfl (by decide) (by decide) (by decide) (by decide) (fun T h142 v X q => ?_)
        obtain ⟨rfl, K142, E', FB', FL', FS', FD', BA'⟩ := q
        replace S_ED := Sta_keepL S_ED K142 (allS (Pln_exa X_b107) (allS (Pln_arf BA) (all0)))
        replace S_Do := Sta_keepL S_Do K142 (allS (Pln_exa X_b107) (allS (Pln_arf BA) (all0)))
        replace S_EA := Sta_keepL S_EA K142 (allS (Pln_exa X_b107) (allS (Pln_arf BA) (all0)))
        replace S_Ar := Sta_keepL S_Ar K142 (allS (Pln_exa X_b107) (allS (Pln_arf BA) (all0)))
        replace O := O.keep K142 (allS ge_b107 (allS ge_b' (all0)))
        replace EED := EED.keep K142
        replace EDo := EDo.keep K142
        replace EEA := EEA.keep K142
        replace EAr := EAr.keep K142
        replace X_b107 := X_b107.keep K142
        replace SCA := SCA.keep K142 (by simp only [List.mem_cons, List.not_mem_nil, or_false, not_or]; exact ⟨(Ne.symm ne_o_sc), ne_sc_b'⟩)
        have FB := FB'
        have FL := FL'
        have FS := FS'
        have FD := FD'
        have BA := BA'
        show Go Γ n0 _ T (mkF Γ.m 145 #[.val (.int p0), .val (.int p1), .val (.int p2), .val (.int p3), .val (.int (1 : Int32)), .val (.int (1 : Int32)), .val (.int (1 : Int32)), .val (.int (600 : Int32)), .val (.int (p0.toInt8.toInt32)), .val (.int (p1.toInt8.toInt32)), .val (.int (p2.toInt8.toInt32)), .val (.ref b64), .val (.ref b107), .unset, .unset, .unset, .unset] [(.ref b107)])
        refine k_pop G X at_145 (pc' := 146) rfl rfl ?_
        refine k_iload G X at_146 (pc' := 148) rfl rfl ?_
        refine k_if_eq G X at_148 (pc' := 155) rfl (by decide) (pc'' := 151) rfl (fun c148 => (absurd c148 (by decide))) (fun c148 => ?_)
        refine k_iconst G X at_151 (pc' := 152) rfl (z := (1 : Int32)) (by decide) ?_
        refine k_goto G X at_152 (by decide) (pc' := 156) rfl ?_
        refine k_istore G X at_156 (pc' := 158) rfl (l' := #[.val (.int p0), .val (.int p1), .val (.int p2), .val (.int p3), .val (.int (1 : Int32)), .val (.int (1 : Int32)), .val (.int (1 : Int32)), .val (.int (600 : Int32)), .val (.int (p0.toInt8.toInt32)), .val (.int (p1.toInt8.toInt32)), .val (.int (p2.toInt8.toInt32)), .val (.ref b64), .val (.ref b107), .val (.int (1 : Int32)), .unset, .unset, .unset]) rfl ?_
        refine k_aload G X at_158 (pc' := 160) rfl rfl rfl ?_
        refine k_callV G X (argsL := []) (rest := []) rfl X_b107 (w80 hw) (w81 hw) (nf_sel (w83 hw)) (w83 hw) (w82 hw) (w3 hw) (w84 hw) (by decide) (toB hw b107 b' kb' 602 1024 (602 : Int32) (1024 : Int32) _ h142 n0 O FB FL rfl rfl (by decide) (by decide) BA) at_160 pd10 rfl (pc' := 163) rfl rfl (wd := 0) rfl (by decide) (by decide) (by decide) (by decide) (fun T h160 v X q => ?_)
        obtain ⟨r160, kr160, rfl, sz_r160, K160, R160⟩ := q
        have ge_r160 : n0 ≤ r160 := Nat.le_trans (Old_le O) sz_r160
        have ne_aED_r160 : aED ≠ r160 := Nat.ne_of_lt (Nat.lt_of_lt_of_le EED.lt sz_r160)
        have ne_aDo_r160 : aDo ≠ r160 := Nat.ne_of_lt (Nat.lt_of_lt_of_le EDo.lt sz_r160)
        have ne_aEA_r160 : aEA ≠ r160 := Nat.ne_of_lt (Nat.lt_of_lt_of_le EEA.lt sz_r160)
        have ne_aAr_r160 : aAr ≠ r160 := Nat.ne_of_lt (Nat.lt_of_lt_of_le EAr.lt sz_r160)
        have ne_b107_r160 : b107 ≠ r160 := Nat.ne_of_lt (Nat.lt_of_lt_of_le X_b107.lt sz_r160)
        have ne_b'_r160 : b' ≠ r160 := Nat.ne_of_lt (Nat.lt_of_lt_of_le BA.lt sz_r160)
        have ne_sc_r160 : sc ≠ r160 := Nat.ne_of_lt (Nat.lt_of_lt_of_le SCA.lt sz_r160)
        replace S_ED := Jvm.OwnK.Sta_keep S_ED K160
        replace S_Do := Jvm.OwnK.Sta_keep S_Do K160
        replace S_EA := Jvm.OwnK.Sta_keep S_EA K160
        replace S_Ar := Jvm.OwnK.Sta_keep S_Ar K160
        replace O := O.keep K160 (all0)
        replace EED := EED.keep K160
        replace EDo := EDo.keep K160
        replace EEA := EEA.keep K160
        replace EAr := EAr.keep K160
        replace X_b107 := X_b107.keep K160
        replace FB := FB.keep K160 nin0
        replace FL := FL.keep K160 nin0
        replace FS := FS.keep K160 nin0
        replace FD := FD.keep K160 nin0
        replace BA := BA.keep K160 nin0
        replace SCA := SCA.keep K160 nin0
        show Go Γ n0 _ T (mkF Γ.m 163 #[.val (.int p0), .val (.int p1), .val (.int p2), .val (.int p3), .val (.int (1 : Int32)), .val (.int (1 : Int32)), .val (.int (1 : Int32)), .val (.int (600 : Int32)), .val (.int (p0.toInt8.toInt32)), .val (.int (p1.toInt8.toInt32)), .val (.int (p2.toInt8.toInt32)), .val (.ref b64), .val (.ref b107), .val (.int (1 : Int32)), .unset, .unset, .unset] [(.ref r160)])
        refine k_astore G X at_163 (pc' := 165) rfl rfl (l' := #[.val (.int p0), .val (.int p1), .val (.int p2), .val (.int p3), .val (.int (1 : Int32)), .val (.int (1 : Int32)), .val (.int (1 : Int32)), .val (.int (600 : Int32)), .val (.int (p0.toInt8.toInt32)), .val (.int (p1.toInt8.toInt32)), .val (.int (p2.toInt8.toInt32)), .val (.ref b64), .val (.ref b107), .val (.int (1 : Int32)), .val (.ref r160), .unset, .unset]) rfl ?_
        refine k_aload G X at_165 (pc' := 167) rfl rfl rfl ?_
        refine k_iload G X at_167 (pc' := 169) rfl rfl ?_
        refine k_iload G X at_169 (pc' := 171) rfl rfl ?_
        refine k_iload G X at_171 (pc' := 173) rfl rfl ?_
        refine k_iload G X at_173 (pc' := 175) rfl rfl ?_
        refine k_iload G X at_175 (pc' := 177) rfl rfl ?_
        refine k_iload G X at_177 (pc' := 179) rfl rfl ?_
        refine k_callS G X (argsL := [(.ref r160), (.int (600 : Int32)), (.int (1 : Int32)), (.int (p0.toInt8.toInt32)), (.int (p1.toInt8.toInt32)), (.int (p2.toInt8.toInt32)), (.int (1 : Int32))]) (rest := []) rfl (w94 hw) (w95 hw) (w96 hw) (w97 hw) (by decide) (chk_600_1 hw r160 kr160 _ (p0.toInt8.toInt32) (p1.toInt8.toInt32) (p2.toInt8.toInt32) h160 n0 R160 (by rfl) (by rfl) (by rfl) (by rfl) (by rfl) (by rfl)) at_179 pd11 rfl (pc' := 182) rfl rfl (wd := 0) rfl (by decide) (by decide) (by decide) (by decide) (fun T h179 v X q => ?_)
        obtain ⟨rfl, e179⟩ := q
        replace X := X.eq e179
        show Go Γ n0 _ T (mkF Γ.m 182 #[.val (.int p0), .val (.int p1), .val (.int p2), .val (.int p3), .val (.int (1 : Int32)), .val (.int (1 : Int32)), .val (.int (1 : Int32)), .val (.int (600 : Int32)), .val (.int (p0.toInt8.toInt32)), .val (.int (p1.toInt8.toInt32)), .val (.int (p2.toInt8.toInt32)), .val (.ref b64), .val (.ref b107), .val (.int (1 : Int32)), .val (.ref r160), .unset, .unset] [(.int (1 : Int32))])
        refine k_istore G X at_182 (pc' := 184) rfl (l' := #[.val (.int p0), .val (.int p1), .val (.int p2), .val (.int p3), .val (.int (1 : Int32)), .val (.int (1 : Int32)), .val (.int (1 : Int32)), .val (.int (600 : Int32)), .val (.int (p0.toInt8.toInt32)), .val (.int (p1.toInt8.toInt32)), .val (.int (p2.toInt8.toInt32)), .val (.ref b64), .val (.ref b107), .val (.int (1 : Int32)), .val (.ref r160), .val (.int (1 : Int32)), .unset]) rfl ?_
        refine k_aload G X at_184 (pc' := 186) rfl rfl rfl ?_
        refine k_alen G X (z := (602 : Int32)) R160 rfl at_186 (pc' := 187) rfl ?_
        refine k_if_le G X at_187 (pc' := 201) rfl (by decide) (pc'' := 190) rfl (fun c187 => (absurd c187 (by decide))) (fun c187 => ?_)
        refine k_aload G X at_190 (pc' := 192) rfl rfl rfl ?_
        refine k_iconst G X at_192 (pc' := 193) rfl (z := (0 : Int32)) (by decide) ?_
        refine k_aload G X at_193 (pc' := 195) rfl rfl rfl ?_
        refine k_iconst G X at_195 (pc' := 196) rfl (z := (0 : Int32)) (by decide) ?_
        refine k_baload G X (i := 0) (v := (.int (91 : Int32))) R160 rfl (by decide) (by rfl) at_196 (pc' := 197) rfl ?_
        refine k_iconst G X at_197 (pc' := 198) rfl (z := (1 : Int32)) (by decide) ?_
        refine k_ixor G X at_198 (pc' := 199) rfl (z := (90 : Int32)) (by decide) ?_
        refine k_i2b G X at_199 (pc' := 200) rfl (z := (90 : Int32)) (by decide) ?_
        refine k_bastore G X (i := 0) (z := ((90 : Int32))) R160 rfl (by decide) (by simp [nar]) ge_r160 at_200 (pc' := 201) rfl (fun T h200 W200 R160 X => ?_)
        replace O := O.wr W200 ge_r160
        replace S_ED := S_ED.wr W200
        replace S_Do := S_Do.wr W200
        replace S_EA := S_EA.wr W200
        replace S_Ar := S_Ar.wr W200
        replace EED := EED.wr W200
        replace EDo := EDo.wr W200
        replace EEA := EEA.wr W200
        replace EAr := EAr.wr W200
        replace X_b107 := X_b107.wr W200
        replace FB := FB.other W200 (Or.inl ne_b107_r160)
        replace FL := FL.other W200 (Or.inl ne_b107_r160)
        replace FS := FS.other W200 (Or.inl ne_b107_r160)
        replace FD := FD.other W200 (Or.inl ne_b107_r160)
        replace BA := BA.other W200 ne_b'_r160
        replace SCA := SCA.other W200 ne_sc_r160
        refine k_aload G X at_201 (pc' := 203) rfl rfl rfl ?_
        refine k_callV G X (argsL := []) (rest := []) rfl X_b107 (w80 hw) (w81 hw) (nf_sel (w83 hw)) (w83 hw) (w82 hw) (w3 hw) (w84 hw) (by decide) (toB hw b107 b' kb' 602 1024 (602 : Int32) (1024 : Int32) _ h200 n0 O FB FL rfl rfl (by decide) (by decide) BA) at_203 pd10 rfl (pc' := 206) rfl rfl (wd := 0) rfl (by decide) (by decide) (by decide) (by decide) (fun T h203 v X q => ?_)
        obtain ⟨r203, kr203, rfl, sz_r203, K203, R203⟩ := q
        have ge_r203 : n0 ≤ r203 := Nat.le_trans (Old_le O) sz_r203
        replace S_ED := Jvm.OwnK.Sta_keep S_ED K203
        replace S_Do := Jvm.OwnK.Sta_keep S_Do K203
        replace S_EA := Jvm.OwnK.Sta_keep S_EA K203
        replace S_Ar := Jvm.OwnK.Sta_keep S_Ar K203
        replace O := O.keep K203 (all0)
        replace EED := EED.keep K203
        replace EDo := EDo.keep K203
        replace EEA := EEA.keep K203
        replace EAr := EAr.keep K203
        replace X_b107 := X_b107.keep K203
        replace FB := FB.keep K203 nin0
        replace FL := FL.keep K203 nin0
        replace FS := FS.keep K203 nin0
        replace FD := FD.keep K203 nin0
        replace BA := BA.keep K203 nin0
        replace SCA := SCA.keep K203 nin0
        replace R160 := R160.keep K203 nin0
        show Go Γ n0 _ T (mkF Γ.m 206 #[.val (.int p0), .val (.int p1), .val (.int p2), .val (.int p3), .val (.int (1 : Int32)), .val (.int (1 : Int32)), .val (.int (1 : Int32)), .val (.int (600 : Int32)), .val (.int (p0.toInt8.toInt32)), .val (.int (p1.toInt8.toInt32)), .val (.int (p2.toInt8.toInt32)), .val (.ref b64), .val (.ref b107), .val (.int (1 : Int32)), .val (.ref r160), .val (.int (1 : Int32)), .unset] [(.ref r203)])
        refine k_astore G X at_206 (pc' := 208) rfl rfl (l' := #[.val (.int p0), .val (.int p1), .val (.int p2), .val (.int p3), .val (.int (1 : Int32)), .val (.int (1 : Int32)), .val (.int (1 : Int32)), .val (.int (600 : Int32)), .val (.int (p0.toInt8.toInt32)), .val (.int (p1.toInt8.toInt32)), .val (.int (p2.toInt8.toInt32)), .val (.ref b64), .val (.ref b107), .val (.int (1 : Int32)), .val (.ref r160), .val (.int (1 : Int32)), .val (.ref r203)]) rfl ?_
        refine k_iload G X at_208 (pc' := 210) rfl rfl ?_
        refine k_if_eq G X at_210 (pc' := 237) rfl (by decide) (pc'' := 213) rfl (fun c210 => (absurd c210 (by decide))) (fun c210 => ?_)
        refine k_aload G X at_213 (pc' := 215) rfl rfl rfl ?_
        refine k_iload G X at_215 (pc' := 217) rfl rfl ?_
        refine k_iload G X at_217 (pc' := 219) rfl rfl ?_
        refine k_iload G X at_219 (pc' := 221) rfl rfl ?_
        refine k_iload G X at_221 (pc' := 223) rfl rfl ?_
        refine k_iload G X at_223 (pc' := 225) rfl rfl ?_
        refine k_iload G X at_225 (pc' := 227) rfl rfl ?_
        refine k_callS G X (argsL := [(.ref r203), (.int (600 : Int32)), (.int (1 : Int32)), (.int (p0.toInt8.toInt32)), (.int (p1.toInt8.toInt32)), (.int (p2.toInt8.toInt32)), (.int (1 : Int32))]) (rest := []) rfl (w94 hw) (w95 hw) (w96 hw) (w97 hw) (by decide) (chk_600_1 hw r203 kr203 _ (p0.toInt8.toInt32) (p1.toInt8.toInt32) (p2.toInt8.toInt32) h203 n0 R203 (by rfl) (by rfl) (by rfl) (by rfl) (by rfl) (by rfl)) at_227 pd11 rfl (pc' := 230) rfl rfl (wd := 0) rfl (by decide) (by decide) (by decide) (by decide) (fun T h227 v X q => ?_)
        obtain ⟨rfl, e227⟩ := q
        replace X := X.eq e227
        show Go Γ n0 _ T (mkF Γ.m 230 #[.val (.int p0), .val (.int p1), .val (.int p2), .val (.int p3), .val (.int (1 : Int32)), .val (.int (1 : Int32)), .val (.int (1 : Int32)), .val (.int (600 : Int32)), .val (.int (p0.toInt8.toInt32)), .val (.int (p1.toInt8.toInt32)), .val (.int (p2.toInt8.toInt32)), .val (.ref b64), .val (.ref b107), .val (.int (1 : Int32)), .val (.ref r160), .val (.int (1 : Int32)), .val (.ref r203)] [(.int (1 : Int32))])
        refine k_if_eq G X at_230 (pc' := 237) rfl (by decide) (pc'' := 233) rfl (fun c230 => (absurd c230 (by decide))) (fun c230 => ?_)
        refine k_iconst G X at_233 (pc' := 234) rfl (z := (1 : Int32)) (by decide) ?_
        refine k_goto G X at_234 (by decide) (pc' := 238) rfl ?_
        refine k_retb G X at_238 (t := .boolean) rfl (by simp) rfl ?_ (by decide) (by decide)
        rfl
  · refine k_istore G X at_3 (pc' := 5) rfl (l' := #[.val (.int p0), .val (.int p1), .val (.int p2), .val (.int p3), .val (.int (2 : Int32)), .unset, .unset, .unset, .unset, .unset, .unset, .unset, .unset, .unset, .unset, .unset, .unset]) rfl ?_
    refine k_iloadN G X at_5 (pc' := 6) rfl rfl ?_
    refine k_iconst G X at_6 (pc' := 7) rfl (z := (2 : Int32)) (by decide) ?_
    refine k_ishr G X at_7 (pc' := 8) rfl rfl ?_
    refine k_iconst G X at_8 (pc' := 9) rfl (z := (1 : Int32)) (by decide) ?_
    refine k_iand G X at_9 (pc' := 10) rfl rfl ?_
    refine k_if_eq G X at_10 (pc' := 17) rfl (by decide) (pc'' := 13) rfl (fun c10 => ?_) (fun c10 => ?_)
    · refine k_iconst G X at_17 (pc' := 18) rfl (z := (0 : Int32)) (by decide) ?_
      refine k_istore G X at_18 (pc' := 20) rfl (l' := #[.val (.int p0), .val (.int p1), .val (.int p2), .val (.int p3), .val (.int (2 : Int32)), .val (.int (0 : Int32)), .unset, .unset, .unset, .unset, .unset, .unset, .unset, .unset, .unset, .unset, .unset]) rfl ?_
      refine k_iloadN G X at_20 (pc' := 21) rfl rfl ?_
      refine k_iconst G X at_21 (pc' := 22) rfl (z := (3 : Int32)) (by decide) ?_
      refine k_ishr G X at_22 (pc' := 23) rfl rfl ?_
      refine k_iconst G X at_23 (pc' := 24) rfl (z := (1 : Int32)) (by decide) ?_
      refine k_iand G X at_24 (pc' := 25) rfl rfl ?_
      refine k_if_eq G X at_25 (pc' := 32) rfl (by decide) (pc'' := 28) rfl (fun c25 => ?_) (fun c25 => ?_)
      · refine k_iconst G X at_32 (pc' := 33) rfl (z := (0 : Int32)) (by decide) ?_
        refine k_istore G X at_33 (pc' := 35) rfl (l' := #[.val (.int p0), .val (.int p1), .val (.int p2), .val (.int p3), .val (.int (2 : Int32)), .val (.int (0 : Int32)), .val (.int (0 : Int32)), .unset, .unset, .unset, .unset, .unset, .unset, .unset, .unset, .unset, .unset]) rfl ?_
        refine k_iload G X at_35 (pc' := 37) rfl rfl ?_
        refine k_if_eq G X at_37 (pc' := 46) rfl (by decide) (pc'' := 40) rfl (fun c37 => ?_) (fun c37 => (absurd c37 (by decide)))
        refine k_iload G X at_46 (pc' := 48) rfl rfl ?_
        refine k_istore G X at_48 (pc' := 50) rfl (l' := #[.val (.int p0), .val (.int p1), .val (.int p2), .val (.int p3), .val (.int (2 : Int32)), .val (.int (0 : Int32)), .val (.int (0 : Int32)), .val (.int (2 : Int32)), .unset, .unset, .unset, .unset, .unset, .unset, .unset, .unset, .unset]) rfl ?_
        refine k_iloadN G X at_50 (pc' := 51) rfl rfl ?_
        refine k_i2b G X at_51 (pc' := 52) rfl rfl ?_
        refine k_istore G X at_52 (pc' := 54) rfl (l' := #[.val (.int p0), .val (.int p1), .val (.int p2), .val (.int p3), .val (.int (2 : Int32)), .val (.int (0 : Int32)), .val (.int (0 : Int32)), .val (.int (2 : Int32)), .val (.int (p0.toInt8.toInt32)), .unset, .unset, .unset, .unset, .unset, .unset, .unset, .unset]) rfl ?_
        refine k_iloadN G X at_54 (pc' := 55) rfl rfl ?_
        refine k_i2b G X at_55 (pc' := 56) rfl rfl ?_
        refine k_istore G X at_56 (pc' := 58) rfl (l' := #[.val (.int p0), .val (.int p1), .val (.int p2), .val (.int p3), .val (.int (2 : Int32)), .val (.int (0 : Int32)), .val (.int (0 : Int32)), .val (.int (2 : Int32)), .val (.int (p0.toInt8.toInt32)), .val (.int (p1.toInt8.toInt32)), .unset, .unset, .unset, .unset, .unset, .unset, .unset]) rfl ?_
        refine k_iloadN G X at_58 (pc' := 59) rfl rfl ?_
        refine k_i2b G X at_59 (pc' := 60) rfl rfl ?_
        refine k_istore G X at_60 (pc' := 62) rfl (l' := #[.val (.int p0), .val (.int p1), .val (.int p2), .val (.int p3), .val (.int (2 : Int32)), .val (.int (0 : Int32)), .val (.int (0 : Int32)), .val (.int (2 : Int32)), .val (.int (p0.toInt8.toInt32)), .val (.int (p1.toInt8.toInt32)), .val (.int (p2.toInt8.toInt32)), .unset, .unset, .unset, .unset, .unset, .unset]) rfl ?_
        refine k_iload G X at_62 (pc' := 64) rfl rfl ?_
        refine k_newP G X (aty := .byte) (n := 2) (cap := 2) (w0 hw) at_64 (pc' := 66) rfl rfl (by decide) (by decide) (by decide) (by decide) (fun T h64 b64 k64 s_b64 E64 A_b64 X => ?_)
        have ne_aED_b64 : aED ≠ b64 := Nat.ne_of_lt (Nat.lt_of_lt_of_eq EED.lt s_b64)
        have ne_aDo_b64 : aDo ≠ b64 := Nat.ne_of_lt (Nat.lt_of_lt_of_eq EDo.lt s_b64)
        have ne_aEA_b64 : aEA ≠ b64 := Nat.ne_of_lt (Nat.lt_of_lt_of_eq EEA.lt s_b64)
        have ne_aAr_b64 : aAr ≠ b64 := Nat.ne_of_lt (Nat.lt_of_lt_of_eq EAr.lt s_b64)
        have ge_b64 : n0 ≤ b64 := Nat.le_trans (Jvm.OwnK.Old_le O) (Nat.le_of_eq s_b64)
        replace O := O.ext E64
        replace S_ED := S_ED.ext E64
        replace S_Do := S_Do.ext E64
        replace S_EA := S_EA.ext E64
        replace S_Ar := S_Ar.ext E64
        replace EED := EED.ext E64
        replace EDo := EDo.ext E64
        replace EEA := EEA.ext E64
        replace EAr := EAr.ext E64
        replace OED := OED.ext E64
        replace OEA := OEA.ext E64
        replace A_b64 : Arf Z h64 b64 k64 .byte 2 (fun _ => (.int (0 : Int32))) := A_b64
        refine k_astore G X at_66 (pc' := 68) rfl rfl (l' := #[.val (.int p0), .val (.int p1), .val (.int p2), .val (.int p3), .val (.int (2 : Int32)), .val (.int (0 : Int32)), .val (.int (0 : Int32)), .val (.int (2 : Int32)), .val (.int (p0.toInt8.toInt32)), .val (.int (p1.toInt8.toInt32)), .val (.int (p2.toInt8.toInt32)), .val (.ref b64), .unset, .unset, .unset, .unset, .unset]) rfl ?_
        refine k_iload G X at_68 (pc' := 70) rfl rfl ?_
        refine k_iconst G X at_70 (pc' := 71) rfl (z := (1 : Int32)) (by decide) ?_
        refine k_icmp_lt G X at_71 (pc' := 80) rfl (by decide) (pc'' := 74) rfl (fun c71 => (absurd c71 (by decide))) (fun c71 => ?_)
        refine k_aload G X at_74 (pc' := 76) rfl rfl rfl ?_
        refine k_iconst G X at_76 (pc' := 77) rfl (z := (0 : Int32)) (by decide) ?_
        refine k_iload G X at_77 (pc' := 79) rfl rfl ?_
        refine k_bastore G X (i := 0) (z := (p0.toInt8.toInt32)) A_b64 rfl (by decide) (by simp [nar]) ge_b64 at_79 (pc' := 80) rfl (fun T h79 W79 A_b64 X => ?_)
        replace O := O.wr W79 ge_b64
        replace S_ED := S_ED.wr W79
        replace S_Do := S_Do.wr W79
        replace S_EA := S_EA.wr W79
        replace S_Ar := S_Ar.wr W79
        replace EED := EED.wr W79
        replace EDo := EDo.wr W79
        replace EEA := EEA.wr W79
        replace EAr := EAr.wr W79
        replace OED := OED.other W79 (Or.inl ne_aED_b64)
        replace OEA := OEA.other W79 (Or.inl ne_aEA_b64)
        refine k_iload G X at_80 (pc' := 82) rfl rfl ?_
        refine k_iconst G X at_82 (pc' := 83) rfl (z := (2 : Int32)) (by decide) ?_
        refine k_icmp_lt G X at_83 (pc' := 92) rfl (by decide) (pc'' := 86) rfl (fun c83 => (absurd c83 (by decide))) (fun c83 => ?_)
        refine k_aload G X at_86 (pc' := 88) rfl rfl rfl ?_
        refine k_iconst G X at_88 (pc' := 89) rfl (z := (1 : Int32)) (by decide) ?_
        refine k_iload G X at_89 (pc' := 91) rfl rfl ?_
        refine k_bastore G X (i := 1) (z := (p1.toInt8.toInt32)) A_b64 rfl (by decide) (by simp [nar]) ge_b64 at_91 (pc' := 92) rfl (fun T h91 W91 A_b64 X => ?_)
        replace O := O.wr W91 ge_b64
        replace S_ED := S_ED.wr W91
        replace S_Do := S_Do.wr W91
        replace S_EA := S_EA.wr W91
        replace S_Ar := S_Ar.wr W91
        replace EED := EED.wr W91
        replace EDo := EDo.wr W91
        replace EEA := EEA.wr W91
        replace EAr := EAr.wr W91
        replace OED := OED.other W91 (Or.inl ne_aED_b64)
        replace OEA := OEA.other W91 (Or.inl ne_aEA_b64)
        refine k_iload G X at_92 (pc' := 94) rfl rfl ?_
        refine k_iconst G X at_94 (pc' := 95) rfl (z := (3 : Int32)) (by decide) ?_
        refine k_icmp_lt G X at_95 (pc' := 107) rfl (by decide) (pc'' := 98) rfl (fun c95 => ?_) (fun c95 => (absurd c95 (by decide)))
        refine k_new G X (w1 hw) (w2 hw) (w3 hw) at_107 (pc' := 110) rfl (by decide) (by decide) (fun T h107 b107 s_b107 E107 X_b107 D107 X => ?_)
        have ne_aED_b107 : aED ≠ b107 := Nat.ne_of_lt (Nat.lt_of_lt_of_eq EED.lt s_b107)
        have ne_aDo_b107 : aDo ≠ b107 := Nat.ne_of_lt (Nat.lt_of_lt_of_eq EDo.lt s_b107)
        have ne_aEA_b107 : aEA ≠ b107 := Nat.ne_of_lt (Nat.lt_of_lt_of_eq EEA.lt s_b107)
        have ne_aAr_b107 : aAr ≠ b107 := Nat.ne_of_lt (Nat.lt_of_lt_of_eq EAr.lt s_b107)
        have ne_b64_b107 : b64 ≠ b107 := Nat.ne_of_lt (Nat.lt_of_lt_of_eq A_b64.lt s_b107)
        have ge_b107 : n0 ≤ b107 := Nat.le_trans (Jvm.OwnK.Old_le O) (Nat.le_of_eq s_b107)
        replace O := O.ext E107
        replace S_ED := S_ED.ext E107
        replace S_Do := S_Do.ext E107
        replace S_EA := S_EA.ext E107
        replace S_Ar := S_Ar.ext E107
        replace EED := EED.ext E107
        replace EDo := EDo.ext E107
        replace EEA := EEA.ext E107
        replace EAr := EAr.ext E107
        replace OED := OED.ext E107
        replace OEA := OEA.ext E107
        replace A_b64 := A_b64.ext E107
        have F_b107_names : Fld Z h107 b107 "com/example/changeline/changeline/format/JsonOutput" "names" "Ljava/util/Map;" .null := D107 (Or.inr (w33 hw)) (ty := (.object "java/util/Map")) (by decide)
        have F_b107_bytes : Fld Z h107 b107 "com/example/changeline/changeline/format/JsonOutput" "bytes" "[B" .null := D107 (Or.inl (w35 hw)) (ty := (.array .byte)) (by decide)
        have F_b107_scopes : Fld Z h107 b107 "com/example/changeline/changeline/format/JsonOutput" "scopes" "[Lcom/example/changeline/changeline/format/JsonOutput$Scope;" .null := D107 (Or.inl (w39 hw)) (ty := (.array (.object "com/example/changeline/changeline/format/JsonOutput$Scope"))) (by decide)
        have F_b107_depth : Fld Z h107 b107 "com/example/changeline/changeline/format/JsonOutput" "depth" "I" (.int (0 : Int32)) := D107 (Or.inl (w41 hw)) (ty := .int) (by decide)
        have F_b107_length : Fld Z h107 b107 "com/example/changeline/changeline/format/JsonOutput" "length" "I" (.int (0 : Int32)) := D107 (Or.inl (w71 hw)) (ty := .int) (by decide)
        refine k_dup G X at_110 (pc' := 111) rfl rfl ?_
        refine k_callI G X (argsL := []) (rest := [(.ref b107)]) rfl rfl (w4 hw) (w5 hw) (w3 hw) (w6 hw) (by decide) (jo_init hw b107 aED h107 n0 ge_b107 O X_b107 F_b107_names F_b107_bytes F_b107_length F_b107_scopes F_b107_depth S_ED EED) at_111 pd0 rfl (pc' := 114) rfl rfl (wd := 1) rfl (by decide) (by decide) (by decide) (by decide) (fun T h111 v X q => ?_)
        obtain ⟨rfl, K111, E', b, sc, kb, ks, sz_b, sz_sc, ne_b_sc, FB, FL, FS, FD, BA, SCA, SO⟩ := q
        have ne_aED_b : aED ≠ b := Nat.ne_of_lt (Nat.lt_of_lt_of_le EED.lt sz_b)
        have ne_aED_sc : aED ≠ sc := Nat.ne_of_lt (Nat.lt_of_lt_of_le EED.lt sz_sc)
        have ne_aDo_b : aDo ≠ b := Nat.ne_of_lt (Nat.lt_of_lt_of_le EDo.lt sz_b)
        have ne_aDo_sc : aDo ≠ sc := Nat.ne_of_lt (Nat.lt_of_lt_of_le EDo.lt sz_sc)
        have ne_aEA_b : aEA ≠ b := Nat.ne_of_lt (Nat.lt_of_lt_of_le EEA.lt sz_b)
        have ne_aEA_sc : aEA ≠ sc := Nat.ne_of_lt (Nat.lt_of_lt_of_le EEA.lt sz_sc)
        have ne_aAr_b : aAr ≠ b := Nat.ne_of_lt (Nat.lt_of_lt_of_le EAr.lt sz_b)
        have ne_aAr_sc : aAr ≠ sc := Nat.ne_of_lt (Nat.lt_of_lt_of_le EAr.lt sz_sc)
        have ne_b64_b : b64 ≠ b := Nat.ne_of_lt (Nat.lt_of_lt_of_le A_b64.lt sz_b)
        have ne_b64_sc : b64 ≠ sc := Nat.ne_of_lt (Nat.lt_of_lt_of_le A_b64.lt sz_sc)
        have ne_o_b : b107 ≠ b := Nat.ne_of_lt (Nat.lt_of_lt_of_le X_b107.lt sz_b)
        have ge_b : n0 ≤ b := Nat.le_trans (Old_le O) sz_b
        have ne_o_sc : b107 ≠ sc := Nat.ne_of_lt (Nat.lt_of_lt_of_le X_b107.lt sz_sc)
        have ge_sc : n0 ≤ sc := Nat.le_trans (Old_le O) sz_sc
        replace S_ED := Sta_keepL S_ED K111 (allS (Pln_exa X_b107) (all0))
        replace S_Do := Sta_keepL S_Do K111 (allS (Pln_exa X_b107) (all0))
        replace S_EA := Sta_keepL S_EA K111 (allS (Pln_exa X_b107) (all0))
        replace S_Ar := Sta_keepL S_Ar K111 (allS (Pln_exa X_b107) (all0))
        replace O := O.keep K111 (allS ge_b107 (all0))
        replace EED := EED.keep K111
        replace EDo := EDo.keep K111
        replace EEA := EEA.keep K111
        replace EAr := EAr.keep K111
        replace OED := OED.keep K111 (by simp only [List.mem_cons, List.not_mem_nil, or_false, not_or]; exact ne_aED_b107)
        replace OEA := OEA.keep K111 (by simp only [List.mem_cons, List.not_mem_nil, or_false, not_or]; exact ne_aEA_b107)
        replace A_b64 := A_b64.keep K111 (by simp only [List.mem_cons, List.not_mem_nil, or_false, not_or]; exact ne_b64_b107)
        replace X_b107 := X_b107.keep K111
        show Go Γ n0 _ T (mkF Γ.m 114 #[.val (.int p0), .val (.int p1), .val (.int p2), .val (.int p3), .val (.int (2 : Int32)), .val (.int (0 : Int32)), .val (.int (0 : Int32)), .val (.int (2 : Int32)), .val (.int (p0.toInt8.toInt32)), .val (.int (p1.toInt8.toInt32)), .val (.int (p2.toInt8.toInt32)), .val (.ref b64), .unset, .unset, .unset, .unset, .unset] [(.ref b107)])
        refine k_astore G X at_114 (pc' := 116) rfl rfl (l' := #[.val (.int p0), .val (.int p1), .val (.int p2), .val (.int p3), .val (.int (2 : Int32)), .val (.int (0 : Int32)), .val (.int (0 : Int32)), .val (.int (2 : Int32)), .val (.int (p0.toInt8.toInt32)), .val (.int (p1.toInt8.toInt32)), .val (.int (p2.toInt8.toInt32)), .val (.ref b64), .val (.ref b107), .unset, .unset, .unset, .unset]) rfl ?_
        refine k_iload G X at_116 (pc' := 118) rfl rfl ?_
        refine k_if_eq G X at_118 (pc' := 127) rfl (by decide) (pc'' := 121) rfl (fun c118 => ?_) (fun c118 => (absurd c118 (by decide)))
        refine k_aload G X at_127 (pc' := 129) rfl rfl rfl ?_
        refine k_aload G X at_129 (pc' := 131) rfl rfl rfl ?_
        refine k_callV G X (argsL := [(.ref b64)]) (rest := []) rfl X_b107 (w46 hw) (w47 hw) (nf_sel (w49 hw)) (w49 hw) (w48 hw) (w3 hw) (w50 hw) (by decide) (jv00 hw b107 b b64 sc aED aDo kb k64 ks 0 2 512 (0 : Int32) (2 : Int32) (2 : Int32) (512 : Int32) _ _ _ h111 n0 ge_b107 ge_sc O X_b107 FB FL FS FD SCA SO ne_o_sc rfl rfl rfl rfl ge_b BA A_b64 EED OED EDo S_Do rfl ne_aED_sc ne_o_b.symm ne_b64_b107 ne_b64_b ne_b_sc ne_b64_sc (by decide)) at_131 pd9 rfl (pc' := 134) rfl rfl (wd := 0) rfl (by decide) (by decide) (by decide) (by decide) (fun T h131 v X q => ?_)
        obtain ⟨rfl, K131, E', SCA', FB', FL', FS', FD', BA'⟩ := q
        replace S_ED := Sta_keepL S_ED K131 (allS (Pln_arf SCA) (allS (Pln_exa X_b107) (allS (Pln_arf BA) (all0))))
        replace S_Do := Sta_keepL S_Do K131 (allS (Pln_arf SCA) (allS (Pln_exa X_b107) (allS (Pln_arf BA) (all0))))
        replace S_EA := Sta_keepL S_EA K131 (allS (Pln_arf SCA) (allS (Pln_exa X_b107) (allS (Pln_arf BA) (all0))))
        replace S_Ar := Sta_keepL S_Ar K131 (allS (Pln_arf SCA) (allS (Pln_exa X_b107) (allS (Pln_arf BA) (all0))))
        replace O := O.keep K131 (allS ge_sc (allS ge_b107 (allS ge_b (all0))))
        replace EED := EED.keep K131
        replace EDo := EDo.keep K131
        replace EEA := EEA.keep K131
        replace EAr := EAr.keep K131
        replace X_b107 := X_b107.keep K131
        have FB := FB'
        have FL := FL'
        have FS := FS'
        have FD := FD'
        have BA := BA'
        have SCA := SCA'
        show Go Γ n0 _ T (mkF Γ.m 134 #[.val (.int p0), .val (.int p1), .val (.int p2), .val (.int p3), .val (.int (2 : Int32)), .val (.int (0 : Int32)), .val (.int (0 : Int32)), .val (.int (2 : Int32)), .val (.int (p0.toInt8.toInt32)), .val (.int (p1.toInt8.toInt32)), .val (.int (p2.toInt8.toInt32)), .val (.ref b64), .val (.ref b107), .unset, .unset, .unset, .unset] [(.ref b107)])
        refine k_pop G X at_134 (pc' := 135) rfl rfl ?_
        refine k_iload G X at_135 (pc' := 137) rfl rfl ?_
        refine k_if_eq G X at_137 (pc' := 146) rfl (by decide) (pc'' := 140) rfl (fun c137 => ?_) (fun c137 => (absurd c137 (by decide)))
        refine k_iload G X at_146 (pc' := 148) rfl rfl ?_
        refine k_if_eq G X at_148 (pc' := 155) rfl (by decide) (pc'' := 151) rfl (fun c148 => ?_) (fun c148 => (absurd c148 (by decide)))
        refine k_iconst G X at_155 (pc' := 156) rfl (z := (0 : Int32)) (by decide) ?_
        refine k_istore G X at_156 (pc' := 158) rfl (l' := #[.val (.int p0), .val (.int p1), .val (.int p2), .val (.int p3), .val (.int (2 : Int32)), .val (.int (0 : Int32)), .val (.int (0 : Int32)), .val (.int (2 : Int32)), .val (.int (p0.toInt8.toInt32)), .val (.int (p1.toInt8.toInt32)), .val (.int (p2.toInt8.toInt32)), .val (.ref b64), .val (.ref b107), .val (.int (0 : Int32)), .unset, .unset, .unset]) rfl ?_
        refine k_aload G X at_158 (pc' := 160) rfl rfl rfl ?_
        refine k_callV G X (argsL := []) (rest := []) rfl X_b107 (w80 hw) (w81 hw) (nf_sel (w83 hw)) (w83 hw) (w82 hw) (w3 hw) (w84 hw) (by decide) (toB hw b107 b kb 2 512 (2 : Int32) (512 : Int32) _ h131 n0 O FB FL rfl rfl (by decide) (by decide) BA) at_160 pd10 rfl (pc' := 163) rfl rfl (wd := 0) rfl (by decide) (by decide) (by decide) (by decide) (fun T h160 v X q => ?_)
        obtain ⟨r160, kr160, rfl, sz_r160, K160, R160⟩ := q
        have ge_r160 : n0 ≤ r160 := Nat.le_trans (Old_le O) sz_r160
        have ne_aED_r160 : aED ≠ r160 := Nat.ne_of_lt (Nat.lt_of_lt_of_le EED.lt sz_r160)
        have ne_aDo_r160 : aDo ≠ r160 := Nat.ne_of_lt (Nat.lt_of_lt_of_le EDo.lt sz_r160)
        have ne_aEA_r160 : aEA ≠ r160 := Nat.ne_of_lt (Nat.lt_of_lt_of_le EEA.lt sz_r160)
        have ne_aAr_r160 : aAr ≠ r160 := Nat.ne_of_lt (Nat.lt_of_lt_of_le EAr.lt sz_r160)
        have ne_b107_r160 : b107 ≠ r160 := Nat.ne_of_lt (Nat.lt_of_lt_of_le X_b107.lt sz_r160)
        have ne_b_r160 : b ≠ r160 := Nat.ne_of_lt (Nat.lt_of_lt_of_le BA.lt sz_r160)
        have ne_sc_r160 : sc ≠ r160 := Nat.ne_of_lt (Nat.lt_of_lt_of_le SCA.lt sz_r160)
        replace S_ED := Jvm.OwnK.Sta_keep S_ED K160
        replace S_Do := Jvm.OwnK.Sta_keep S_Do K160
        replace S_EA := Jvm.OwnK.Sta_keep S_EA K160
        replace S_Ar := Jvm.OwnK.Sta_keep S_Ar K160
        replace O := O.keep K160 (all0)
        replace EED := EED.keep K160
        replace EDo := EDo.keep K160
        replace EEA := EEA.keep K160
        replace EAr := EAr.keep K160
        replace X_b107 := X_b107.keep K160
        replace FB := FB.keep K160 nin0
        replace FL := FL.keep K160 nin0
        replace FS := FS.keep K160 nin0
        replace FD := FD.keep K160 nin0
        replace BA := BA.keep K160 nin0
        replace SCA := SCA.keep K160 nin0
        show Go Γ n0 _ T (mkF Γ.m 163 #[.val (.int p0), .val (.int p1), .val (.int p2), .val (.int p3), .val (.int (2 : Int32)), .val (.int (0 : Int32)), .val (.int (0 : Int32)), .val (.int (2 : Int32)), .val (.int (p0.toInt8.toInt32)), .val (.int (p1.toInt8.toInt32)), .val (.int (p2.toInt8.toInt32)), .val (.ref b64), .val (.ref b107), .val (.int (0 : Int32)), .unset, .unset, .unset] [(.ref r160)])
        refine k_astore G X at_163 (pc' := 165) rfl rfl (l' := #[.val (.int p0), .val (.int p1), .val (.int p2), .val (.int p3), .val (.int (2 : Int32)), .val (.int (0 : Int32)), .val (.int (0 : Int32)), .val (.int (2 : Int32)), .val (.int (p0.toInt8.toInt32)), .val (.int (p1.toInt8.toInt32)), .val (.int (p2.toInt8.toInt32)), .val (.ref b64), .val (.ref b107), .val (.int (0 : Int32)), .val (.ref r160), .unset, .unset]) rfl ?_
        refine k_aload G X at_165 (pc' := 167) rfl rfl rfl ?_
        refine k_iload G X at_167 (pc' := 169) rfl rfl ?_
        refine k_iload G X at_169 (pc' := 171) rfl rfl ?_
        refine k_iload G X at_171 (pc' := 173) rfl rfl ?_
        refine k_iload G X at_173 (pc' := 175) rfl rfl ?_
        refine k_iload G X at_175 (pc' := 177) rfl rfl ?_
        refine k_iload G X at_177 (pc' := 179) rfl rfl ?_
        refine k_callS G X (argsL := [(.ref r160), (.int (2 : Int32)), (.int (0 : Int32)), (.int (p0.toInt8.toInt32)), (.int (p1.toInt8.toInt32)), (.int (p2.toInt8.toInt32)), (.int (0 : Int32))]) (rest := []) rfl (w94 hw) (w95 hw) (w96 hw) (w97 hw) (by decide) (chk_2_0 hw r160 kr160 _ (p0.toInt8.toInt32) (p1.toInt8.toInt32) (p2.toInt8.toInt32) h160 n0 R160 (by rfl) (by rfl)) at_179 pd11 rfl (pc' := 182) rfl rfl (wd := 0) rfl (by decide) (by decide) (by decide) (by decide) (fun T h179 v X q => ?_)
        obtain ⟨rfl, e179⟩ := q
        replace X := X.eq e179
        show Go Γ n0 _ T (mkF Γ.m 182 #[.val (.int p0), .val (.int p1), .val (.int p2), .val (.int p3), .val (.int (2 : Int32)), .val (.int (0 : Int32)), .val (.int (0 : Int32)), .val (.int (2 : Int32)), .val (.int (p0.toInt8.toInt32)), .val (.int (p1.toInt8.toInt32)), .val (.int (p2.toInt8.toInt32)), .val (.ref b64), .val (.ref b107), .val (.int (0 : Int32)), .val (.ref r160), .unset, .unset] [(.int (1 : Int32))])
        refine k_istore G X at_182 (pc' := 184) rfl (l' := #[.val (.int p0), .val (.int p1), .val (.int p2), .val (.int p3), .val (.int (2 : Int32)), .val (.int (0 : Int32)), .val (.int (0 : Int32)), .val (.int (2 : Int32)), .val (.int (p0.toInt8.toInt32)), .val (.int (p1.toInt8.toInt32)), .val (.int (p2.toInt8.toInt32)), .val (.ref b64), .val (.ref b107), .val (.int (0 : Int32)), .val (.ref r160), .val (.int (1 : Int32)), .unset]) rfl ?_
        refine k_aload G X at_184 (pc' := 186) rfl rfl rfl ?_
        refine k_alen G X (z := (2 : Int32)) R160 rfl at_186 (pc' := 187) rfl ?_
        refine k_if_le G X at_187 (pc' := 201) rfl (by decide) (pc'' := 190) rfl (fun c187 => (absurd c187 (by decide))) (fun c187 => ?_)
        refine k_aload G X at_190 (pc' := 192) rfl rfl rfl ?_
        refine k_iconst G X at_192 (pc' := 193) rfl (z := (0 : Int32)) (by decide) ?_
        refine k_aload G X at_193 (pc' := 195) rfl rfl rfl ?_
        refine k_iconst G X at_195 (pc' := 196) rfl (z := (0 : Int32)) (by decide) ?_
        refine k_baload G X (i := 0) (v := (.int (p0.toInt8.toInt32))) R160 rfl (by decide) (by rfl) at_196 (pc' := 197) rfl ?_
        refine k_iconst G X at_197 (pc' := 198) rfl (z := (1 : Int32)) (by decide) ?_
        refine k_ixor G X at_198 (pc' := 199) rfl rfl ?_
        refine k_i2b G X at_199 (pc' := 200) rfl rfl ?_
        refine k_bastore G X (i := 0) (z := ((((p0.toInt8.toInt32) ^^^ (1 : Int32)).toInt8.toInt32))) R160 rfl (by decide) (by simp [nar]) ge_r160 at_200 (pc' := 201) rfl (fun T h200 W200 R160 X => ?_)
        replace O := O.wr W200 ge_r160
        replace S_ED := S_ED.wr W200
        replace S_Do := S_Do.wr W200
        replace S_EA := S_EA.wr W200
        replace S_Ar := S_Ar.wr W200
        replace EED := EED.wr W200
        replace EDo := EDo.wr W200
        replace EEA := EEA.wr W200
        replace EAr := EAr.wr W200
        replace X_b107 := X_b107.wr W200
        replace FB := FB.other W200 (Or.inl ne_b107_r160)
        replace FL := FL.other W200 (Or.inl ne_b107_r160)
        replace FS := FS.other W200 (Or.inl ne_b107_r160)
        replace FD := FD.other W200 (Or.inl ne_b107_r160)
        replace BA := BA.other W200 ne_b_r160
        replace SCA := SCA.other W200 ne_sc_r160
        refine k_aload G X at_201 (pc' := 203) rfl rfl rfl ?_
        refine k_callV G X (argsL := []) (rest := []) rfl X_b107 (w80 hw) (w81 hw) (nf_sel (w83 hw)) (w83 hw) (w82 hw) (w3 hw) (w84 hw) (by decide) (toB hw b107 b kb 2 512 (2 : Int32) (512 : Int32) _ h200 n0 O FB FL rfl rfl (by decide) (by decide) BA) at_203 pd10 rfl (pc' := 206) rfl rfl (wd := 0) rfl (by decide) (by decide) (by decide) (by decide) (fun T h203 v X q => ?_)
        obtain ⟨r203, kr203, rfl, sz_r203, K203, R203⟩ := q
        have ge_r203 : n0 ≤ r203 := Nat.le_trans (Old_le O) sz_r203
        replace S_ED := Jvm.OwnK.Sta_keep S_ED K203
        replace S_Do := Jvm.OwnK.Sta_keep S_Do K203
        replace S_EA := Jvm.OwnK.Sta_keep S_EA K203
        replace S_Ar := Jvm.OwnK.Sta_keep S_Ar K203
        replace O := O.keep K203 (all0)
        replace EED := EED.keep K203
        replace EDo := EDo.keep K203
        replace EEA := EEA.keep K203
        replace EAr := EAr.keep K203
        replace X_b107 := X_b107.keep K203
        replace FB := FB.keep K203 nin0
        replace FL := FL.keep K203 nin0
        replace FS := FS.keep K203 nin0
        replace FD := FD.keep K203 nin0
        replace BA := BA.keep K203 nin0
        replace SCA := SCA.keep K203 nin0
        replace R160 := R160.keep K203 nin0
        show Go Γ n0 _ T (mkF Γ.m 206 #[.val (.int p0), .val (.int p1), .val (.int p2), .val (.int p3), .val (.int (2 : Int32)), .val (.int (0 : Int32)), .val (.int (0 : Int32)), .val (.int (2 : Int32)), .val (.int (p0.toInt8.toInt32)), .val (.int (p1.toInt8.toInt32)), .val (.int (p2.toInt8.toInt32)), .val (.ref b64), .val (.ref b107), .val (.int (0 : Int32)), .val (.ref r160), .val (.int (1 : Int32)), .unset] [(.ref r203)])
        refine k_astore G X at_206 (pc' := 208) rfl rfl (l' := #[.val (.int p0), .val (.int p1), .val (.int p2), .val (.int p3), .val (.int (2 : Int32)), .val (.int (0 : Int32)), .val (.int (0 : Int32)), .val (.int (2 : Int32)), .val (.int (p0.toInt8.toInt32)), .val (.int (p1.toInt8.toInt32)), .val (.int (p2.toInt8.toInt32)), .val (.ref b64), .val (.ref b107), .val (.int (0 : Int32)), .val (.ref r160), .val (.int (1 : Int32)), .val (.ref r203)]) rfl ?_
        refine k_iload G X at_208 (pc' := 210) rfl rfl ?_
        refine k_if_eq G X at_210 (pc' := 237) rfl (by decide) (pc'' := 213) rfl (fun c210 => (absurd c210 (by decide))) (fun c210 => ?_)
        refine k_aload G X at_213 (pc' := 215) rfl rfl rfl ?_
        refine k_iload G X at_215 (pc' := 217) rfl rfl ?_
        refine k_iload G X at_217 (pc' := 219) rfl rfl ?_
        refine k_iload G X at_219 (pc' := 221) rfl rfl ?_
        refine k_iload G X at_221 (pc' := 223) rfl rfl ?_
        refine k_iload G X at_223 (pc' := 225) rfl rfl ?_
        refine k_iload G X at_225 (pc' := 227) rfl rfl ?_
        refine k_callS G X (argsL := [(.ref r203), (.int (2 : Int32)), (.int (0 : Int32)), (.int (p0.toInt8.toInt32)), (.int (p1.toInt8.toInt32)), (.int (p2.toInt8.toInt32)), (.int (0 : Int32))]) (rest := []) rfl (w94 hw) (w95 hw) (w96 hw) (w97 hw) (by decide) (chk_2_0 hw r203 kr203 _ (p0.toInt8.toInt32) (p1.toInt8.toInt32) (p2.toInt8.toInt32) h203 n0 R203 (by rfl) (by rfl)) at_227 pd11 rfl (pc' := 230) rfl rfl (wd := 0) rfl (by decide) (by decide) (by decide) (by decide) (fun T h227 v X q => ?_)
        obtain ⟨rfl, e227⟩ := q
        replace X := X.eq e227
        show Go Γ n0 _ T (mkF Γ.m 230 #[.val (.int p0), .val (.int p1), .val (.int p2), .val (.int p3), .val (.int (2 : Int32)), .val (.int (0 : Int32)), .val (.int (0 : Int32)), .val (.int (2 : Int32)), .val (.int (p0.toInt8.toInt32)), .val (.int (p1.toInt8.toInt32)), .val (.int (p2.toInt8.toInt32)), .val (.ref b64), .val (.ref b107), .val (.int (0 : Int32)), .val (.ref r160), .val (.int (1 : Int32)), .val (.ref r203)] [(.int (1 : Int32))])
        refine k_if_eq G X at_230 (pc' := 237) rfl (by decide) (pc'' := 233) rfl (fun c230 => (absurd c230 (by decide))) (fun c230 => ?_)
        refine k_iconst G X at_233 (pc' := 234) rfl (z := (1 : Int32)) (by decide) ?_
        refine k_goto G X at_234 (by decide) (pc' := 238) rfl ?_
        refine k_retb G X at_238 (t := .boolean) rfl (by simp) rfl ?_ (by decide) (by decide)
        rfl
      · refine k_iconst G X at_28 (pc' := 29) rfl (z := (1 : Int32)) (by decide) ?_
        refine k_goto G X at_29 (by decide) (pc' := 33) rfl ?_
        refine k_istore G X at_33 (pc' := 35) rfl (l' := #[.val (.int p0), .val (.int p1), .val (.int p2), .val (.int p3), .val (.int (2 : Int32)), .val (.int (0 : Int32)), .val (.int (1 : Int32)), .unset, .unset, .unset, .unset, .unset, .unset, .unset, .unset, .unset, .unset]) rfl ?_
        refine k_iload G X at_35 (pc' := 37) rfl rfl ?_
        refine k_if_eq G X at_37 (pc' := 46) rfl (by decide) (pc'' := 40) rfl (fun c37 => (absurd c37 (by decide))) (fun c37 => ?_)
        refine k_sipush G X at_40 (pc' := 43) rfl (z := (600 : Int32)) (by decide) ?_
        refine k_goto G X at_43 (by decide) (pc' := 48) rfl ?_
        refine k_istore G X at_48 (pc' := 50) rfl (l' := #[.val (.int p0), .val (.int p1), .val (.int p2), .val (.int p3), .val (.int (2 : Int32)), .val (.int (0 : Int32)), .val (.int (1 : Int32)), .val (.int (600 : Int32)), .unset, .unset, .unset, .unset, .unset, .unset, .unset, .unset, .unset]) rfl ?_
        refine k_iloadN G X at_50 (pc' := 51) rfl rfl ?_
        refine k_i2b G X at_51 (pc' := 52) rfl rfl ?_
        refine k_istore G X at_52 (pc' := 54) rfl (l' := #[.val (.int p0), .val (.int p1), .val (.int p2), .val (.int p3), .val (.int (2 : Int32)), .val (.int (0 : Int32)), .val (.int (1 : Int32)), .val (.int (600 : Int32)), .val (.int (p0.toInt8.toInt32)), .unset, .unset, .unset, .unset, .unset, .unset, .unset, .unset]) rfl ?_
        refine k_iloadN G X at_54 (pc' := 55) rfl rfl ?_
        refine k_i2b G X at_55 (pc' := 56) rfl rfl ?_
        refine k_istore G X at_56 (pc' := 58) rfl (l' := #[.val (.int p0), .val (.int p1), .val (.int p2), .val (.int p3), .val (.int (2 : Int32)), .val (.int (0 : Int32)), .val (.int (1 : Int32)), .val (.int (600 : Int32)), .val (.int (p0.toInt8.toInt32)), .val (.int (p1.toInt8.toInt32)), .unset, .unset, .unset, .unset, .unset, .unset, .unset]) rfl ?_
        refine k_iloadN G X at_58 (pc' := 59) rfl rfl ?_
        refine k_i2b G X at_59 (pc' := 60) rfl rfl ?_
        refine k_istore G X at_60 (pc' := 62) rfl (l' := #[.val (.int p0), .val (.int p1), .val (.int p2), .val (.int p3), .val (.int (2 : Int32)), .val (.int (0 : Int32)), .val (.int (1 : Int32)), .val (.int (600 : Int32)), .val (.int (p0.toInt8.toInt32)), .val (.int (p1.toInt8.toInt32)), .val (.int (p2.toInt8.toInt32)), .unset, .unset, .unset, .unset, .unset, .unset]) rfl ?_
        refine k_iload G X at_62 (pc' := 64) rfl rfl ?_
        refine k_newP G X (aty := .byte) (n := 600) (cap := 600) (w0 hw) at_64 (pc' := 66) rfl rfl (by decide) (by decide) (by decide) (by decide) (fun T h64 b64 k64 s_b64 E64 A_b64 X => ?_)
        have ne_aED_b64 : aED ≠ b64 := Nat.ne_of_lt (Nat.lt_of_lt_of_eq EED.lt s_b64)
        have ne_aDo_b64 : aDo ≠ b64 := Nat.ne_of_lt (Nat.lt_of_lt_of_eq EDo.lt s_b64)
        have ne_aEA_b64 : aEA ≠ b64 := Nat.ne_of_lt (Nat.lt_of_lt_of_eq EEA.lt s_b64)
        have ne_aAr_b64 : aAr ≠ b64 := Nat.ne_of_lt (Nat.lt_of_lt_of_eq EAr.lt s_b64)
        have ge_b64 : n0 ≤ b64 := Nat.le_trans (Jvm.OwnK.Old_le O) (Nat.le_of_eq s_b64)
        replace O := O.ext E64
        replace S_ED := S_ED.ext E64
        replace S_Do := S_Do.ext E64
        replace S_EA := S_EA.ext E64
        replace S_Ar := S_Ar.ext E64
        replace EED := EED.ext E64
        replace EDo := EDo.ext E64
        replace EEA := EEA.ext E64
        replace EAr := EAr.ext E64
        replace OED := OED.ext E64
        replace OEA := OEA.ext E64
        replace A_b64 : Arf Z h64 b64 k64 .byte 600 (fun _ => (.int (0 : Int32))) := A_b64
        refine k_astore G X at_66 (pc' := 68) rfl rfl (l' := #[.val (.int p0), .val (.int p1), .val (.int p2), .val (.int p3), .val (.int (2 : Int32)), .val (.int (0 : Int32)), .val (.int (1 : Int32)), .val (.int (600 : Int32)), .val (.int (p0.toInt8.toInt32)), .val (.int (p1.toInt8.toInt32)), .val (.int (p2.toInt8.toInt32)), .val (.ref b64), .unset, .unset, .unset, .unset, .unset]) rfl ?_
        refine k_iload G X at_68 (pc' := 70) rfl rfl ?_
        refine k_iconst G X at_70 (pc' := 71) rfl (z := (1 : Int32)) (by decide) ?_
        refine k_icmp_lt G X at_71 (pc' := 80) rfl (by decide) (pc'' := 74) rfl (fun c71 => (absurd c71 (by decide))) (fun c71 => ?_)
        refine k_aload G X at_74 (pc' := 76) rfl rfl rfl ?_
        refine k_iconst G X at_76 (pc' := 77) rfl (z := (0 : Int32)) (by decide) ?_
        refine k_iload G X at_77 (pc' := 79) rfl rfl ?_
        refine k_bastore G X (i := 0) (z := (p0.toInt8.toInt32)) A_b64 rfl (by decide) (by simp [nar]) ge_b64 at_79 (pc' := 80) rfl (fun T h79 W79 A_b64 X => ?_)
        replace O := O.wr W79 ge_b64
        replace S_ED := S_ED.wr W79
        replace S_Do := S_Do.wr W79
        replace S_EA := S_EA.wr W79
        replace S_Ar := S_Ar.wr W79
        replace EED := EED.wr W79
        replace EDo := EDo.wr W79
        replace EEA := EEA.wr W79
        replace EAr := EAr.wr W79
        replace OED := OED.other W79 (Or.inl ne_aED_b64)
        replace OEA := OEA.other W79 (Or.inl ne_aEA_b64)
        refine k_iload G X at_80 (pc' := 82) rfl rfl ?_
        refine k_iconst G X at_82 (pc' := 83) rfl (z := (2 : Int32)) (by decide) ?_
        refine k_icmp_lt G X at_83 (pc' := 92) rfl (by decide) (pc'' := 86) rfl (fun c83 => (absurd c83 (by decide))) (fun c83 => ?_)
        refine k_aload G X at_86 (pc' := 88) rfl rfl rfl ?_
        refine k_iconst G X at_88 (pc' := 89) rfl (z := (1 : Int32)) (by decide) ?_
        refine k_iload G X at_89 (pc' := 91) rfl rfl ?_
        refine k_bastore G X (i := 1) (z := (p1.toInt8.toInt32)) A_b64 rfl (by decide) (by simp [nar]) ge_b64 at_91 (pc' := 92) rfl (fun T h91 W91 A_b64 X => ?_)
        replace O := O.wr W91 ge_b64
        replace S_ED := S_ED.wr W91
        replace S_Do := S_Do.wr W91
        replace S_EA := S_EA.wr W91
        replace S_Ar := S_Ar.wr W91
        replace EED := EED.wr W91
        replace EDo := EDo.wr W91
        replace EEA := EEA.wr W91
        replace EAr := EAr.wr W91
        replace OED := OED.other W91 (Or.inl ne_aED_b64)
        replace OEA := OEA.other W91 (Or.inl ne_aEA_b64)
        refine k_iload G X at_92 (pc' := 94) rfl rfl ?_
        refine k_iconst G X at_94 (pc' := 95) rfl (z := (3 : Int32)) (by decide) ?_
        refine k_icmp_lt G X at_95 (pc' := 107) rfl (by decide) (pc'' := 98) rfl (fun c95 => (absurd c95 (by decide))) (fun c95 => ?_)
        refine k_aload G X at_98 (pc' := 100) rfl rfl rfl ?_
        refine k_iload G X at_100 (pc' := 102) rfl rfl ?_
        refine k_iconst G X at_102 (pc' := 103) rfl (z := (1 : Int32)) (by decide) ?_
        refine k_isub G X at_103 (pc' := 104) rfl (z := (599 : Int32)) (by decide) ?_
        refine k_iload G X at_104 (pc' := 106) rfl rfl ?_
        refine k_bastore G X (i := 599) (z := (p2.toInt8.toInt32)) A_b64 rfl (by decide) (by simp [nar]) ge_b64 at_106 (pc' := 107) rfl (fun T h106 W106 A_b64 X => ?_)
        replace O := O.wr W106 ge_b64
        replace S_ED := S_ED.wr W106
        replace S_Do := S_Do.wr W106
        replace S_EA := S_EA.wr W106
        replace S_Ar := S_Ar.wr W106
        replace EED := EED.wr W106
        replace EDo := EDo.wr W106
        replace EEA := EEA.wr W106
        replace EAr := EAr.wr W106
        replace OED := OED.other W106 (Or.inl ne_aED_b64)
        replace OEA := OEA.other W106 (Or.inl ne_aEA_b64)
        refine k_new G X (w1 hw) (w2 hw) (w3 hw) at_107 (pc' := 110) rfl (by decide) (by decide) (fun T h107 b107 s_b107 E107 X_b107 D107 X => ?_)
        have ne_aED_b107 : aED ≠ b107 := Nat.ne_of_lt (Nat.lt_of_lt_of_eq EED.lt s_b107)
        have ne_aDo_b107 : aDo ≠ b107 := Nat.ne_of_lt (Nat.lt_of_lt_of_eq EDo.lt s_b107)
        have ne_aEA_b107 : aEA ≠ b107 := Nat.ne_of_lt (Nat.lt_of_lt_of_eq EEA.lt s_b107)
        have ne_aAr_b107 : aAr ≠ b107 := Nat.ne_of_lt (Nat.lt_of_lt_of_eq EAr.lt s_b107)
        have ne_b64_b107 : b64 ≠ b107 := Nat.ne_of_lt (Nat.lt_of_lt_of_eq A_b64.lt s_b107)
        have ge_b107 : n0 ≤ b107 := Nat.le_trans (Jvm.OwnK.Old_le O) (Nat.le_of_eq s_b107)
        replace O := O.ext E107
        replace S_ED := S_ED.ext E107
        replace S_Do := S_Do.ext E107
        replace S_EA := S_EA.ext E107
        replace S_Ar := S_Ar.ext E107
        replace EED := EED.ext E107
        replace EDo := EDo.ext E107
        replace EEA := EEA.ext E107
        replace EAr := EAr.ext E107
        replace OED := OED.ext E107
        replace OEA := OEA.ext E107
        replace A_b64 := A_b64.ext E107
        have F_b107_names : Fld Z h107 b107 "com/example/changeline/changeline/format/JsonOutput" "names" "Ljava/util/Map;" .null := D107 (Or.inr (w33 hw)) (ty := (.object "java/util/Map")) (by decide)
        have F_b107_bytes : Fld Z h107 b107 "com/example/changeline/changeline/format/JsonOutput" "bytes" "[B" .null := D107 (Or.inl (w35 hw)) (ty := (.array .byte)) (by decide)
        have F_b107_scopes : Fld Z h107 b107 "com/example/changeline/changeline/format/JsonOutput" "scopes" "[Lcom/example/changeline/changeline/format/JsonOutput$Scope;" .null := D107 (Or.inl (w39 hw)) (ty := (.array (.object "com/example/changeline/changeline/format/JsonOutput$Scope"))) (by decide)
        have F_b107_depth : Fld Z h107 b107 "com/example/changeline/changeline/format/JsonOutput" "depth" "I" (.int (0 : Int32)) := D107 (Or.inl (w41 hw)) (ty := .int) (by decide)
        have F_b107_length : Fld Z h107 b107 "com/example/changeline/changeline/format/JsonOutput" "length" "I" (.int (0 : Int32)) := D107 (Or.inl (w71 hw)) (ty := .int) (by decide)
        refine k_dup G X at_110 (pc' := 111) rfl rfl ?_
        refine k_callI G X (argsL := []) (rest := [(.ref b107)]) rfl rfl (w4 hw) (w5 hw) (w3 hw) (w6 hw) (by decide) (jo_init hw b107 aED h107 n0 ge_b107 O X_b107 F_b107_names F_b107_bytes F_b107_length F_b107_scopes F_b107_depth S_ED EED) at_111 pd0 rfl (pc' := 114) rfl rfl (wd := 1) rfl (by decide) (by decide) (by decide) (by decide) (fun T h111 v X q => ?_)
        obtain ⟨rfl, K111, E', b, sc, kb, ks, sz_b, sz_sc, ne_b_sc, FB, FL, FS, FD, BA, SCA, SO⟩ := q
        have ne_aED_b : aED ≠ b := Nat.ne_of_lt (Nat.lt_of_lt_of_le EED.lt sz_b)
        have ne_aED_sc : aED ≠ sc := Nat.ne_of_lt (Nat.lt_of_lt_of_le EED.lt sz_sc)
        have ne_aDo_b : aDo ≠ b := Nat.ne_of_lt (Nat.lt_of_lt_of_le EDo.lt sz_b)
        have ne_aDo_sc : aDo ≠ sc := Nat.ne_of_lt (Nat.lt_of_lt_of_le EDo.lt sz_sc)
        have ne_aEA_b : aEA ≠ b := Nat.ne_of_lt (Nat.lt_of_lt_of_le EEA.lt sz_b)
        have ne_aEA_sc : aEA ≠ sc := Nat.ne_of_lt (Nat.lt_of_lt_of_le EEA.lt sz_sc)
        have ne_aAr_b : aAr ≠ b := Nat.ne_of_lt (Nat.lt_of_lt_of_le EAr.lt sz_b)
        have ne_aAr_sc : aAr ≠ sc := Nat.ne_of_lt (Nat.lt_of_lt_of_le EAr.lt sz_sc)
        have ne_b64_b : b64 ≠ b := Nat.ne_of_lt (Nat.lt_of_lt_of_le A_b64.lt sz_b)
        have ne_b64_sc : b64 ≠ sc := Nat.ne_of_lt (Nat.lt_of_lt_of_le A_b64.lt sz_sc)
        have ne_o_b : b107 ≠ b := Nat.ne_of_lt (Nat.lt_of_lt_of_le X_b107.lt sz_b)
        have ge_b : n0 ≤ b := Nat.le_trans (Old_le O) sz_b
        have ne_o_sc : b107 ≠ sc := Nat.ne_of_lt (Nat.lt_of_lt_of_le X_b107.lt sz_sc)
        have ge_sc : n0 ≤ sc := Nat.le_trans (Old_le O) sz_sc
        replace S_ED := Sta_keepL S_ED K111 (allS (Pln_exa X_b107) (all0))
        replace S_Do := Sta_keepL S_Do K111 (allS (Pln_exa X_b107) (all0))
        replace S_EA := Sta_keepL S_EA K111 (allS (Pln_exa X_b107) (all0))
        replace S_Ar := Sta_keepL S_Ar K111 (allS (Pln_exa X_b107) (all0))
        replace O := O.keep K111 (allS ge_b107 (all0))
        replace EED := EED.keep K111
        replace EDo := EDo.keep K111
        replace EEA := EEA.keep K111
        replace EAr := EAr.keep K111
        replace OED := OED.keep K111 (by simp only [List.mem_cons, List.not_mem_nil, or_false, not_or]; exact ne_aED_b107)
        replace OEA := OEA.keep K111 (by simp only [List.mem_cons, List.not_mem_nil, or_false, not_or]; exact ne_aEA_b107)
        replace A_b64 := A_b64.keep K111 (by simp only [List.mem_cons, List.not_mem_nil, or_false, not_or]; exact ne_b64_b107)
        replace X_b107 := X_b107.keep K111
        show Go Γ n0 _ T (mkF Γ.m 114 #[.val (.int p0), .val (.int p1), .val (.int p2), .val (.int p3), .val (.int (2 : Int32)), .val (.int (0 : Int32)), .val (.int (1 : Int32)), .val (.int (600 : Int32)), .val (.int (p0.toInt8.toInt32)), .val (.int (p1.toInt8.toInt32)), .val (.int (p2.toInt8.toInt32)), .val (.ref b64), .unset, .unset, .unset, .unset, .unset] [(.ref b107)])
        refine k_astore G X at_114 (pc' := 116) rfl rfl (l' := #[.val (.int p0), .val (.int p1), .val (.int p2), .val (.int p3), .val (.int (2 : Int32)), .val (.int (0 : Int32)), .val (.int (1 : Int32)), .val (.int (600 : Int32)), .val (.int (p0.toInt8.toInt32)), .val (.int (p1.toInt8.toInt32)), .val (.int (p2.toInt8.toInt32)), .val (.ref b64), .val (.ref b107), .unset, .unset, .unset, .unset]) rfl ?_
        refine k_iload G X at_116 (pc' := 118) rfl rfl ?_
        refine k_if_eq G X at_118 (pc' := 127) rfl (by decide) (pc'' := 121) rfl (fun c118 => ?_) (fun c118 => (absurd c118 (by decide)))
        refine k_aload G X at_127 (pc' := 129) rfl rfl rfl ?_
        refine k_aload G X at_129 (pc' := 131) rfl rfl rfl ?_
        refine k_callV G X (argsL := [(.ref b64)]) (rest := []) rfl X_b107 (w46 hw) (w47 hw) (nf_sel (w49 hw)) (w49 hw) (w48 hw) (w3 hw) (w50 hw) (by decide) (jv01 hw b107 b b64 sc aED aDo kb k64 ks 0 600 (0 : Int32) (600 : Int32) (600 : Int32) _ _ _ h111 n0 ge_b107 ge_sc O X_b107 FB FL FS FD SCA SO ne_o_sc rfl rfl rfl BA A_b64 EED OED EDo S_Do rfl ne_aED_sc ne_o_b.symm ne_b64_b107 ne_b64_b ne_b_sc ne_b64_sc (by decide) (by decide)) at_131 pd9 rfl (pc' := 134) rfl rfl (wd := 0) rfl (by decide) (by decide) (by decide) (by decide) (fun T h131 v X q => ?_)
        obtain ⟨rfl, K131, E', SCA', b', kb', sz_b', FB', FL', FS', FD', BA'⟩ := q
        have ne_o_b' : b107 ≠ b' := Nat.ne_of_lt (Nat.lt_of_lt_of_le X_b107.lt sz_b')
        have ne_sc_b' : sc ≠ b' := Nat.ne_of_lt (Nat.lt_of_lt_of_le SCA.lt sz_b')
        have ge_b' : n0 ≤ b' := Nat.le_trans (Old_le O) sz_b'
        replace S_ED := Sta_keepL S_ED K131 (allS (Pln_arf SCA) (allS (Pln_exa X_b107) (all0)))
        replace S_Do := Sta_keepL S_Do K131 (allS (Pln_arf SCA) (allS (Pln_exa X_b107) (all0)))
        replace S_EA := Sta_keepL S_EA K131 (allS (Pln_arf SCA) (allS (Pln_exa X_b107) (all0)))
        replace S_Ar := Sta_keepL S_Ar K131 (allS (Pln_arf SCA) (allS (Pln_exa X_b107) (all0)))
        replace O := O.keep K131 (allS ge_sc (allS ge_b107 (all0)))
        replace EED := EED.keep K131
        replace EDo := EDo.keep K131
        replace EEA := EEA.keep K131
        replace EAr := EAr.keep K131
        replace X_b107 := X_b107.keep K131
        have FB := FB'
        have FL := FL'
        have FS := FS'
        have FD := FD'
        have BA := BA'
        have SCA := SCA'
        show Go Γ n0 _ T (mkF Γ.m 134 #[.val (.int p0), .val (.int p1), .val (.int p2), .val (.int p3), .val (.int (2 : Int32)), .val (.int (0 : Int32)), .val (.int (1 : Int32)), .val (.int (600 : Int32)), .val (.int (p0.toInt8.toInt32)), .val (.int (p1.toInt8.toInt32)), .val (.int (p2.toInt8.toInt32)), .val (.ref b64), .val (.ref b107), .unset, .unset, .unset, .unset] [(.ref b107)])
        refine k_pop G X at_134 (pc' := 135) rfl rfl ?_
        refine k_iload G X at_135 (pc' := 137) rfl rfl ?_
        refine k_if_eq G X at_137 (pc' := 146) rfl (by decide) (pc'' := 140) rfl (fun c137 => ?_) (fun c137 => (absurd c137 (by decide)))
        refine k_iload G X at_146 (pc' := 148) rfl rfl ?_
        refine k_if_eq G X at_148 (pc' := 155) rfl (by decide) (pc'' := 151) rfl (fun c148 => ?_) (fun c148 => (absurd c148 (by decide)))
        refine k_iconst G X at_155 (pc' := 156) rfl (z := (0 : Int32)) (by decide) ?_
        refine k_istore G X at_156 (pc' := 158) rfl (l' := #[.val (.int p0), .val (.int p1), .val (.int p2), .val (.int p3), .val (.int (2 : Int32)), .val (.int (0 : Int32)), .val (.int (1 : Int32)), .val (.int (600 : Int32)), .val (.int (p0.toInt8.toInt32)), .val (.int (p1.toInt8.toInt32)), .val (.int (p2.toInt8.toInt32)), .val (.ref b64), .val (.ref b107), .val (.int (0 : Int32)), .unset, .unset, .unset]) rfl ?_
        refine k_aload G X at_158 (pc' := 160) rfl rfl rfl ?_
        refine k_callV G X (argsL := []) (rest := []) rfl X_b107 (w80 hw) (w81 hw) (nf_sel (w83 hw)) (w83 hw) (w82 hw) (w3 hw) (w84 hw) (by decide) (toB hw b107 b' kb' 600 1024 (600 : Int32) (1024 : Int32) _ h131 n0 O FB FL rfl rfl (by decide) (by decide) BA) at_160 pd10 rfl (pc' := 163) rfl rfl (wd := 0) rfl (by decide) (by decide) (by decide) (by decide) (fun T h160 v X q => ?_)
        obtain ⟨r160, kr160, rfl, sz_r160, K160, R160⟩ := q
        have ge_r160 : n0 ≤ r160 := Nat.le_trans (Old_le O) sz_r160
        have ne_aED_r160 : aED ≠ r160 := Nat.ne_of_lt (Nat.lt_of_lt_of_le EED.lt sz_r160)
        have ne_aDo_r160 : aDo ≠ r160 := Nat.ne_of_lt (Nat.lt_of_lt_of_le EDo.lt sz_r160)
        have ne_aEA_r160 : aEA ≠ r160 := Nat.ne_of_lt (Nat.lt_of_lt_of_le EEA.lt sz_r160)
        have ne_aAr_r160 : aAr ≠ r160 := Nat.ne_of_lt (Nat.lt_of_lt_of_le EAr.lt sz_r160)
        have ne_b107_r160 : b107 ≠ r160 := Nat.ne_of_lt (Nat.lt_of_lt_of_le X_b107.lt sz_r160)
        have ne_b'_r160 : b' ≠ r160 := Nat.ne_of_lt (Nat.lt_of_lt_of_le BA.lt sz_r160)
        have ne_sc_r160 : sc ≠ r160 := Nat.ne_of_lt (Nat.lt_of_lt_of_le SCA.lt sz_r160)
        replace S_ED := Jvm.OwnK.Sta_keep S_ED K160
        replace S_Do := Jvm.OwnK.Sta_keep S_Do K160
        replace S_EA := Jvm.OwnK.Sta_keep S_EA K160
        replace S_Ar := Jvm.OwnK.Sta_keep S_Ar K160
        replace O := O.keep K160 (all0)
        replace EED := EED.keep K160
        replace EDo := EDo.keep K160
        replace EEA := EEA.keep K160
        replace EAr := EAr.keep K160
        replace X_b107 := X_b107.keep K160
        replace FB := FB.keep K160 nin0
        replace FL := FL.keep K160 nin0
        replace FS := FS.keep K160 nin0
        replace FD := FD.keep K160 nin0
        replace BA := BA.keep K160 nin0
        replace SCA := SCA.keep K160 nin0
        show Go Γ n0 _ T (mkF Γ.m 163 #[.val (.int p0), .val (.int p1), .val (.int p2), .val (.int p3), .val (.int (2 : Int32)), .val (.int (0 : Int32)), .val (.int (1 : Int32)), .val (.int (600 : Int32)), .val (.int (p0.toInt8.toInt32)), .val (.int (p1.toInt8.toInt32)), .val (.int (p2.toInt8.toInt32)), .val (.ref b64), .val (.ref b107), .val (.int (0 : Int32)), .unset, .unset, .unset] [(.ref r160)])
        refine k_astore G X at_163 (pc' := 165) rfl rfl (l' := #[.val (.int p0), .val (.int p1), .val (.int p2), .val (.int p3), .val (.int (2 : Int32)), .val (.int (0 : Int32)), .val (.int (1 : Int32)), .val (.int (600 : Int32)), .val (.int (p0.toInt8.toInt32)), .val (.int (p1.toInt8.toInt32)), .val (.int (p2.toInt8.toInt32)), .val (.ref b64), .val (.ref b107), .val (.int (0 : Int32)), .val (.ref r160), .unset, .unset]) rfl ?_
        refine k_aload G X at_165 (pc' := 167) rfl rfl rfl ?_
        refine k_iload G X at_167 (pc' := 169) rfl rfl ?_
        refine k_iload G X at_169 (pc' := 171) rfl rfl ?_
        refine k_iload G X at_171 (pc' := 173) rfl rfl ?_
        refine k_iload G X at_173 (pc' := 175) rfl rfl ?_
        refine k_iload G X at_175 (pc' := 177) rfl rfl ?_
        refine k_iload G X at_177 (pc' := 179) rfl rfl ?_
        refine k_callS G X (argsL := [(.ref r160), (.int (600 : Int32)), (.int (0 : Int32)), (.int (p0.toInt8.toInt32)), (.int (p1.toInt8.toInt32)), (.int (p2.toInt8.toInt32)), (.int (1 : Int32))]) (rest := []) rfl (w94 hw) (w95 hw) (w96 hw) (w97 hw) (by decide) (chk_600_0 hw r160 kr160 _ (p0.toInt8.toInt32) (p1.toInt8.toInt32) (p2.toInt8.toInt32) h160 n0 R160 (by rfl) (by rfl) (by rfl) (by rfl)) at_179 pd11 rfl (pc' := 182) rfl rfl (wd := 0) rfl (by decide) (by decide) (by decide) (by decide) (fun T h179 v X q => ?_)
        obtain ⟨rfl, e179⟩ := q
        replace X := X.eq e179
        show Go Γ n0 _ T (mkF Γ.m 182 #[.val (.int p0), .val (.int p1), .val (.int p2), .val (.int p3), .val (.int (2 : Int32)), .val (.int (0 : Int32)), .val (.int (1 : Int32)), .val (.int (600 : Int32)), .val (.int (p0.toInt8.toInt32)), .val (.int (p1.toInt8.toInt32)), .val (.int (p2.toInt8.toInt32)), .val (.ref b64), .val (.ref b107), .val (.int (0 : Int32)), .val (.ref r160), .unset, .unset] [(.int (1 : Int32))])
        refine k_istore G X at_182 (pc' := 184) rfl (l' := #[.val (.int p0), .val (.int p1), .val (.int p2), .val (.int p3), .val (.int (2 : Int32)), .val (.int (0 : Int32)), .val (.int (1 : Int32)), .val (.int (600 : Int32)), .val (.int (p0.toInt8.toInt32)), .val (.int (p1.toInt8.toInt32)), .val (.int (p2.toInt8.toInt32)), .val (.ref b64), .val (.ref b107), .val (.int (0 : Int32)), .val (.ref r160), .val (.int (1 : Int32)), .unset]) rfl ?_
        refine k_aload G X at_184 (pc' := 186) rfl rfl rfl ?_
        refine k_alen G X (z := (600 : Int32)) R160 rfl at_186 (pc' := 187) rfl ?_
        refine k_if_le G X at_187 (pc' := 201) rfl (by decide) (pc'' := 190) rfl (fun c187 => (absurd c187 (by decide))) (fun c187 => ?_)
        refine k_aload G X at_190 (pc' := 192) rfl rfl rfl ?_
        refine k_iconst G X at_192 (pc' := 193) rfl (z := (0 : Int32)) (by decide) ?_
        refine k_aload G X at_193 (pc' := 195) rfl rfl rfl ?_
        refine k_iconst G X at_195 (pc' := 196) rfl (z := (0 : Int32)) (by decide) ?_
        refine k_baload G X (i := 0) (v := (.int (p0.toInt8.toInt32))) R160 rfl (by decide) (by rfl) at_196 (pc' := 197) rfl ?_
        refine k_iconst G X at_197 (pc' := 198) rfl (z := (1 : Int32)) (by decide) ?_
        refine k_ixor G X at_198 (pc' := 199) rfl rfl ?_
        refine k_i2b G X at_199 (pc' := 200) rfl rfl ?_
        refine k_bastore G X (i := 0) (z := ((((p0.toInt8.toInt32) ^^^ (1 : Int32)).toInt8.toInt32))) R160 rfl (by decide) (by simp [nar]) ge_r160 at_200 (pc' := 201) rfl (fun T h200 W200 R160 X => ?_)
        replace O := O.wr W200 ge_r160
        replace S_ED := S_ED.wr W200
        replace S_Do := S_Do.wr W200
        replace S_EA := S_EA.wr W200
        replace S_Ar := S_Ar.wr W200
        replace EED := EED.wr W200
        replace EDo := EDo.wr W200
        replace EEA := EEA.wr W200
        replace EAr := EAr.wr W200
        replace X_b107 := X_b107.wr W200
        replace FB := FB.other W200 (Or.inl ne_b107_r160)
        replace FL := FL.other W200 (Or.inl ne_b107_r160)
        replace FS := FS.other W200 (Or.inl ne_b107_r160)
        replace FD := FD.other W200 (Or.inl ne_b107_r160)
        replace BA := BA.other W200 ne_b'_r160
        replace SCA := SCA.other W200 ne_sc_r160
        refine k_aload G X at_201 (pc' := 203) rfl rfl rfl ?_
        refine k_callV G X (argsL := []) (rest := []) rfl X_b107 (w80 hw) (w81 hw) (nf_sel (w83 hw)) (w83 hw) (w82 hw) (w3 hw) (w84 hw) (by decide) (toB hw b107 b' kb' 600 1024 (600 : Int32) (1024 : Int32) _ h200 n0 O FB FL rfl rfl (by decide) (by decide) BA) at_203 pd10 rfl (pc' := 206) rfl rfl (wd := 0) rfl (by decide) (by decide) (by decide) (by decide) (fun T h203 v X q => ?_)
        obtain ⟨r203, kr203, rfl, sz_r203, K203, R203⟩ := q
        have ge_r203 : n0 ≤ r203 := Nat.le_trans (Old_le O) sz_r203
        replace S_ED := Jvm.OwnK.Sta_keep S_ED K203
        replace S_Do := Jvm.OwnK.Sta_keep S_Do K203
        replace S_EA := Jvm.OwnK.Sta_keep S_EA K203
        replace S_Ar := Jvm.OwnK.Sta_keep S_Ar K203
        replace O := O.keep K203 (all0)
        replace EED := EED.keep K203
        replace EDo := EDo.keep K203
        replace EEA := EEA.keep K203
        replace EAr := EAr.keep K203
        replace X_b107 := X_b107.keep K203
        replace FB := FB.keep K203 nin0
        replace FL := FL.keep K203 nin0
        replace FS := FS.keep K203 nin0
        replace FD := FD.keep K203 nin0
        replace BA := BA.keep K203 nin0
        replace SCA := SCA.keep K203 nin0
        replace R160 := R160.keep K203 nin0
        show Go Γ n0 _ T (mkF Γ.m 206 #[.val (.int p0), .val (.int p1), .val (.int p2), .val (.int p3), .val (.int (2 : Int32)), .val (.int (0 : Int32)), .val (.int (1 : Int32)), .val (.int (600 : Int32)), .val (.int (p0.toInt8.toInt32)), .val (.int (p1.toInt8.toInt32)), .val (.int (p2.toInt8.toInt32)), .val (.ref b64), .val (.ref b107), .val (.int (0 : Int32)), .val (.ref r160), .val (.int (1 : Int32)), .unset] [(.ref r203)])
        refine k_astore G X at_206 (pc' := 208) rfl rfl (l' := #[.val (.int p0), .val (.int p1), .val (.int p2), .val (.int p3), .val (.int (2 : Int32)), .val (.int (0 : Int32)), .val (.int (1 : Int32)), .val (.int (600 : Int32)), .val (.int (p0.toInt8.toInt32)), .val (.int (p1.toInt8.toInt32)), .val (.int (p2.toInt8.toInt32)), .val (.ref b64), .val (.ref b107), .val (.int (0 : Int32)), .val (.ref r160), .val (.int (1 : Int32)), .val (.ref r203)]) rfl ?_
        refine k_iload G X at_208 (pc' := 210) rfl rfl ?_
        refine k_if_eq G X at_210 (pc' := 237) rfl (by decide) (pc'' := 213) rfl (fun c210 => (absurd c210 (by decide))) (fun c210 => ?_)
        refine k_aload G X at_213 (pc' := 215) rfl rfl rfl ?_
        refine k_iload G X at_215 (pc' := 217) rfl rfl ?_
        refine k_iload G X at_217 (pc' := 219) rfl rfl ?_
        refine k_iload G X at_219 (pc' := 221) rfl rfl ?_
        refine k_iload G X at_221 (pc' := 223) rfl rfl ?_
        refine k_iload G X at_223 (pc' := 225) rfl rfl ?_
        refine k_iload G X at_225 (pc' := 227) rfl rfl ?_
        refine k_callS G X (argsL := [(.ref r203), (.int (600 : Int32)), (.int (0 : Int32)), (.int (p0.toInt8.toInt32)), (.int (p1.toInt8.toInt32)), (.int (p2.toInt8.toInt32)), (.int (1 : Int32))]) (rest := []) rfl (w94 hw) (w95 hw) (w96 hw) (w97 hw) (by decide) (chk_600_0 hw r203 kr203 _ (p0.toInt8.toInt32) (p1.toInt8.toInt32) (p2.toInt8.toInt32) h203 n0 R203 (by rfl) (by rfl) (by rfl) (by rfl)) at_227 pd11 rfl (pc' := 230) rfl rfl (wd := 0) rfl (by decide) (by decide) (by decide) (by decide) (fun T h227 v X q => ?_)
        obtain ⟨rfl, e227⟩ := q
        replace X := X.eq e227
        show Go Γ n0 _ T (mkF Γ.m 230 #[.val (.int p0), .val (.int p1), .val (.int p2), .val (.int p3), .val (.int (2 : Int32)), .val (.int (0 : Int32)), .val (.int (1 : Int32)), .val (.int (600 : Int32)), .val (.int (p0.toInt8.toInt32)), .val (.int (p1.toInt8.toInt32)), .val (.int (p2.toInt8.toInt32)), .val (.ref b64), .val (.ref b107), .val (.int (0 : Int32)), .val (.ref r160), .val (.int (1 : Int32)), .val (.ref r203)] [(.int (1 : Int32))])
        refine k_if_eq G X at_230 (pc' := 237) rfl (by decide) (pc'' := 233) rfl (fun c230 => (absurd c230 (by decide))) (fun c230 => ?_)
        refine k_iconst G X at_233 (pc' := 234) rfl (z := (1 : Int32)) (by decide) ?_
        refine k_goto G X at_234 (by decide) (pc' := 238) rfl ?_
        refine k_retb G X at_238 (t := .boolean) rfl (by simp) rfl ?_ (by decide) (by decide)
        rfl
    · refine k_iconst G X at_13 (pc' := 14) rfl (z := (1 : Int32)) (by decide) ?_
      refine k_goto G X at_14 (by decide) (pc' := 18) rfl ?_
      refine k_istore G X at_18 (pc' := 20) rfl (l' := #[.val (.int p0), .val (.int p1), .val (.int p2), .val (.int p3), .val (.int (2 : Int32)), .val (.int (1 : Int32)), .unset, .unset, .unset, .unset, .unset, .unset, .unset, .unset, .unset, .unset, .unset]) rfl ?_
      refine k_iloadN G X at_20 (pc' := 21) rfl rfl ?_
      refine k_iconst G X at_21 (pc' := 22) rfl (z := (3 : Int32)) (by decide) ?_
      refine k_ishr G X at_22 (pc' := 23) rfl rfl ?_
      refine k_iconst G X at_23 (pc' := 24) rfl (z := (1 : Int32)) (by decide) ?_
      refine k_iand G X at_24 (pc' := 25) rfl rfl ?_
      refine k_if_eq G X at_25 (pc' := 32) rfl (by decide) (pc'' := 28) rfl (fun c25 => ?_) (fun c25 => ?_)
      · refine k_iconst G X at_32 (pc' := 33) rfl (z := (0 : Int32)) (by decide) ?_
        refine k_istore G X at_33 (pc' := 35) rfl (l' := #[.val (.int p0), .val (.int p1), .val (.int p2), .val (.int p3), .val (.int (2 : Int32)), .val (.int (1 : Int32)), .val (.int (0 : Int32)), .unset, .unset, .unset, .unset, .unset, .unset, .unset, .unset, .unset, .unset]) rfl ?_
        refine k_iload G X at_35 (pc' := 37) rfl rfl ?_
        refine k_if_eq G X at_37 (pc' := 46) rfl (by decide) (pc'' := 40) rfl (fun c37 => ?_) (fun c37 => (absurd c37 (by decide)))
        refine k_iload G X at_46 (pc' := 48) rfl rfl ?_
        refine k_istore G X at_48 (pc' := 50) rfl (l' := #[.val (.int p0), .val (.int p1), .val (.int p2), .val (.int p3), .val (.int (2 : Int32)), .val (.int (1 : Int32)), .val (.int (0 : Int32)), .val (.int (2 : Int32)), .unset, .unset, .unset, .unset, .unset, .unset, .unset, .unset, .unset]) rfl ?_
        refine k_iloadN G X at_50 (pc' := 51) rfl rfl ?_
        refine k_i2b G X at_51 (pc' := 52) rfl rfl ?_
        refine k_istore G X at_52 (pc' := 54) rfl (l' := #[.val (.int p0), .val (.int p1), .val (.int p2), .val (.int p3), .val (.int (2 : Int32)), .val (.int (1 : Int32)), .val (.int (0 : Int32)), .val (.int (2 : Int32)), .val (.int (p0.toInt8.toInt32)), .unset, .unset, .unset, .unset, .unset, .unset, .unset, .unset]) rfl ?_
        refine k_iloadN G X at_54 (pc' := 55) rfl rfl ?_
        refine k_i2b G X at_55 (pc' := 56) rfl rfl ?_
        refine k_istore G X at_56 (pc' := 58) rfl (l' := #[.val (.int p0), .val (.int p1), .val (.int p2), .val (.int p3), .val (.int (2 : Int32)), .val (.int (1 : Int32)), .val (.int (0 : Int32)), .val (.int (2 : Int32)), .val (.int (p0.toInt8.toInt32)), .val (.int (p1.toInt8.toInt32)), .unset, .unset, .unset, .unset, .unset, .unset, .unset]) rfl ?_
        refine k_iloadN G X at_58 (pc' := 59) rfl rfl ?_
        refine k_i2b G X at_59 (pc' := 60) rfl rfl ?_
        refine k_istore G X at_60 (pc' := 62) rfl (l' := #[.val (.int p0), .val (.int p1), .val (.int p2), .val (.int p3), .val (.int (2 : Int32)), .val (.int (1 : Int32)), .val (.int (0 : Int32)), .val (.int (2 : Int32)), .val (.int (p0.toInt8.toInt32)), .val (.int (p1.toInt8.toInt32)), .val (.int (p2.toInt8.toInt32)), .unset, .unset, .unset, .unset, .unset, .unset]) rfl ?_
        refine k_iload G X at_62 (pc' := 64) rfl rfl ?_
        refine k_newP G X (aty := .byte) (n := 2) (cap := 2) (w0 hw) at_64 (pc' := 66) rfl rfl (by decide) (by decide) (by decide) (by decide) (fun T h64 b64 k64 s_b64 E64 A_b64 X => ?_)
        have ne_aED_b64 : aED ≠ b64 := Nat.ne_of_lt (Nat.lt_of_lt_of_eq EED.lt s_b64)
        have ne_aDo_b64 : aDo ≠ b64 := Nat.ne_of_lt (Nat.lt_of_lt_of_eq EDo.lt s_b64)
        have ne_aEA_b64 : aEA ≠ b64 := Nat.ne_of_lt (Nat.lt_of_lt_of_eq EEA.lt s_b64)
        have ne_aAr_b64 : aAr ≠ b64 := Nat.ne_of_lt (Nat.lt_of_lt_of_eq EAr.lt s_b64)
        have ge_b64 : n0 ≤ b64 := Nat.le_trans (Jvm.OwnK.Old_le O) (Nat.le_of_eq s_b64)
        replace O := O.ext E64
        replace S_ED := S_ED.ext E64
        replace S_Do := S_Do.ext E64
        replace S_EA := S_EA.ext E64
        replace S_Ar := S_Ar.ext E64
        replace EED := EED.ext E64
        replace EDo := EDo.ext E64
        replace EEA := EEA.ext E64
        replace EAr := EAr.ext E64
        replace OED := OED.ext E64
        replace OEA := OEA.ext E64
        replace A_b64 : Arf Z h64 b64 k64 .byte 2 (fun _ => (.int (0 : Int32))) := A_b64
        refine k_astore G X at_66 (pc' := 68) rfl rfl (l' := #[.val (.int p0), .val (.int p1), .val (.int p2), .val (.int p3), .val (.int (2 : Int32)), .val (.int (1 : Int32)), .val (.int (0 : Int32)), .val (.int (2 : Int32)), .val (.int (p0.toInt8.toInt32)), .val (.int (p1.toInt8.toInt32)), .val (.int (p2.toInt8.toInt32)), .val (.ref b64), .unset, .unset, .unset, .unset, .unset]) rfl ?_
        refine k_iload G X at_68 (pc' := 70) rfl rfl ?_
        refine k_iconst G X at_70 (pc' := 71) rfl (z := (1 : Int32)) (by decide) ?_
        refine k_icmp_lt G X at_71 (pc' := 80) rfl (by decide) (pc'' := 74) rfl (fun c71 => (absurd c71 (by decide))) (fun c71 => ?_)
        refine k_aload G X at_74 (pc' := 76) rfl rfl rfl ?_
        refine k_iconst G X at_76 (pc' := 77) rfl (z := (0 : Int32)) (by decide) ?_
        refine k_iload G X at_77 (pc' := 79) rfl rfl ?_
        refine k_bastore G X (i := 0) (z := (p0.toInt8.toInt32)) A_b64 rfl (by decide) (by simp [nar]) ge_b64 at_79 (pc' := 80) rfl (fun T h79 W79 A_b64 X => ?_)
        replace O := O.wr W79 ge_b64
        replace S_ED := S_ED.wr W79
        replace S_Do := S_Do.wr W79
        replace S_EA := S_EA.wr W79
        replace S_Ar := S_Ar.wr W79
        replace EED := EED.wr W79
        replace EDo := EDo.wr W79
        replace EEA := EEA.wr W79
        replace EAr := EAr.wr W79
        replace OED := OED.other W79 (Or.inl ne_aED_b64)
        replace OEA := OEA.other W79 (Or.inl ne_aEA_b64)
        refine k_iload G X at_80 (pc' := 82) rfl rfl ?_
        refine k_iconst G X at_82 (pc' := 83) rfl (z := (2 : Int32)) (by decide) ?_
        refine k_icmp_lt G X at_83 (pc' := 92) rfl (by decide) (pc'' := 86) rfl (fun c83 => (absurd c83 (by decide))) (fun c83 => ?_)
        refine k_aload G X at_86 (pc' := 88) rfl rfl rfl ?_
        refine k_iconst G X at_88 (pc' := 89) rfl (z := (1 : Int32)) (by decide) ?_
        refine k_iload G X at_89 (pc' := 91) rfl rfl ?_
        refine k_bastore G X (i := 1) (z := (p1.toInt8.toInt32)) A_b64 rfl (by decide) (by simp [nar]) ge_b64 at_91 (pc' := 92) rfl (fun T h91 W91 A_b64 X => ?_)
        replace O := O.wr W91 ge_b64
        replace S_ED := S_ED.wr W91
        replace S_Do := S_Do.wr W91
        replace S_EA := S_EA.wr W91
        replace S_Ar := S_Ar.wr W91
        replace EED := EED.wr W91
        replace EDo := EDo.wr W91
        replace EEA := EEA.wr W91
        replace EAr := EAr.wr W91
        replace OED := OED.other W91 (Or.inl ne_aED_b64)
        replace OEA := OEA.other W91 (Or.inl ne_aEA_b64)
        refine k_iload G X at_92 (pc' := 94) rfl rfl ?_
        refine k_iconst G X at_94 (pc' := 95) rfl (z := (3 : Int32)) (by decide) ?_
        refine k_icmp_lt G X at_95 (pc' := 107) rfl (by decide) (pc'' := 98) rfl (fun c95 => ?_) (fun c95 => (absurd c95 (by decide)))
        refine k_new G X (w1 hw) (w2 hw) (w3 hw) at_107 (pc' := 110) rfl (by decide) (by decide) (fun T h107 b107 s_b107 E107 X_b107 D107 X => ?_)
        have ne_aED_b107 : aED ≠ b107 := Nat.ne_of_lt (Nat.lt_of_lt_of_eq EED.lt s_b107)
        have ne_aDo_b107 : aDo ≠ b107 := Nat.ne_of_lt (Nat.lt_of_lt_of_eq EDo.lt s_b107)
        have ne_aEA_b107 : aEA ≠ b107 := Nat.ne_of_lt (Nat.lt_of_lt_of_eq EEA.lt s_b107)
        have ne_aAr_b107 : aAr ≠ b107 := Nat.ne_of_lt (Nat.lt_of_lt_of_eq EAr.lt s_b107)
        have ne_b64_b107 : b64 ≠ b107 := Nat.ne_of_lt (Nat.lt_of_lt_of_eq A_b64.lt s_b107)
        have ge_b107 : n0 ≤ b107 := Nat.le_trans (Jvm.OwnK.Old_le O) (Nat.le_of_eq s_b107)
        replace O := O.ext E107
        replace S_ED := S_ED.ext E107
        replace S_Do := S_Do.ext E107
        replace S_EA := S_EA.ext E107
        replace S_Ar := S_Ar.ext E107
        replace EED := EED.ext E107
        replace EDo := EDo.ext E107
        replace EEA := EEA.ext E107
        replace EAr := EAr.ext E107
        replace OED := OED.ext E107
        replace OEA := OEA.ext E107
        replace A_b64 := A_b64.ext E107
        have F_b107_names : Fld Z h107 b107 "com/example/changeline/changeline/format/JsonOutput" "names" "Ljava/util/Map;" .null := D107 (Or.inr (w33 hw)) (ty := (.object "java/util/Map")) (by decide)
        have F_b107_bytes : Fld Z h107 b107 "com/example/changeline/changeline/format/JsonOutput" "bytes" "[B" .null := D107 (Or.inl (w35 hw)) (ty := (.array .byte)) (by decide)
        have F_b107_scopes : Fld Z h107 b107 "com/example/changeline/changeline/format/JsonOutput" "scopes" "[Lcom/example/changeline/changeline/format/JsonOutput$Scope;" .null := D107 (Or.inl (w39 hw)) (ty := (.array (.object "com/example/changeline/changeline/format/JsonOutput$Scope"))) (by decide)
        have F_b107_depth : Fld Z h107 b107 "com/example/changeline/changeline/format/JsonOutput" "depth" "I" (.int (0 : Int32)) := D107 (Or.inl (w41 hw)) (ty := .int) (by decide)
        have F_b107_length : Fld Z h107 b107 "com/example/changeline/changeline/format/JsonOutput" "length" "I" (.int (0 : Int32)) := D107 (Or.inl (w71 hw)) (ty := .int) (by decide)
        refine k_dup G X at_110 (pc' := 111) rfl rfl ?_
        refine k_callI G X (argsL := []) (rest := [(.ref b107)]) rfl rfl (w4 hw) (w5 hw) (w3 hw) (w6 hw) (by decide) (jo_init hw b107 aED h107 n0 ge_b107 O X_b107 F_b107_names F_b107_bytes F_b107_length F_b107_scopes F_b107_depth S_ED EED) at_111 pd0 rfl (pc' := 114) rfl rfl (wd := 1) rfl (by decide) (by decide) (by decide) (by decide) (fun T h111 v X q => ?_)
        obtain ⟨rfl, K111, E', b, sc, kb, ks, sz_b, sz_sc, ne_b_sc, FB, FL, FS, FD, BA, SCA, SO⟩ := q
        have ne_aED_b : aED ≠ b := Nat.ne_of_lt (Nat.lt_of_lt_of_le EED.lt sz_b)
        have ne_aED_sc : aED ≠ sc := Nat.ne_of_lt (Nat.lt_of_lt_of_le EED.lt sz_sc)
        have ne_aDo_b : aDo ≠ b := Nat.ne_of_lt (Nat.lt_of_lt_of_le EDo.lt sz_b)
        have ne_aDo_sc : aDo ≠ sc := Nat.ne_of_lt (Nat.lt_of_lt_of_le EDo.lt sz_sc)
        have ne_aEA_b : aEA ≠ b := Nat.ne_of_lt (Nat.lt_of_lt_of_le EEA.lt sz_b)
        have ne_aEA_sc : aEA ≠ sc := Nat.ne_of_lt (Nat.lt_of_lt_of_le EEA.lt sz_sc)
        have ne_aAr_b : aAr ≠ b := Nat.ne_of_lt (Nat.lt_of_lt_of_le EAr.lt sz_b)
        have ne_aAr_sc : aAr ≠ sc := Nat.ne_of_lt (Nat.lt_of_lt_of_le EAr.lt sz_sc)
        have ne_b64_b : b64 ≠ b := Nat.ne_of_lt (Nat.lt_of_lt_of_le A_b64.lt sz_b)
        have ne_b64_sc : b64 ≠ sc := Nat.ne_of_lt (Nat.lt_of_lt_of_le A_b64.lt sz_sc)
        have ne_o_b : b107 ≠ b := Nat.ne_of_lt (Nat.lt_of_lt_of_le X_b107.lt sz_b)
        have ge_b : n0 ≤ b := Nat.le_trans (Old_le O) sz_b
        have ne_o_sc : b107 ≠ sc := Nat.ne_of_lt (Nat.lt_of_lt_of_le X_b107.lt sz_sc)
        have ge_sc : n0 ≤ sc := Nat.le_trans (Old_le O) sz_sc
        replace S_ED := Sta_keepL S_ED K111 (allS (Pln_exa X_b107) (all0))
        replace S_Do := Sta_keepL S_Do K111 (allS (Pln_exa X_b107) (all0))
        replace S_EA := Sta_keepL S_EA K111 (allS (Pln_exa X_b107) (all0))
        replace S_Ar := Sta_keepL S_Ar K111 (allS (Pln_exa X_b107) (all0))
        replace O := O.keep K111 (allS ge_b107 (all0))
        replace EED := EED.keep K111
        replace EDo := EDo.keep K111
        replace EEA := EEA.keep K111
        replace EAr := EAr.keep K111
        replace OED := OED.keep K111 (by simp only [List.mem_cons, List.not_mem_nil, or_false, not_or]; exact ne_aED_b107)
        replace OEA := OEA.keep K111 (by simp only [List.mem_cons, List.not_mem_nil, or_false, not_or]; exact ne_aEA_b107)
        replace A_b64 := A_b64.keep K111 (by simp only [List.mem_cons, List.not_mem_nil, or_false, not_or]; exact ne_b64_b107)
        replace X_b107 := X_b107.keep K111
        show Go Γ n0 _ T (mkF Γ.m 114 #[.val (.int p0), .val (.int p1), .val (.int p2), .val (.int p3), .val (.int (2 : Int32)), .val (.int (1 : Int32)), .val (.int (0 : Int32)), .val (.int (2 : Int32)), .val (.int (p0.toInt8.toInt32)), .val (.int (p1.toInt8.toInt32)), .val (.int (p2.toInt8.toInt32)), .val (.ref b64), .unset, .unset, .unset, .unset, .unset] [(.ref b107)])
        refine k_astore G X at_114 (pc' := 116) rfl rfl (l' := #[.val (.int p0), .val (.int p1), .val (.int p2), .val (.int p3), .val (.int (2 : Int32)), .val (.int (1 : Int32)), .val (.int (0 : Int32)), .val (.int (2 : Int32)), .val (.int (p0.toInt8.toInt32)), .val (.int (p1.toInt8.toInt32)), .val (.int (p2.toInt8.toInt32)), .val (.ref b64), .val (.ref b107), .unset, .unset, .unset, .unset]) rfl ?_
        refine k_iload G X at_116 (pc' := 118) rfl rfl ?_
        refine k_if_eq G X at_118 (pc' := 127) rfl (by decide) (pc'' := 121) rfl (fun c118 => (absurd c118 (by decide))) (fun c118 => ?_)
        refine k_aload G X at_121 (pc' := 123) rfl rfl rfl ?_
        refine k_callV G X (argsL := []) (rest := []) rfl X_b107 (w101 hw) (w102 hw) (nf_sel (w104 hw)) (w104 hw) (w103 hw) (w3 hw) (w105 hw) (by decide) (begA hw b107 b sc aED aDo aEA kb ks 0 512 (0 : Int32) (1 : Int32) (512 : Int32) _ _ h111 n0 ge_b107 ge_sc O X_b107 FB FL FS FD SCA SO ne_o_sc rfl rfl rfl ge_b BA EED OED EDo S_Do EEA S_EA rfl ne_aED_sc ne_o_b.symm ne_b_sc (by decide)) at_123 pd12 rfl (pc' := 126) rfl rfl (wd := 0) rfl (by decide) (by decide) (by decide) (by decide) (fun T h123 v X q => ?_)
        obtain ⟨rfl, K123, E', FB', FL', FS', FD', BA', SCA'⟩ := q
        replace S_ED := Sta_keepL S_ED K123 (allS (Pln_arf SCA) (allS (Pln_exa X_b107) (allS (Pln_arf BA) (all0))))
        replace S_Do := Sta_keepL S_Do K123 (allS (Pln_arf SCA) (allS (Pln_exa X_b107) (allS (Pln_arf BA) (all0))))
        replace S_EA := Sta_keepL S_EA K123 (allS (Pln_arf SCA) (allS (Pln_exa X_b107) (allS (Pln_arf BA) (all0))))
        replace S_Ar := Sta_keepL S_Ar K123 (allS (Pln_arf SCA) (allS (Pln_exa X_b107) (allS (Pln_arf BA) (all0))))
        replace O := O.keep K123 (allS ge_sc (allS ge_b107 (allS ge_b (all0))))
        replace EED := EED.keep K123
        replace EDo := EDo.keep K123
        replace EEA := EEA.keep K123
        replace EAr := EAr.keep K123
        replace OED := OED.keep K123 (by simp only [List.mem_cons, List.not_mem_nil, or_false, not_or]; exact ⟨ne_aED_sc, ne_aED_b107, ne_aED_b⟩)
        replace OEA := OEA.keep K123 (by simp only [List.mem_cons, List.not_mem_nil, or_false, not_or]; exact ⟨ne_aEA_sc, ne_aEA_b107, ne_aEA_b⟩)
        replace A_b64 := A_b64.keep K123 (by simp only [List.mem_cons, List.not_mem_nil, or_false, not_or]; exact ⟨ne_b64_sc, ne_b64_b107, ne_b64_b⟩)
        replace X_b107 := X_b107.keep K123
        have FB := FB'
        have FL := FL'
        have FS := FS'
        have FD := FD'
        have BA := BA'
        have SCA := SCA'
        show Go Γ n0 _ T (mkF Γ.m 126 #[.val (.int p0), .val (.int p1), .val (.int p2), .val (.int p3), .val (.int (2 : Int32)), .val (.int (1 : Int32)), .val (.int (0 : Int32)), .val (.int (2 : Int32)), .val (.int (p0.toInt8.toInt32)), .val (.int (p1.toInt8.toInt32)), .val (.int (p2.toInt8.toInt32)), .val (.ref b64), .val (.ref b107), .unset, .unset, .unset, .unset] [(.ref b107)])
        refine k_pop G X at_126 (pc' := 127) rfl rfl ?_
        refine k_aload G X at_127 (pc' := 129) rfl rfl rfl ?_
        refine k_aload G X at_129 (pc' := 131) rfl rfl rfl ?_
        refine k_callV G X (argsL := [(.ref b64)]) (rest := []) rfl X_b107 (w46 hw) (w47 hw) (nf_sel (w49 hw)) (w49 hw) (w48 hw) (w3 hw) (w50 hw) (by decide) (jv50 hw b107 b b64 sc aEA aAr kb k64 ks 1 2 512 (1 : Int32) (2 : Int32) (3 : Int32) (512 : Int32) _ _ _ h123 n0 ge_b107 ge_sc O X_b107 FB FL FS FD SCA SO ne_o_sc rfl rfl rfl rfl ge_b BA A_b64 EEA OEA EAr S_Ar rfl ne_aEA_sc ne_o_b.symm ne_b64_b107 ne_b64_b ne_b_sc ne_b64_sc (by decide)) at_131 pd9 rfl (pc' := 134) rfl rfl (wd := 0) rfl (by decide) (by decide) (by decide) (by decide) (fun T h131 v X q => ?_)
        obtain ⟨rfl, K131, E', SCA', FB', FL', FS', FD', BA'⟩ := q
        replace S_ED := Sta_keepL S_ED K131 (allS (Pln_arf SCA) (allS (Pln_exa X_b107) (allS (Pln_arf BA) (all0))))
        replace S_Do := Sta_keepL S_Do K131 (allS (Pln_arf SCA) (allS (Pln_exa X_b107) (allS (Pln_arf BA) (all0))))
        replace S_EA := Sta_keepL S_EA K131 (allS (Pln_arf SCA) (allS (Pln_exa X_b107) (allS (Pln_arf BA) (all0))))
        replace S_Ar := Sta_keepL S_Ar K131 (allS (Pln_arf SCA) (allS (Pln_exa X_b107) (allS (Pln_arf BA) (all0))))
        replace O := O.keep K131 (allS ge_sc (allS ge_b107 (allS ge_b (all0))))
        replace EED := EED.keep K131
        replace EDo := EDo.keep K131
        replace EEA := EEA.keep K131
        replace EAr := EAr.keep K131
        replace X_b107 := X_b107.keep K131
        have FB := FB'
        have FL := FL'
        have FS := FS'
        have FD := FD'
        have BA := BA'
        have SCA := SCA'
        show Go Γ n0 _ T (mkF Γ.m 134 #[.val (.int p0), .val (.int p1), .val (.int p2), .val (.int p3), .val (.int (2 : Int32)), .val (.int (1 : Int32)), .val (.int (0 : Int32)), .val (.int (2 : Int32)), .val (.int (p0.toInt8.toInt32)), .val (.int (p1.toInt8.toInt32)), .val (.int (p2.toInt8.toInt32)), .val (.ref b64), .val (.ref b107), .unset, .unset, .unset, .unset] [(.ref b107)])
        refine k_pop G X at_134 (pc' := 135) rfl rfl ?_
        refine k_iload G X at_135 (pc' := 137) rfl rfl ?_
        refine k_if_eq G X at_137 (pc' := 146) rfl (by decide) (pc'' := 140) rfl (fun c137 => (absurd c137 (by decide))) (fun c137 => ?_)
        refine k_aload G X at_140 (pc' := 142) rfl rfl rfl ?_
        refine k_callV G X (argsL := []) (rest := []) rfl X_b107 (w118 hw) (w119 hw) (nf_sel (w121 hw)) (w121 hw) (w120 hw) (w3 hw) (w122 hw) (by decide) (endA hw b107 b sc aAr aEA kb ks 3 512 (3 : Int32) (4 : Int32) (512 : Int32) _ _ h131 n0 ge_b107 ge_sc O X_b107 FB FL FS FD SCA SO ne_o_sc rfl rfl rfl ge_b BA S_EA S_Ar rfl ne_o_b.symm ne_b_sc (by decide)) at_142 pd12 rfl (pc' := 145) rfl rfl (wd := 0) rfl (by decide) (by decide) (by decide) (by decide) (fun T h142 v X q => ?_)
        obtain ⟨rfl, K142, E', FB', FL', FS', FD', BA'⟩ := q
        replace S_ED := Sta_keepL S_ED K142 (allS (Pln_exa X_b107) (allS (Pln_arf BA) (all0)))
        replace S_Do := Sta_keepL S_Do K142 (allS (Pln_exa X_b107) (allS (Pln_arf BA) (all0)))
        replace S_EA := Sta_keepL S_EA K142 (allS (Pln_exa X_b107) (allS (Pln_arf BA) (all0)))
        replace S_Ar := Sta_keepL S_Ar K142 (allS (Pln_exa X_b107) (allS (Pln_arf BA) (all0)))
        replace O := O.keep K142 (allS ge_b107 (allS ge_b (all0)))
        replace EED := EED.keep K142
        replace EDo := EDo.keep K142
        replace EEA := EEA.keep K142
        replace EAr := EAr.keep K142
        replace X_b107 := X_b107.keep K142
        replace SCA := SCA.keep K142 (by simp only [List.mem_cons, List.not_mem_nil, or_false, not_or]; exact ⟨(Ne.symm ne_o_sc), (Ne.symm ne_b_sc)⟩)
        have FB := FB'
        have FL := FL'
        have FS := FS'
        have FD := FD'
        have BA := BA'
        show Go Γ n0 _ T (mkF Γ.m 145 #[.val (.int p0), .val (.int p1), .val (.int p2), .val (.int p3), .val (.int (2 : Int32)), .val (.int (1 : Int32)), .val (.int (0 : Int32)), .val (.int (2 : Int32)), .val (.int (p0.toInt8.toInt32)), .val (.int (p1.toInt8.toInt32)), .val (.int (p2.toInt8.toInt32)), .val (.ref b64), .val (.ref b107), .unset, .unset, .unset, .unset] [(.ref b107)])
        refine k_pop G X at_145 (pc' := 146) rfl rfl ?_
        refine k_iload G X at_146 (pc' := 148) rfl rfl ?_
        refine k_if_eq G X at_148 (pc' := 155) rfl (by decide) (pc'' := 151) rfl (fun c148 => (absurd c148 (by decide))) (fun c148 => ?_)
        refine k_iconst G X at_151 (pc' := 152) rfl (z := (1 : Int32)) (by decide) ?_
        refine k_goto G X at_152 (by decide) (pc' := 156) rfl ?_
        refine k_istore G X at_156 (pc' := 158) rfl (l' := #[.val (.int p0), .val (.int p1), .val (.int p2), .val (.int p3), .val (.int (2 : Int32)), .val (.int (1 : Int32)), .val (.int (0 : Int32)), .val (.int (2 : Int32)), .val (.int (p0.toInt8.toInt32)), .val (.int (p1.toInt8.toInt32)), .val (.int (p2.toInt8.toInt32)), .val (.ref b64), .val (.ref b107), .val (.int (1 : Int32)), .unset, .unset, .unset]) rfl ?_
        refine k_aload G X at_158 (pc' := 160) rfl rfl rfl ?_
        refine k_callV G X (argsL := []) (rest := []) rfl X_b107 (w80 hw) (w81 hw) (nf_sel (w83 hw)) (w83 hw) (w82 hw) (w3 hw) (w84 hw) (by decide) (toB hw b107 b kb 4 512 (4 : Int32) (512 : Int32) _ h142 n0 O FB FL rfl rfl (by decide) (by decide) BA) at_160 pd10 rfl (pc' := 163) rfl rfl (wd := 0) rfl (by decide) (by decide) (by decide) (by decide) (fun T h160 v X q => ?_)
        obtain ⟨r160, kr160, rfl, sz_r160, K160, R160⟩ := q
        have ge_r160 : n0 ≤ r160 := Nat.le_trans (Old_le O) sz_r160
        have ne_aED_r160 : aED ≠ r160 := Nat.ne_of_lt (Nat.lt_of_lt_of_le EED.lt sz_r160)
        have ne_aDo_r160 : aDo ≠ r160 := Nat.ne_of_lt (Nat.lt_of_lt_of_le EDo.lt sz_r160)
        have ne_aEA_r160 : aEA ≠ r160 := Nat.ne_of_lt (Nat.lt_of_lt_of_le EEA.lt sz_r160)
        have ne_aAr_r160 : aAr ≠ r160 := Nat.ne_of_lt (Nat.lt_of_lt_of_le EAr.lt sz_r160)
        have ne_b107_r160 : b107 ≠ r160 := Nat.ne_of_lt (Nat.lt_of_lt_of_le X_b107.lt sz_r160)
        have ne_b_r160 : b ≠ r160 := Nat.ne_of_lt (Nat.lt_of_lt_of_le BA.lt sz_r160)
        have ne_sc_r160 : sc ≠ r160 := Nat.ne_of_lt (Nat.lt_of_lt_of_le SCA.lt sz_r160)
        replace S_ED := Jvm.OwnK.Sta_keep S_ED K160
        replace S_Do := Jvm.OwnK.Sta_keep S_Do K160
        replace S_EA := Jvm.OwnK.Sta_keep S_EA K160
        replace S_Ar := Jvm.OwnK.Sta_keep S_Ar K160
        replace O := O.keep K160 (all0)
        replace EED := EED.keep K160
        replace EDo := EDo.keep K160
        replace EEA := EEA.keep K160
        replace EAr := EAr.keep K160
        replace X_b107 := X_b107.keep K160
        replace FB := FB.keep K160 nin0
        replace FL := FL.keep K160 nin0
        replace FS := FS.keep K160 nin0
        replace FD := FD.keep K160 nin0
        replace BA := BA.keep K160 nin0
        replace SCA := SCA.keep K160 nin0
        show Go Γ n0 _ T (mkF Γ.m 163 #[.val (.int p0), .val (.int p1), .val (.int p2), .val (.int p3), .val (.int (2 : Int32)), .val (.int (1 : Int32)), .val (.int (0 : Int32)), .val (.int (2 : Int32)), .val (.int (p0.toInt8.toInt32)), .val (.int (p1.toInt8.toInt32)), .val (.int (p2.toInt8.toInt32)), .val (.ref b64), .val (.ref b107), .val (.int (1 : Int32)), .unset, .unset, .unset] [(.ref r160)])
        refine k_astore G X at_163 (pc' := 165) rfl rfl (l' := #[.val (.int p0), .val (.int p1), .val (.int p2), .val (.int p3), .val (.int (2 : Int32)), .val (.int (1 : Int32)), .val (.int (0 : Int32)), .val (.int (2 : Int32)), .val (.int (p0.toInt8.toInt32)), .val (.int (p1.toInt8.toInt32)), .val (.int (p2.toInt8.toInt32)), .val (.ref b64), .val (.ref b107), .val (.int (1 : Int32)), .val (.ref r160), .unset, .unset]) rfl ?_
        refine k_aload G X at_165 (pc' := 167) rfl rfl rfl ?_
        refine k_iload G X at_167 (pc' := 169) rfl rfl ?_
        refine k_iload G X at_169 (pc' := 171) rfl rfl ?_
        refine k_iload G X at_171 (pc' := 173) rfl rfl ?_
        refine k_iload G X at_173 (pc' := 175) rfl rfl ?_
        refine k_iload G X at_175 (pc' := 177) rfl rfl ?_
        refine k_iload G X at_177 (pc' := 179) rfl rfl ?_
        refine k_callS G X (argsL := [(.ref r160), (.int (2 : Int32)), (.int (1 : Int32)), (.int (p0.toInt8.toInt32)), (.int (p1.toInt8.toInt32)), (.int (p2.toInt8.toInt32)), (.int (0 : Int32))]) (rest := []) rfl (w94 hw) (w95 hw) (w96 hw) (w97 hw) (by decide) (chk_2_1 hw r160 kr160 _ (p0.toInt8.toInt32) (p1.toInt8.toInt32) (p2.toInt8.toInt32) h160 n0 R160 (by rfl) (by rfl) (by rfl) (by rfl)) at_179 pd11 rfl (pc' := 182) rfl rfl (wd := 0) rfl (by decide) (by decide) (by decide) (by decide) (fun T h179 v X q => ?_)
        obtain ⟨rfl, e179⟩ := q
        replace X := X.eq e179
        show Go Γ n0 _ T (mkF Γ.m 182 #[.val (.int p0), .val (.int p1), .val (.int p2), .val (.int p3), .val (.int (2 : Int32)), .val (.int (1 : Int32)), .val (.int (0 : Int32)), .val (.int (2 : Int32)), .val (.int (p0.toInt8.toInt32)), .val (.int (p1.toInt8.toInt32)), .val (.int (p2.toInt8.toInt32)), .val (.ref b64), .val (.ref b107), .val (.int (1 : Int32)), .val (.ref r160), .unset, .unset] [(.int (1 : Int32))])
        refine k_istore G X at_182 (pc' := 184) rfl (l' := #[.val (.int p0), .val (.int p1), .val (.int p2), .val (.int p3), .val (.int (2 : Int32)), .val (.int (1 : Int32)), .val (.int (0 : Int32)), .val (.int (2 : Int32)), .val (.int (p0.toInt8.toInt32)), .val (.int (p1.toInt8.toInt32)), .val (.int (p2.toInt8.toInt32)), .val (.ref b64), .val (.ref b107), .val (.int (1 : Int32)), .val (.ref r160), .val (.int (1 : Int32)), .unset]) rfl ?_
        refine k_aload G X at_184 (pc' := 186) rfl rfl rfl ?_
        refine k_alen G X (z := (4 : Int32)) R160 rfl at_186 (pc' := 187) rfl ?_
        refine k_if_le G X at_187 (pc' := 201) rfl (by decide) (pc'' := 190) rfl (fun c187 => (absurd c187 (by decide))) (fun c187 => ?_)
        refine k_aload G X at_190 (pc' := 192) rfl rfl rfl ?_
        refine k_iconst G X at_192 (pc' := 193) rfl (z := (0 : Int32)) (by decide) ?_
        refine k_aload G X at_193 (pc' := 195) rfl rfl rfl ?_
        refine k_iconst G X at_195 (pc' := 196) rfl (z := (0 : Int32)) (by decide) ?_
        refine k_baload G X (i := 0) (v := (.int (91 : Int32))) R160 rfl (by decide) (by rfl) at_196 (pc' := 197) rfl ?_
        refine k_iconst G X at_197 (pc' := 198) rfl (z := (1 : Int32)) (by decide) ?_
        refine k_ixor G X at_198 (pc' := 199) rfl (z := (90 : Int32)) (by decide) ?_
        refine k_i2b G X at_199 (pc' := 200) rfl (z := (90 : Int32)) (by decide) ?_
        refine k_bastore G X (i := 0) (z := ((90 : Int32))) R160 rfl (by decide) (by simp [nar]) ge_r160 at_200 (pc' := 201) rfl (fun T h200 W200 R160 X => ?_)
        replace O := O.wr W200 ge_r160
        replace S_ED := S_ED.wr W200
        replace S_Do := S_Do.wr W200
        replace S_EA := S_EA.wr W200
        replace S_Ar := S_Ar.wr W200
        replace EED := EED.wr W200
        replace EDo := EDo.wr W200
        replace EEA := EEA.wr W200
        replace EAr := EAr.wr W200
        replace X_b107 := X_b107.wr W200
        replace FB := FB.other W200 (Or.inl ne_b107_r160)
        replace FL := FL.other W200 (Or.inl ne_b107_r160)
        replace FS := FS.other W200 (Or.inl ne_b107_r160)
        replace FD := FD.other W200 (Or.inl ne_b107_r160)
        replace BA := BA.other W200 ne_b_r160
        replace SCA := SCA.other W200 ne_sc_r160
        refine k_aload G X at_201 (pc' := 203) rfl rfl rfl ?_
        refine k_callV G X (argsL := []) (rest := []) rfl X_b107 (w80 hw) (w81 hw) (nf_sel (w83 hw)) (w83 hw) (w82 hw) (w3 hw) (w84 hw) (by decide) (toB hw b107 b kb 4 512 (4 : Int32) (512 : Int32) _ h200 n0 O FB FL rfl rfl (by decide) (by decide) BA) at_203 pd10 rfl (pc' := 206) rfl rfl (wd := 0) rfl (by decide) (by decide) (by decide) (by decide) (fun T h203 v X q => ?_)
        obtain ⟨r203, kr203, rfl, sz_r203, K203, R203⟩ := q
        have ge_r203 : n0 ≤ r203 := Nat.le_trans (Old_le O) sz_r203
        replace S_ED := Jvm.OwnK.Sta_keep S_ED K203
        replace S_Do := Jvm.OwnK.Sta_keep S_Do K203
        replace S_EA := Jvm.OwnK.Sta_keep S_EA K203
        replace S_Ar := Jvm.OwnK.Sta_keep S_Ar K203
        replace O := O.keep K203 (all0)
        replace EED := EED.keep K203
        replace EDo := EDo.keep K203
        replace EEA := EEA.keep K203
        replace EAr := EAr.keep K203
        replace X_b107 := X_b107.keep K203
        replace FB := FB.keep K203 nin0
        replace FL := FL.keep K203 nin0
        replace FS := FS.keep K203 nin0
        replace FD := FD.keep K203 nin0
        replace BA := BA.keep K203 nin0
        replace SCA := SCA.keep K203 nin0
        replace R160 := R160.keep K203 nin0
        show Go Γ n0 _ T (mkF Γ.m 206 #[.val (.int p0), .val (.int p1), .val (.int p2), .val (.int p3), .val (.int (2 : Int32)), .val (.int (1 : Int32)), .val (.int (0 : Int32)), .val (.int (2 : Int32)), .val (.int (p0.toInt8.toInt32)), .val (.int (p1.toInt8.toInt32)), .val (.int (p2.toInt8.toInt32)), .val (.ref b64), .val (.ref b107), .val (.int (1 : Int32)), .val (.ref r160), .val (.int (1 : Int32)), .unset] [(.ref r203)])
        refine k_astore G X at_206 (pc' := 208) rfl rfl (l' := #[.val (.int p0), .val (.int p1), .val (.int p2), .val (.int p3), .val (.int (2 : Int32)), .val (.int (1 : Int32)), .val (.int (0 : Int32)), .val (.int (2 : Int32)), .val (.int (p0.toInt8.toInt32)), .val (.int (p1.toInt8.toInt32)), .val (.int (p2.toInt8.toInt32)), .val (.ref b64), .val (.ref b107), .val (.int (1 : Int32)), .val (.ref r160), .val (.int (1 : Int32)), .val (.ref r203)]) rfl ?_
        refine k_iload G X at_208 (pc' := 210) rfl rfl ?_
        refine k_if_eq G X at_210 (pc' := 237) rfl (by decide) (pc'' := 213) rfl (fun c210 => (absurd c210 (by decide))) (fun c210 => ?_)
        refine k_aload G X at_213 (pc' := 215) rfl rfl rfl ?_
        refine k_iload G X at_215 (pc' := 217) rfl rfl ?_
        refine k_iload G X at_217 (pc' := 219) rfl rfl ?_
        refine k_iload G X at_219 (pc' := 221) rfl rfl ?_
        refine k_iload G X at_221 (pc' := 223) rfl rfl ?_
        refine k_iload G X at_223 (pc' := 225) rfl rfl ?_
        refine k_iload G X at_225 (pc' := 227) rfl rfl ?_
        refine k_callS G X (argsL := [(.ref r203), (.int (2 : Int32)), (.int (1 : Int32)), (.int (p0.toInt8.toInt32)), (.int (p1.toInt8.toInt32)), (.int (p2.toInt8.toInt32)), (.int (0 : Int32))]) (rest := []) rfl (w94 hw) (w95 hw) (w96 hw) (w97 hw) (by decide) (chk_2_1 hw r203 kr203 _ (p0.toInt8.toInt32) (p1.toInt8.toInt32) (p2.toInt8.toInt32) h203 n0 R203 (by rfl) (by rfl) (by rfl) (by rfl)) at_227 pd11 rfl (pc' := 230) rfl rfl (wd := 0) rfl (by decide) (by decide) (by decide) (by decide) (fun T h227 v X q => ?_)
        obtain ⟨rfl, e227⟩ := q
        replace X := X.eq e227
        show Go Γ n0 _ T (mkF Γ.m 230 #[.val (.int p0), .val (.int p1), .val (.int p2), .val (.int p3), .val (.int (2 : Int32)), .val (.int (1 : Int32)), .val (.int (0 : Int32)), .val (.int (2 : Int32)), .val (.int (p0.toInt8.toInt32)), .val (.int (p1.toInt8.toInt32)), .val (.int (p2.toInt8.toInt32)), .val (.ref b64), .val (.ref b107), .val (.int (1 : Int32)), .val (.ref r160), .val (.int (1 : Int32)), .val (.ref r203)] [(.int (1 : Int32))])
        refine k_if_eq G X at_230 (pc' := 237) rfl (by decide) (pc'' := 233) rfl (fun c230 => (absurd c230 (by decide))) (fun c230 => ?_)
        refine k_iconst G X at_233 (pc' := 234) rfl (z := (1 : Int32)) (by decide) ?_
        refine k_goto G X at_234 (by decide) (pc' := 238) rfl ?_
        refine k_retb G X at_238 (t := .boolean) rfl (by simp) rfl ?_ (by decide) (by decide)
        rfl
      · refine k_iconst G X at_28 (pc' := 29) rfl (z := (1 : Int32)) (by decide) ?_
        refine k_goto G X at_29 (by decide) (pc' := 33) rfl ?_
        refine k_istore G X at_33 (pc' := 35) rfl (l' := #[.val (.int p0), .val (.int p1), .val (.int p2), .val (.int p3), .val (.int (2 : Int32)), .val (.int (1 : Int32)), .val (.int (1 : Int32)), .unset, .unset, .unset, .unset, .unset, .unset, .unset, .unset, .unset, .unset]) rfl ?_
        refine k_iload G X at_35 (pc' := 37) rfl rfl ?_
        refine k_if_eq G X at_37 (pc' := 46) rfl (by decide) (pc'' := 40) rfl (fun c37 => (absurd c37 (by decide))) (fun c37 => ?_)
        refine k_sipush G X at_40 (pc' := 43) rfl (z := (600 : Int32)) (by decide) ?_
        refine k_goto G X at_43 (by decide) (pc' := 48) rfl ?_
        refine k_istore G X at_48 (pc' := 50) rfl (l' := #[.val (.int p0), .val (.int p1), .val (.int p2), .val (.int p3), .val (.int (2 : Int32)), .val (.int (1 : Int32)), .val (.int (1 : Int32)), .val (.int (600 : Int32)), .unset, .unset, .unset, .unset, .unset, .unset, .unset, .unset, .unset]) rfl ?_
        refine k_iloadN G X at_50 (pc' := 51) rfl rfl ?_
        refine k_i2b G X at_51 (pc' := 52) rfl rfl ?_
        refine k_istore G X at_52 (pc' := 54) rfl (l' := #[.val (.int p0), .val (.int p1), .val (.int p2), .val (.int p3), .val (.int (2 : Int32)), .val (.int (1 : Int32)), .val (.int (1 : Int32)), .val (.int (600 : Int32)), .val (.int (p0.toInt8.toInt32)), .unset, .unset, .unset, .unset, .unset, .unset, .unset, .unset]) rfl ?_
        refine k_iloadN G X at_54 (pc' := 55) rfl rfl ?_
        refine k_i2b G X at_55 (pc' := 56) rfl rfl ?_
        refine k_istore G X at_56 (pc' := 58) rfl (l' := #[.val (.int p0), .val (.int p1), .val (.int p2), .val (.int p3), .val (.int (2 : Int32)), .val (.int (1 : Int32)), .val (.int (1 : Int32)), .val (.int (600 : Int32)), .val (.int (p0.toInt8.toInt32)), .val (.int (p1.toInt8.toInt32)), .unset, .unset, .unset, .unset, .unset, .unset, .unset]) rfl ?_
        refine k_iloadN G X at_58 (pc' := 59) rfl rfl ?_
        refine k_i2b G X at_59 (pc' := 60) rfl rfl ?_
        refine k_istore G X at_60 (pc' := 62) rfl (l' := #[.val (.int p0), .val (.int p1), .val (.int p2), .val (.int p3), .val (.int (2 : Int32)), .val (.int (1 : Int32)), .val (.int (1 : Int32)), .val (.int (600 : Int32)), .val (.int (p0.toInt8.toInt32)), .val (.int (p1.toInt8.toInt32)), .val (.int (p2.toInt8.toInt32)), .unset, .unset, .unset, .unset, .unset, .unset]) rfl ?_
        refine k_iload G X at_62 (pc' := 64) rfl rfl ?_
        refine k_newP G X (aty := .byte) (n := 600) (cap := 600) (w0 hw) at_64 (pc' := 66) rfl rfl (by decide) (by decide) (by decide) (by decide) (fun T h64 b64 k64 s_b64 E64 A_b64 X => ?_)
        have ne_aED_b64 : aED ≠ b64 := Nat.ne_of_lt (Nat.lt_of_lt_of_eq EED.lt s_b64)
        have ne_aDo_b64 : aDo ≠ b64 := Nat.ne_of_lt (Nat.lt_of_lt_of_eq EDo.lt s_b64)
        have ne_aEA_b64 : aEA ≠ b64 := Nat.ne_of_lt (Nat.lt_of_lt_of_eq EEA.lt s_b64)
        have ne_aAr_b64 : aAr ≠ b64 := Nat.ne_of_lt (Nat.lt_of_lt_of_eq EAr.lt s_b64)
        have ge_b64 : n0 ≤ b64 := Nat.le_trans (Jvm.OwnK.Old_le O) (Nat.le_of_eq s_b64)
        replace O := O.ext E64
        replace S_ED := S_ED.ext E64
        replace S_Do := S_Do.ext E64
        replace S_EA := S_EA.ext E64
        replace S_Ar := S_Ar.ext E64
        replace EED := EED.ext E64
        replace EDo := EDo.ext E64
        replace EEA := EEA.ext E64
        replace EAr := EAr.ext E64
        replace OED := OED.ext E64
        replace OEA := OEA.ext E64
        replace A_b64 : Arf Z h64 b64 k64 .byte 600 (fun _ => (.int (0 : Int32))) := A_b64
        refine k_astore G X at_66 (pc' := 68) rfl rfl (l' := #[.val (.int p0), .val (.int p1), .val (.int p2), .val (.int p3), .val (.int (2 : Int32)), .val (.int (1 : Int32)), .val (.int (1 : Int32)), .val (.int (600 : Int32)), .val (.int (p0.toInt8.toInt32)), .val (.int (p1.toInt8.toInt32)), .val (.int (p2.toInt8.toInt32)), .val (.ref b64), .unset, .unset, .unset, .unset, .unset]) rfl ?_
        refine k_iload G X at_68 (pc' := 70) rfl rfl ?_
        refine k_iconst G X at_70 (pc' := 71) rfl (z := (1 : Int32)) (by decide) ?_
        refine k_icmp_lt G X at_71 (pc' := 80) rfl (by decide) (pc'' := 74) rfl (fun c71 => (absurd c71 (by decide))) (fun c71 => ?_)
        refine k_aload G X at_74 (pc' := 76) rfl rfl rfl ?_
        refine k_iconst G X at_76 (pc' := 77) rfl (z := (0 : Int32)) (by decide) ?_
        refine k_iload G X at_77 (pc' := 79) rfl rfl ?_
        refine k_bastore G X (i := 0) (z := (p0.toInt8.toInt32)) A_b64 rfl (by decide) (by simp [nar]) ge_b64 at_79 (pc' := 80) rfl (fun T h79 W79 A_b64 X => ?_)
        replace O := O.wr W79 ge_b64
        replace S_ED := S_ED.wr W79
        replace S_Do := S_Do.wr W79
        replace S_EA := S_EA.wr W79
        replace S_Ar := S_Ar.wr W79
        replace EED := EED.wr W79
        replace EDo := EDo.wr W79
        replace EEA := EEA.wr W79
        replace EAr := EAr.wr W79
        replace OED := OED.other W79 (Or.inl ne_aED_b64)
        replace OEA := OEA.other W79 (Or.inl ne_aEA_b64)
        refine k_iload G X at_80 (pc' := 82) rfl rfl ?_
        refine k_iconst G X at_82 (pc' := 83) rfl (z := (2 : Int32)) (by decide) ?_
        refine k_icmp_lt G X at_83 (pc' := 92) rfl (by decide) (pc'' := 86) rfl (fun c83 => (absurd c83 (by decide))) (fun c83 => ?_)
        refine k_aload G X at_86 (pc' := 88) rfl rfl rfl ?_
        refine k_iconst G X at_88 (pc' := 89) rfl (z := (1 : Int32)) (by decide) ?_
        refine k_iload G X at_89 (pc' := 91) rfl rfl ?_
        refine k_bastore G X (i := 1) (z := (p1.toInt8.toInt32)) A_b64 rfl (by decide) (by simp [nar]) ge_b64 at_91 (pc' := 92) rfl (fun T h91 W91 A_b64 X => ?_)
        replace O := O.wr W91 ge_b64
        replace S_ED := S_ED.wr W91
        replace S_Do := S_Do.wr W91
        replace S_EA := S_EA.wr W91
        replace S_Ar := S_Ar.wr W91
        replace EED := EED.wr W91
        replace EDo := EDo.wr W91
        replace EEA := EEA.wr W91
        replace EAr := EAr.wr W91
        replace OED := OED.other W91 (Or.inl ne_aED_b64)
        replace OEA := OEA.other W91 (Or.inl ne_aEA_b64)
        refine k_iload G X at_92 (pc' := 94) rfl rfl ?_
        refine k_iconst G X at_94 (pc' := 95) rfl (z := (3 : Int32)) (by decide) ?_
        refine k_icmp_lt G X at_95 (pc' := 107) rfl (by decide) (pc'' := 98) rfl (fun c95 => (absurd c95 (by decide))) (fun c95 => ?_)
        refine k_aload G X at_98 (pc' := 100) rfl rfl rfl ?_
        refine k_iload G X at_100 (pc' := 102) rfl rfl ?_
        refine k_iconst G X at_102 (pc' := 103) rfl (z := (1 : Int32)) (by decide) ?_
        refine k_isub G X at_103 (pc' := 104) rfl (z := (599 : Int32)) (by decide) ?_
        refine k_iload G X at_104 (pc' := 106) rfl rfl ?_
        refine k_bastore G X (i := 599) (z := (p2.toInt8.toInt32)) A_b64 rfl (by decide) (by simp [nar]) ge_b64 at_106 (pc' := 107) rfl (fun T h106 W106 A_b64 X => ?_)
        replace O := O.wr W106 ge_b64
        replace S_ED := S_ED.wr W106
        replace S_Do := S_Do.wr W106
        replace S_EA := S_EA.wr W106
        replace S_Ar := S_Ar.wr W106
        replace EED := EED.wr W106
        replace EDo := EDo.wr W106
        replace EEA := EEA.wr W106
        replace EAr := EAr.wr W106
        replace OED := OED.other W106 (Or.inl ne_aED_b64)
        replace OEA := OEA.other W106 (Or.inl ne_aEA_b64)
        refine k_new G X (w1 hw) (w2 hw) (w3 hw) at_107 (pc' := 110) rfl (by decide) (by decide) (fun T h107 b107 s_b107 E107 X_b107 D107 X => ?_)
        have ne_aED_b107 : aED ≠ b107 := Nat.ne_of_lt (Nat.lt_of_lt_of_eq EED.lt s_b107)
        have ne_aDo_b107 : aDo ≠ b107 := Nat.ne_of_lt (Nat.lt_of_lt_of_eq EDo.lt s_b107)
        have ne_aEA_b107 : aEA ≠ b107 := Nat.ne_of_lt (Nat.lt_of_lt_of_eq EEA.lt s_b107)
        have ne_aAr_b107 : aAr ≠ b107 := Nat.ne_of_lt (Nat.lt_of_lt_of_eq EAr.lt s_b107)
        have ne_b64_b107 : b64 ≠ b107 := Nat.ne_of_lt (Nat.lt_of_lt_of_eq A_b64.lt s_b107)
        have ge_b107 : n0 ≤ b107 := Nat.le_trans (Jvm.OwnK.Old_le O) (Nat.le_of_eq s_b107)
        replace O := O.ext E107
        replace S_ED := S_ED.ext E107
        replace S_Do := S_Do.ext E107
        replace S_EA := S_EA.ext E107
        replace S_Ar := S_Ar.ext E107
        replace EED := EED.ext E107
        replace EDo := EDo.ext E107
        replace EEA := EEA.ext E107
        replace EAr := EAr.ext E107
        replace OED := OED.ext E107
        replace OEA := OEA.ext E107
        replace A_b64 := A_b64.ext E107
        have F_b107_names : Fld Z h107 b107 "com/example/changeline/changeline/format/JsonOutput" "names" "Ljava/util/Map;" .null := D107 (Or.inr (w33 hw)) (ty := (.object "java/util/Map")) (by decide)
        have F_b107_bytes : Fld Z h107 b107 "com/example/changeline/changeline/format/JsonOutput" "bytes" "[B" .null := D107 (Or.inl (w35 hw)) (ty := (.array .byte)) (by decide)
        have F_b107_scopes : Fld Z h107 b107 "com/example/changeline/changeline/format/JsonOutput" "scopes" "[Lcom/example/changeline/changeline/format/JsonOutput$Scope;" .null := D107 (Or.inl (w39 hw)) (ty := (.array (.object "com/example/changeline/changeline/format/JsonOutput$Scope"))) (by decide)
        have F_b107_depth : Fld Z h107 b107 "com/example/changeline/changeline/format/JsonOutput" "depth" "I" (.int (0 : Int32)) := D107 (Or.inl (w41 hw)) (ty := .int) (by decide)
        have F_b107_length : Fld Z h107 b107 "com/example/changeline/changeline/format/JsonOutput" "length" "I" (.int (0 : Int32)) := D107 (Or.inl (w71 hw)) (ty := .int) (by decide)
        refine k_dup G X at_110 (pc' := 111) rfl rfl ?_
        refine k_callI G X (argsL := []) (rest := [(.ref b107)]) rfl rfl (w4 hw) (w5 hw) (w3 hw) (w6 hw) (by decide) (jo_init hw b107 aED h107 n0 ge_b107 O X_b107 F_b107_names F_b107_bytes F_b107_length F_b107_scopes F_b107_depth S_ED EED) at_111 pd0 rfl (pc' := 114) rfl rfl (wd := 1) rfl (by decide) (by decide) (by decide) (by decide) (fun T h111 v X q => ?_)
        obtain ⟨rfl, K111, E', b, sc, kb, ks, sz_b, sz_sc, ne_b_sc, FB, FL, FS, FD, BA, SCA, SO⟩ := q
        have ne_aED_b : aED ≠ b := Nat.ne_of_lt (Nat.lt_of_lt_of_le EED.lt sz_b)
        have ne_aED_sc : aED ≠ sc := Nat.ne_of_lt (Nat.lt_of_lt_of_le EED.lt sz_sc)
        have ne_aDo_b : aDo ≠ b := Nat.ne_of_lt (Nat.lt_of_lt_of_le EDo.lt sz_b)
        have ne_aDo_sc : aDo ≠ sc := Nat.ne_of_lt (Nat.lt_of_lt_of_le EDo.lt sz_sc)
        have ne_aEA_b : aEA ≠ b := Nat.ne_of_lt (Nat.lt_of_lt_of_le EEA.lt sz_b)
        have ne_aEA_sc : aEA ≠ sc := Nat.ne_of_lt (Nat.lt_of_lt_of_le EEA.lt sz_sc)
        have ne_aAr_b : aAr ≠ b := Nat.ne_of_lt (Nat.lt_of_lt_of_le EAr.lt sz_b)
        have ne_aAr_sc : aAr ≠ sc := Nat.ne_of_lt (Nat.lt_of_lt_of_le EAr.lt sz_sc)
        have ne_b64_b : b64 ≠ b := Nat.ne_of_lt (Nat.lt_of_lt_of_le A_b64.lt sz_b)
        have ne_b64_sc : b64 ≠ sc := Nat.ne_of_lt (Nat.lt_of_lt_of_le A_b64.lt sz_sc)
        have ne_o_b : b107 ≠ b := Nat.ne_of_lt (Nat.lt_of_lt_of_le X_b107.lt sz_b)
        have ge_b : n0 ≤ b := Nat.le_trans (Old_le O) sz_b
        have ne_o_sc : b107 ≠ sc := Nat.ne_of_lt (Nat.lt_of_lt_of_le X_b107.lt sz_sc)
        have ge_sc : n0 ≤ sc := Nat.le_trans (Old_le O) sz_sc
        replace S_ED := Sta_keepL S_ED K111 (allS (Pln_exa X_b107) (all0))
        replace S_Do := Sta_keepL S_Do K111 (allS (Pln_exa X_b107) (all0))
        replace S_EA := Sta_keepL S_EA K111 (allS (Pln_exa X_b107) (all0))
        replace S_Ar := Sta_keepL S_Ar K111 (allS (Pln_exa X_b107) (all0))
        replace O := O.keep K111 (allS ge_b107 (all0))
        replace EED := EED.keep K111
        replace EDo := EDo.keep K111
        replace EEA := EEA.keep K111
        replace EAr := EAr.keep K111
        replace OED := OED.keep K111 (by simp only [List.mem_cons, List.not_mem_nil, or_false, not_or]; exact ne_aED_b107)
        replace OEA := OEA.keep K111 (by simp only [List.mem_cons, List.not_mem_nil, or_false, not_or]; exact ne_aEA_b107)
        replace A_b64 := A_b64.keep K111 (by simp only [List.mem_cons, List.not_mem_nil, or_false, not_or]; exact ne_b64_b107)
        replace X_b107 := X_b107.keep K111
        show Go Γ n0 _ T (mkF Γ.m 114 #[.val (.int p0), .val (.int p1), .val (.int p2), .val (.int p3), .val (.int (2 : Int32)), .val (.int (1 : Int32)), .val (.int (1 : Int32)), .val (.int (600 : Int32)), .val (.int (p0.toInt8.toInt32)), .val (.int (p1.toInt8.toInt32)), .val (.int (p2.toInt8.toInt32)), .val (.ref b64), .unset, .unset, .unset, .unset, .unset] [(.ref b107)])
        refine k_astore G X at_114 (pc' := 116) rfl rfl (l' := #[.val (.int p0), .val (.int p1), .val (.int p2), .val (.int p3), .val (.int (2 : Int32)), .val (.int (1 : Int32)), .val (.int (1 : Int32)), .val (.int (600 : Int32)), .val (.int (p0.toInt8.toInt32)), .val (.int (p1.toInt8.toInt32)), .val (.int (p2.toInt8.toInt32)), .val (.ref b64), .val (.ref b107), .unset, .unset, .unset, .unset]) rfl ?_
        refine k_iload G X at_116 (pc' := 118) rfl rfl ?_
        refine k_if_eq G X at_118 (pc' := 127) rfl (by decide) (pc'' := 121) rfl (fun c118 => (absurd c118 (by decide))) (fun c118 => ?_)
        refine k_aload G X at_121 (pc' := 123) rfl rfl rfl ?_
        refine k_callV G X (argsL := []) (rest := []) rfl X_b107 (w101 hw) (w102 hw) (nf_sel (w104 hw)) (w104 hw) (w103 hw) (w3 hw) (w105 hw) (by decide) (begA hw b107 b sc aED aDo aEA kb ks 0 512 (0 : Int32) (1 : Int32) (512 : Int32) _ _ h111 n0 ge_b107 ge_sc O X_b107 FB FL FS FD SCA SO ne_o_sc rfl rfl rfl ge_b BA EED OED EDo S_Do EEA S_EA rfl ne_aED_sc ne_o_b.symm ne_b_sc (by decide)) at_123 pd12 rfl (pc' := 126) rfl rfl (wd := 0) rfl (by decide) (by decide) (by decide) (by decide) (fun T h123 v X q => ?_)
        obtain ⟨rfl, K123, E', FB', FL', FS', FD', BA', SCA'⟩ := q
        replace S_ED := Sta_keepL S_ED K123 (allS (Pln_arf SCA) (allS (Pln_exa X_b107) (allS (Pln_arf BA) (all0))))
        replace S_Do := Sta_keepL S_Do K123 (allS (Pln_arf SCA) (allS (Pln_exa X_b107) (allS (Pln_arf BA) (all0))))
        replace S_EA := Sta_keepL S_EA K123 (allS (Pln_arf SCA) (allS (Pln_exa X_b107) (allS (Pln_arf BA) (all0))))
        replace S_Ar := Sta_keepL S_Ar K123 (allS (Pln_arf SCA) (allS (Pln_exa X_b107) (allS (Pln_arf BA) (all0))))
        replace O := O.keep K123 (allS ge_sc (allS ge_b107 (allS ge_b (all0))))
        replace EED := EED.keep K123
        replace EDo := EDo.keep K123
        replace EEA := EEA.keep K123
        replace EAr := EAr.keep K123
        replace OED := OED.keep K123 (by simp only [List.mem_cons, List.not_mem_nil, or_false, not_or]; exact ⟨ne_aED_sc, ne_aED_b107, ne_aED_b⟩)
        replace OEA := OEA.keep K123 (by simp only [List.mem_cons, List.not_mem_nil, or_false, not_or]; exact ⟨ne_aEA_sc, ne_aEA_b107, ne_aEA_b⟩)
        replace A_b64 := A_b64.keep K123 (by simp only [List.mem_cons, List.not_mem_nil, or_false, not_or]; exact ⟨ne_b64_sc, ne_b64_b107, ne_b64_b⟩)
        replace X_b107 := X_b107.keep K123
        have FB := FB'
        have FL := FL'
        have FS := FS'
        have FD := FD'
        have BA := BA'
        have SCA := SCA'
        show Go Γ n0 _ T (mkF Γ.m 126 #[.val (.int p0), .val (.int p1), .val (.int p2), .val (.int p3), .val (.int (2 : Int32)), .val (.int (1 : Int32)), .val (.int (1 : Int32)), .val (.int (600 : Int32)), .val (.int (p0.toInt8.toInt32)), .val (.int (p1.toInt8.toInt32)), .val (.int (p2.toInt8.toInt32)), .val (.ref b64), .val (.ref b107), .unset, .unset, .unset, .unset] [(.ref b107)])
        refine k_pop G X at_126 (pc' := 127) rfl rfl ?_
        refine k_aload G X at_127 (pc' := 129) rfl rfl rfl ?_
        refine k_aload G X at_129 (pc' := 131) rfl rfl rfl ?_
        refine k_callV G X (argsL := [(.ref b64)]) (rest := []) rfl X_b107 (w46 hw) (w47 hw) (nf_sel (w49 hw)) (w49 hw) (w48 hw) (w3 hw) (w50 hw) (by decide) (jv51 hw b107 b b64 sc aEA aAr kb k64 ks 1 600 (1 : Int32) (600 : Int32) (601 : Int32) _ _ _ h123 n0 ge_b107 ge_sc O X_b107 FB FL FS FD SCA SO ne_o_sc rfl rfl rfl BA A_b64 EEA OEA EAr S_Ar rfl ne_aEA_sc ne_o_b.symm ne_b64_b107 ne_b64_b ne_b_sc ne_b64_sc (by decide) (by decide)) at_131 pd9 rfl (pc' := 134) rfl rfl (wd := 0) rfl (by decide) (by decide) (by decide) (by decide) (fun T h131 v X q => ?_)
        obtain ⟨rfl, K131, E', SCA', b', kb', sz_b', FB', FL', FS', FD', BA'⟩ := q
        have ne_o_b' : b107 ≠ b' := Nat.ne_of_lt (Nat.lt_of_lt_of_le X_b107.lt sz_b')
        have ne_sc_b' : sc ≠ b' := Nat.ne_of_lt (Nat.lt_of_lt_of_le SCA.lt sz_b')
        have ge_b' : n0 ≤ b' := Nat.le_trans (Old_le O) sz_b'
        replace S_ED := Sta_keepL S_ED K131 (allS (Pln_arf SCA) (allS (Pln_exa X_b107) (all0)))
        replace S_Do := Sta_keepL S_Do K131 (allS (Pln_arf SCA) (allS (Pln_exa X_b107) (all0)))
        replace S_EA := Sta_keepL S_EA K131 (allS (Pln_arf SCA) (allS (Pln_exa X_b107) (all0)))
        replace S_Ar := Sta_keepL S_Ar K131 (allS (Pln_arf SCA) (allS (Pln_exa X_b107) (all0)))
        replace O := O.keep K131 (allS ge_sc (allS ge_b107 (all0)))
        replace EED := EED.keep K131
        replace EDo := EDo.keep K131
        replace EEA := EEA.keep K131
        replace EAr := EAr.keep K131
        replace X_b107 := X_b107.keep K131
        have FB := FB'
        have FL := FL'
        have FS := FS'
        have FD := FD'
        have BA := BA'
        have SCA := SCA'
        show Go Γ n0 _ T (mkF Γ.m 134 #[.val (.int p0), .val (.int p1), .val (.int p2), .val (.int p3), .val (.int (2 : Int32)), .val (.int (1 : Int32)), .val (.int (1 : Int32)), .val (.int (600 : Int32)), .val (.int (p0.toInt8.toInt32)), .val (.int (p1.toInt8.toInt32)), .val (.int (p2.toInt8.toInt32)), .val (.ref b64), .val (.ref b107), .unset, .unset, .unset, .unset] [(.ref b107)])
        refine k_pop G X at_134 (pc' := 135) rfl rfl ?_
        refine k_iload G X at_135 (pc' := 137) rfl rfl ?_
        refine k_if_eq G X at_137 (pc' := 146) rfl (by decide) (pc'' := 140) rfl (fun c137 => (absurd c137 (by decide))) (fun c137 => ?_)
        refine k_aload G X at_140 (pc' := 142) rfl rfl rfl ?_
        refine k_callV G X (argsL := []) (rest := []) rfl X_b107 (w118 hw) (w119 hw) (nf_sel (w121 hw)) (w121 hw) (w120 hw) (w3 hw) (w122 hw) (by decide) (endA hw b107 b' sc aAr aEA kb' ks 601 1024 (601 : Int32) (602 : Int32) (1024 : Int32) _ _ h131 n0 ge_b107 ge_sc O X_b107 FB FL FS FD SCA SO ne_o_sc rfl rfl rfl ge_b' BA S_EA S_Ar rfl ne_o_b'.symm ne_sc_b'.symm (by decide)) at_142 pd12 rfl (pc' := 145) rfl rfl (wd := 0) rfl (by decide) (by decide) (by decide) (by decide) (fun T h142 v X q => ?_)
        obtain ⟨rfl, K142, E', FB', FL', FS', FD', BA'⟩ := q
        replace S_ED := Sta_keepL S_ED K142 (allS (Pln_exa X_b107) (allS (Pln_arf BA) (all0)))
        replace S_Do := Sta_keepL S_Do K142 (allS (Pln_exa X_b107) (allS (Pln_arf BA) (all0)))
        replace S_EA := Sta_keepL S_EA K142 (allS (Pln_exa X_b107) (allS (Pln_arf BA) (all0)))
        replace S_Ar := Sta_keepL S_Ar K142 (allS (Pln_exa X_b107) (allS (Pln_arf BA) (all0)))
        replace O := O.keep K142 (allS ge_b107 (allS ge_b' (all0)))
        replace EED := EED.keep K142
        replace EDo := EDo.keep K142
        replace EEA := EEA.keep K142
        replace EAr := EAr.keep K142
        replace X_b107 := X_b107.keep K142
        replace SCA := SCA.keep K142 (by simp only [List.mem_cons, List.not_mem_nil, or_false, not_or]; exact ⟨(Ne.symm ne_o_sc), ne_sc_b'⟩)
        have FB := FB'
        have FL := FL'
        have FS := FS'
        have FD := FD'
        have BA := BA'
        show Go Γ n0 _ T (mkF Γ.m 145 #[.val (.int p0), .val (.int p1), .val (.int p2), .val (.int p3), .val (.int (2 : Int32)), .val (.int (1 : Int32)), .val (.int (1 : Int32)), .val (.int (600 : Int32)), .val (.int (p0.toInt8.toInt32)), .val (.int (p1.toInt8.toInt32)), .val (.int (p2.toInt8.toInt32)), .val (.ref b64), .val (.ref b107), .unset, .unset, .unset, .unset] [(.ref b107)])
        refine k_pop G X at_145 (pc' := 146) rfl rfl ?_
        refine k_iload G X at_146 (pc' := 148) rfl rfl ?_
        refine k_if_eq G X at_148 (pc' := 155) rfl (by decide) (pc'' := 151) rfl (fun c148 => (absurd c148 (by decide))) (fun c148 => ?_)
        refine k_iconst G X at_151 (pc' := 152) rfl (z := (1 : Int32)) (by decide) ?_
        refine k_goto G X at_152 (by decide) (pc' := 156) rfl ?_
        refine k_istore G X at_156 (pc' := 158) rfl (l' := #[.val (.int p0), .val (.int p1), .val (.int p2), .val (.int p3), .val (.int (2 : Int32)), .val (.int (1 : Int32)), .val (.int (1 : Int32)), .val (.int (600 : Int32)), .val (.int (p0.toInt8.toInt32)), .val (.int (p1.toInt8.toInt32)), .val (.int (p2.toInt8.toInt32)), .val (.ref b64), .val (.ref b107), .val (.int (1 : Int32)), .unset, .unset, .unset]) rfl ?_
        refine k_aload G X at_158 (pc' := 160) rfl rfl rfl ?_
        refine k_callV G X (argsL := []) (rest := []) rfl X_b107 (w80 hw) (w81 hw) (nf_sel (w83 hw)) (w83 hw) (w82 hw) (w3 hw) (w84 hw) (by decide) (toB hw b107 b' kb' 602 1024 (602 : Int32) (1024 : Int32) _ h142 n0 O FB FL rfl rfl (by decide) (by decide) BA) at_160 pd10 rfl (pc' := 163) rfl rfl (wd := 0) rfl (by decide) (by decide) (by decide) (by decide) (fun T h160 v X q => ?_)
        obtain ⟨r160, kr160, rfl, sz_r160, K160, R160⟩ := q
        have ge_r160 : n0 ≤ r160 := Nat.le_trans (Old_le O) sz_r160
        have ne_aED_r160 : aED ≠ r160 := Nat.ne_of_lt (Nat.lt_of_lt_of_le EED.lt sz_r160)
        have ne_aDo_r160 : aDo ≠ r160 := Nat.ne_of_lt (Nat.lt_of_lt_of_le EDo.lt sz_r160)
        have ne_aEA_r160 : aEA ≠ r160 := Nat.ne_of_lt (Nat.lt_of_lt_of_le EEA.lt sz_r160)
        have ne_aAr_r160 : aAr ≠ r160 := Nat.ne_of_lt (Nat.lt_of_lt_of_le EAr.lt sz_r160)
        have ne_b107_r160 : b107 ≠ r160 := Nat.ne_of_lt (Nat.lt_of_lt_of_le X_b107.lt sz_r160)
        have ne_b'_r160 : b' ≠ r160 := Nat.ne_of_lt (Nat.lt_of_lt_of_le BA.lt sz_r160)
        have ne_sc_r160 : sc ≠ r160 := Nat.ne_of_lt (Nat.lt_of_lt_of_le SCA.lt sz_r160)
        replace S_ED := Jvm.OwnK.Sta_keep S_ED K160
        replace S_Do := Jvm.OwnK.Sta_keep S_Do K160
        replace S_EA := Jvm.OwnK.Sta_keep S_EA K160
        replace S_Ar := Jvm.OwnK.Sta_keep S_Ar K160
        replace O := O.keep K160 (all0)
        replace EED := EED.keep K160
        replace EDo := EDo.keep K160
        replace EEA := EEA.keep K160
        replace EAr := EAr.keep K160
        replace X_b107 := X_b107.keep K160
        replace FB := FB.keep K160 nin0
        replace FL := FL.keep K160 nin0
        replace FS := FS.keep K160 nin0
        replace FD := FD.keep K160 nin0
        replace BA := BA.keep K160 nin0
        replace SCA := SCA.keep K160 nin0
        show Go Γ n0 _ T (mkF Γ.m 163 #[.val (.int p0), .val (.int p1), .val (.int p2), .val (.int p3), .val (.int (2 : Int32)), .val (.int (1 : Int32)), .val (.int (1 : Int32)), .val (.int (600 : Int32)), .val (.int (p0.toInt8.toInt32)), .val (.int (p1.toInt8.toInt32)), .val (.int (p2.toInt8.toInt32)), .val (.ref b64), .val (.ref b107), .val (.int (1 : Int32)), .unset, .unset, .unset] [(.ref r160)])
        refine k_astore G X at_163 (pc' := 165) rfl rfl (l' := #[.val (.int p0), .val (.int p1), .val (.int p2), .val (.int p3), .val (.int (2 : Int32)), .val (.int (1 : Int32)), .val (.int (1 : Int32)), .val (.int (600 : Int32)), .val (.int (p0.toInt8.toInt32)), .val (.int (p1.toInt8.toInt32)), .val (.int (p2.toInt8.toInt32)), .val (.ref b64), .val (.ref b107), .val (.int (1 : Int32)), .val (.ref r160), .unset, .unset]) rfl ?_
        refine k_aload G X at_165 (pc' := 167) rfl rfl rfl ?_
        refine k_iload G X at_167 (pc' := 169) rfl rfl ?_
        refine k_iload G X at_169 (pc' := 171) rfl rfl ?_
        refine k_iload G X at_171 (pc' := 173) rfl rfl ?_
        refine k_iload G X at_173 (pc' := 175) rfl rfl ?_
        refine k_iload G X at_175 (pc' := 177) rfl rfl ?_
        refine k_iload G X at_177 (pc' := 179) rfl rfl ?_
        refine k_callS G X (argsL := [(.ref r160), (.int (600 : Int32)), (.int (1 : Int32)), (.int (p0.toInt8.toInt32)), (.int (p1.toInt8.toInt32)), (.int (p2.toInt8.toInt32)), (.int (1 : Int32))]) (rest := []) rfl (w94 hw) (w95 hw) (w96 hw) (w97 hw) (by decide) (chk_600_1 hw r160 kr160 _ (p0.toInt8.toInt32) (p1.toInt8.toInt32) (p2.toInt8.toInt32) h160 n0 R160 (by rfl) (by rfl) (by rfl) (by rfl) (by rfl) (by rfl)) at_179 pd11 rfl (pc' := 182) rfl rfl (wd := 0) rfl (by decide) (by decide) (by decide) (by decide) (fun T h179 v X q => ?_)
        obtain ⟨rfl, e179⟩ := q
        replace X := X.eq e179
        show Go Γ n0 _ T (mkF Γ.m 182 #[.val (.int p0), .val (.int p1), .val (.int p2), .val (.int p3), .val (.int (2 : Int32)), .val (.int (1 : Int32)), .val (.int (1 : Int32)), .val (.int (600 : Int32)), .val (.int (p0.toInt8.toInt32)), .val (.int (p1.toInt8.toInt32)), .val (.int (p2.toInt8.toInt32)), .val (.ref b64), .val (.ref b107), .val (.int (1 : Int32)), .val (.ref r160), .unset, .unset] [(.int (1 : Int32))])
        refine k_istore G X at_182 (pc' := 184) rfl (l' := #[.val (.int p0), .val (.int p1), .val (.int p2), .val (.int p3), .val (.int (2 : Int32)), .val (.int (1 : Int32)), .val (.int (1 : Int32)), .val (.int (600 : Int32)), .val (.int (p0.toInt8.toInt32)), .val (.int (p1.toInt8.toInt32)), .val (.int (p2.toInt8.toInt32)), .val (.ref b64), .val (.ref b107), .val (.int (1 : Int32)), .val (.ref r160), .val (.int (1 : Int32)), .unset]) rfl ?_
        refine k_aload G X at_184 (pc' := 186) rfl rfl rfl ?_
        refine k_alen G X (z := (602 : Int32)) R160 rfl at_186 (pc' := 187) rfl ?_
        refine k_if_le G X at_187 (pc' := 201) rfl (by decide) (pc'' := 190) rfl (fun c187 => (absurd c187 (by decide))) (fun c187 => ?_)
        refine k_aload G X at_190 (pc' := 192) rfl rfl rfl ?_
        refine k_iconst G X at_192 (pc' := 193) rfl (z := (0 : Int32)) (by decide) ?_
        refine k_aload G X at_193 (pc' := 195) rfl rfl rfl ?_
        refine k_iconst G X at_195 (pc' := 196) rfl (z := (0 : Int32)) (by decide) ?_
        refine k_baload G X (i := 0) (v := (.int (91 : Int32))) R160 rfl (by decide) (by rfl) at_196 (pc' := 197) rfl ?_
        refine k_iconst G X at_197 (pc' := 198) rfl (z := (1 : Int32)) (by decide) ?_
        refine k_ixor G X at_198 (pc' := 199) rfl (z := (90 : Int32)) (by decide) ?_
        refine k_i2b G X at_199 (pc' := 200) rfl (z := (90 : Int32)) (by decide) ?_
        refine k_bastore G X (i := 0) (z := ((90 : Int32))) R160 rfl (by decide) (by simp [nar]) ge_r160 at_200 (pc' := 201) rfl (fun T h200 W200 R160 X => ?_)
        replace O := O.wr W200 ge_r160
        replace S_ED := S_ED.wr W200
        replace S_Do := S_Do.wr W200
        replace S_EA := S_EA.wr W200
        replace S_Ar := S_Ar.wr W200
        replace EED := EED.wr W200
        replace EDo := EDo.wr W200
        replace EEA := EEA.wr W200
        replace EAr := EAr.wr W200
        replace X_b107 := X_b107.wr W200
        replace FB := FB.other W200 (Or.inl ne_b107_r160)
        replace FL := FL.other W200 (Or.inl ne_b107_r160)
        replace FS := FS.other W200 (Or.inl ne_b107_r160)
        replace FD := FD.other W200 (Or.inl ne_b107_r160)
        replace BA := BA.other W200 ne_b'_r160
        replace SCA := SCA.other W200 ne_sc_r160
        refine k_aload G X at_201 (pc' := 203) rfl rfl rfl ?_
        refine k_callV G X (argsL := []) (rest := []) rfl X_b107 (w80 hw) (w81 hw) (nf_sel (w83 hw)) (w83 hw) (w82 hw) (w3 hw) (w84 hw) (by decide) (toB hw b107 b' kb' 602 1024 (602 : Int32) (1024 : Int32) _ h200 n0 O FB FL rfl rfl (by decide) (by decide) BA) at_203 pd10 rfl (pc' := 206) rfl rfl (wd := 0) rfl (by decide) (by decide) (by decide) (by decide) (fun T h203 v X q => ?_)
        obtain ⟨r203, kr203, rfl, sz_r203, K203, R203⟩ := q
        have ge_r203 : n0 ≤ r203 := Nat.le_trans (Old_le O) sz_r203
        replace S_ED := Jvm.OwnK.Sta_keep S_ED K203
        replace S_Do := Jvm.OwnK.Sta_keep S_Do K203
        replace S_EA := Jvm.OwnK.Sta_keep S_EA K203
        replace S_Ar := Jvm.OwnK.Sta_keep S_Ar K203
        replace O := O.keep K203 (all0)
        replace EED := EED.keep K203
        replace EDo := EDo.keep K203
        replace EEA := EEA.keep K203
        replace EAr := EAr.keep K203
        replace X_b107 := X_b107.keep K203
        replace FB := FB.keep K203 nin0
        replace FL := FL.keep K203 nin0
        replace FS := FS.keep K203 nin0
        replace FD := FD.keep K203 nin0
        replace BA := BA.keep K203 nin0
        replace SCA := SCA.keep K203 nin0
        replace R160 := R160.keep K203 nin0
        show Go Γ n0 _ T (mkF Γ.m 206 #[.val (.int p0), .val (.int p1), .val (.int p2), .val (.int p3), .val (.int (2 : Int32)), .val (.int (1 : Int32)), .val (.int (1 : Int32)), .val (.int (600 : Int32)), .val (.int (p0.toInt8.toInt32)), .val (.int (p1.toInt8.toInt32)), .val (.int (p2.toInt8.toInt32)), .val (.ref b64), .val (.ref b107), .val (.int (1 : Int32)), .val (.ref r160), .val (.int (1 : Int32)), .unset] [(.ref r203)])
        refine k_astore G X at_206 (pc' := 208) rfl rfl (l' := #[.val (.int p0), .val (.int p1), .val (.int p2), .val (.int p3), .val (.int (2 : Int32)), .val (.int (1 : Int32)), .val (.int (1 : Int32)), .val (.int (600 : Int32)), .val (.int (p0.toInt8.toInt32)), .val (.int (p1.toInt8.toInt32)), .val (.int (p2.toInt8.toInt32)), .val (.ref b64), .val (.ref b107), .val (.int (1 : Int32)), .val (.ref r160), .val (.int (1 : Int32)), .val (.ref r203)]) rfl ?_
        refine k_iload G X at_208 (pc' := 210) rfl rfl ?_
        refine k_if_eq G X at_210 (pc' := 237) rfl (by decide) (pc'' := 213) rfl (fun c210 => (absurd c210 (by decide))) (fun c210 => ?_)
        refine k_aload G X at_213 (pc' := 215) rfl rfl rfl ?_
        refine k_iload G X at_215 (pc' := 217) rfl rfl ?_
        refine k_iload G X at_217 (pc' := 219) rfl rfl ?_
        refine k_iload G X at_219 (pc' := 221) rfl rfl ?_
        refine k_iload G X at_221 (pc' := 223) rfl rfl ?_
        refine k_iload G X at_223 (pc' := 225) rfl rfl ?_
        refine k_iload G X at_225 (pc' := 227) rfl rfl ?_
        refine k_callS G X (argsL := [(.ref r203), (.int (600 : Int32)), (.int (1 : Int32)), (.int (p0.toInt8.toInt32)), (.int (p1.toInt8.toInt32)), (.int (p2.toInt8.toInt32)), (.int (1 : Int32))]) (rest := []) rfl (w94 hw) (w95 hw) (w96 hw) (w97 hw) (by decide) (chk_600_1 hw r203 kr203 _ (p0.toInt8.toInt32) (p1.toInt8.toInt32) (p2.toInt8.toInt32) h203 n0 R203 (by rfl) (by rfl) (by rfl) (by rfl) (by rfl) (by rfl)) at_227 pd11 rfl (pc' := 230) rfl rfl (wd := 0) rfl (by decide) (by decide) (by decide) (by decide) (fun T h227 v X q => ?_)
        obtain ⟨rfl, e227⟩ := q
        replace X := X.eq e227
        show Go Γ n0 _ T (mkF Γ.m 230 #[.val (.int p0), .val (.int p1), .val (.int p2), .val (.int p3), .val (.int (2 : Int32)), .val (.int (1 : Int32)), .val (.int (1 : Int32)), .val (.int (600 : Int32)), .val (.int (p0.toInt8.toInt32)), .val (.int (p1.toInt8.toInt32)), .val (.int (p2.toInt8.toInt32)), .val (.ref b64), .val (.ref b107), .val (.int (1 : Int32)), .val (.ref r160), .val (.int (1 : Int32)), .val (.ref r203)] [(.int (1 : Int32))])
        refine k_if_eq G X at_230 (pc' := 237) rfl (by decide) (pc'' := 233) rfl (fun c230 => (absurd c230 (by decide))) (fun c230 => ?_)
        refine k_iconst G X at_233 (pc' := 234) rfl (z := (1 : Int32)) (by decide) ?_
        refine k_goto G X at_234 (by decide) (pc' := 238) rfl ?_
        refine k_retb G X at_238 (t := .boolean) rfl (by simp) rfl ?_ (by decide) (by decide)
        rfl
  · refine k_istore G X at_3 (pc' := 5) rfl (l' := #[.val (.int p0), .val (.int p1), .val (.int p2), .val (.int p3), .val (.int (3 : Int32)), .unset, .unset, .unset, .unset, .unset, .unset, .unset, .unset, .unset, .unset, .unset, .unset]) rfl ?_
    refine k_iloadN G X at_5 (pc' := 6) rfl rfl ?_
    refine k_iconst G X at_6 (pc' := 7) rfl (z := (2 : Int32)) (by decide) ?_
    refine k_ishr G X at_7 (pc' := 8) rfl rfl ?_
    refine k_iconst G X at_8 (pc' := 9) rfl (z := (1 : Int32)) (by decide) ?_
    refine k_iand G X at_9 (pc' := 10) rfl rfl ?_
    refine k_if_eq G X at_10 (pc' := 17) rfl (by decide) (pc'' := 13) rfl (fun c10 => ?_) (fun c10 => ?_)
    · refine k_iconst G X at_17 (pc' := 18) rfl (z := (0 : Int32)) (by decide) ?_
      refine k_istore G X at_18 (pc' := 20) rfl (l' := #[.val (.int p0), .val (.int p1), .val (.int p2), .val (.int p3), .val (.int (3 : Int32)), .val (.int (0 : Int32)), .unset, .unset, .unset, .unset, .unset, .unset, .unset, .unset, .unset, .unset, .unset]) rfl ?_
      refine k_iloadN G X at_20 (pc' := 21) rfl rfl ?_
      refine k_iconst G X at_21 (pc' := 22) rfl (z := (3 : Int32)) (by decide) ?_
      refine k_ishr G X at_22 (pc' := 23) rfl rfl ?_
      refine k_iconst G X at_23 (pc' := 24) rfl (z := (1 : Int32)) (by decide) ?_
      refine k_iand G X at_24 (pc' := 25) rfl rfl ?_
      refine k_if_eq G X at_25 (pc' := 32) rfl (by decide) (pc'' := 28) rfl (fun c25 => ?_) (fun c25 => ?_)
      · refine k_iconst G X at_32 (pc' := 33) rfl (z := (0 : Int32)) (by decide) ?_
        refine k_istore G X at_33 (pc' := 35) rfl (l' := #[.val (.int p0), .val (.int p1), .val (.int p2), .val (.int p3), .val (.int (3 : Int32)), .val (.int (0 : Int32)), .val (.int (0 : Int32)), .unset, .unset, .unset, .unset, .unset, .unset, .unset, .unset, .unset, .unset]) rfl ?_
        refine k_iload G X at_35 (pc' := 37) rfl rfl ?_
        refine k_if_eq G X at_37 (pc' := 46) rfl (by decide) (pc'' := 40) rfl (fun c37 => ?_) (fun c37 => (absurd c37 (by decide)))
        refine k_iload G X at_46 (pc' := 48) rfl rfl ?_
        refine k_istore G X at_48 (pc' := 50) rfl (l' := #[.val (.int p0), .val (.int p1), .val (.int p2), .val (.int p3), .val (.int (3 : Int32)), .val (.int (0 : Int32)), .val (.int (0 : Int32)), .val (.int (3 : Int32)), .unset, .unset, .unset, .unset, .unset, .unset, .unset, .unset, .unset]) rfl ?_
        refine k_iloadN G X at_50 (pc' := 51) rfl rfl ?_
        refine k_i2b G X at_51 (pc' := 52) rfl rfl ?_
        refine k_istore G X at_52 (pc' := 54) rfl (l' := #[.val (.int p0), .val (.int p1), .val (.int p2), .val (.int p3), .val (.int (3 : Int32)), .val (.int (0 : Int32)), .val (.int (0 : Int32)), .val (.int (3 : Int32)), .val (.int (p0.toInt8.toInt32)), .unset, .unset, .unset, .unset, .unset, .unset, .unset, .unset]) rfl ?_
        refine k_iloadN G X at_54 (pc' := 55) rfl rfl ?_
        refine k_i2b G X at_55 (pc' := 56) rfl rfl ?_
        refine k_istore G X at_56 (pc' := 58) rfl (l' := #[.val (.int p0), .val (.int p1), .val (.int p2), .val (.int p3), .val (.int (3 : Int32)), .val (.int (0 : Int32)), .val (.int (0 : Int32)), .val (.int (3 : Int32)), .val (.int (p0.toInt8.toInt32)), .val (.int (p1.toInt8.toInt32)), .unset, .unset, .unset, .unset, .unset, .unset, .unset]) rfl ?_
        refine k_iloadN G X at_58 (pc' := 59) rfl rfl ?_
        refine k_i2b G X at_59 (pc' := 60) rfl rfl ?_
        refine k_istore G X at_60 (pc' := 62) rfl (l' := #[.val (.int p0), .val (.int p1), .val (.int p2), .val (.int p3), .val (.int (3 : Int32)), .val (.int (0 : Int32)), .val (.int (0 : Int32)), .val (.int (3 : Int32)), .val (.int (p0.toInt8.toInt32)), .val (.int (p1.toInt8.toInt32)), .val (.int (p2.toInt8.toInt32)), .unset, .unset, .unset, .unset, .unset, .unset]) rfl ?_
        refine k_iload G X at_62 (pc' := 64) rfl rfl ?_
        refine k_newP G X (aty := .byte) (n := 3) (cap := 3) (w0 hw) at_64 (pc' := 66) rfl rfl (by decide) (by decide) (by decide) (by decide) (fun T h64 b64 k64 s_b64 E64 A_b64 X => ?_)
        have ne_aED_b64 : aED ≠ b64 := Nat.ne_of_lt (Nat.lt_of_lt_of_eq EED.lt s_b64)
        have ne_aDo_b64 : aDo ≠ b64 := Nat.ne_of_lt (Nat.lt_of_lt_of_eq EDo.lt s_b64)
        have ne_aEA_b64 : aEA ≠ b64 := Nat.ne_of_lt (Nat.lt_of_lt_of_eq EEA.lt s_b64)
        have ne_aAr_b64 : aAr ≠ b64 := Nat.ne_of_lt (Nat.lt_of_lt_of_eq EAr.lt s_b64)
        have ge_b64 : n0 ≤ b64 := Nat.le_trans (Jvm.OwnK.Old_le O) (Nat.le_of_eq s_b64)
        replace O := O.ext E64
        replace S_ED := S_ED.ext E64
        replace S_Do := S_Do.ext E64
        replace S_EA := S_EA.ext E64
        replace S_Ar := S_Ar.ext E64
        replace EED := EED.ext E64
        replace EDo := EDo.ext E64
        replace EEA := EEA.ext E64
        replace EAr := EAr.ext E64
        replace OED := OED.ext E64
        replace OEA := OEA.ext E64
        replace A_b64 : Arf Z h64 b64 k64 .byte 3 (fun _ => (.int (0 : Int32))) := A_b64
        refine k_astore G X at_66 (pc' := 68) rfl rfl (l' := #[.val (.int p0), .val (.int p1), .val (.int p2), .val (.int p3), .val (.int (3 : Int32)), .val (.int (0 : Int32)), .val (.int (0 : Int32)), .val (.int (3 : Int32)), .val (.int (p0.toInt8.toInt32)), .val (.int (p1.toInt8.toInt32)), .val (.int (p2.toInt8.toInt32)), .val (.ref b64), .unset, .unset, .unset, .unset, .unset]) rfl ?_
        refine k_iload G X at_68 (pc' := 70) rfl rfl ?_
        refine k_iconst G X at_70 (pc' := 71) rfl (z := (1 : Int32)) (by decide) ?_
        refine k_icmp_lt G X at_71 (pc' := 80) rfl (by decide) (pc'' := 74) rfl (fun c71 => (absurd c71 (by decide))) (fun c71 => ?_)
        refine k_aload G X at_74 (pc' := 76) rfl rfl rfl ?_
        refine k_iconst G X at_76 (pc' := 77) rfl (z := (0 : Int32)) (by decide) ?_
        refine k_iload G X at_77 (pc' := 79) rfl rfl ?_
        refine k_bastore G X (i := 0) (z := (p0.toInt8.toInt32)) A_b64 rfl (by decide) (by simp [nar]) ge_b64 at_79 (pc' := 80) rfl (fun T h79 W79 A_b64 X => ?_)
        replace O := O.wr W79 ge_b64
        replace S_ED := S_ED.wr W79
        replace S_Do := S_Do.wr W79
        replace S_EA := S_EA.wr W79
        replace S_Ar := S_Ar.wr W79
        replace EED := EED.wr W79
        replace EDo := EDo.wr W79
        replace EEA := EEA.wr W79
        replace EAr := EAr.wr W79
        replace OED := OED.other W79 (Or.inl ne_aED_b64)
        replace OEA := OEA.other W79 (Or.inl ne_aEA_b64)
        refine k_iload G X at_80 (pc' := 82) rfl rfl ?_
        refine k_iconst G X at_82 (pc' := 83) rfl (z := (2 : Int32)) (by decide) ?_
        refine k_icmp_lt G X at_83 (pc' := 92) rfl (by decide) (pc'' := 86) rfl (fun c83 => (absurd c83 (by decide))) (fun c83 => ?_)
        refine k_aload G X at_86 (pc' := 88) rfl rfl rfl ?_
        refine k_iconst G X at_88 (pc' := 89) rfl (z := (1 : Int32)) (by decide) ?_
        refine k_iload G X at_89 (pc' := 91) rfl rfl ?_
        refine k_bastore G X (i := 1) (z := (p1.toInt8.toInt32)) A_b64 rfl (by decide) (by simp [nar]) ge_b64 at_91 (pc' := 92) rfl (fun T h91 W91 A_b64 X => ?_)
        replace O := O.wr W91 ge_b64
        replace S_ED := S_ED.wr W91
        replace S_Do := S_Do.wr W91
        replace S_EA := S_EA.wr W91
        replace S_Ar := S_Ar.wr W91
        replace EED := EED.wr W91
        replace EDo := EDo.wr W91
        replace EEA := EEA.wr W91
        replace EAr := EAr.wr W91
        replace OED := OED.other W91 (Or.inl ne_aED_b64)
        replace OEA := OEA.other W91 (Or.inl ne_aEA_b64)
        refine k_iload G X at_92 (pc' := 94) rfl rfl ?_
        refine k_iconst G X at_94 (pc' := 95) rfl (z := (3 : Int32)) (by decide) ?_
        refine k_icmp_lt G X at_95 (pc' := 107) rfl (by decide) (pc'' := 98) rfl (fun c95 => (absurd c95 (by decide))) (fun c95 => ?_)
        refine k_aload G X at_98 (pc' := 100) rfl rfl rfl ?_
        refine k_iload G X at_100 (pc' := 102) rfl rfl ?_
        refine k_iconst G X at_102 (pc' := 103) rfl (z := (1 : Int32)) (by decide) ?_
        refine k_isub G X at_103 (pc' := 104) rfl (z := (2 : Int32)) (by decide) ?_
        refine k_iload G X at_104 (pc' := 106) rfl rfl ?_
        refine k_bastore G X (i := 2) (z := (p2.toInt8.toInt32)) A_b64 rfl (by decide) (by simp [nar]) ge_b64 at_106 (pc' := 107) rfl (fun T h106 W106 A_b64 X => ?_)
        replace O := O.wr W106 ge_b64
        replace S_ED := S_ED.wr W106
        replace S_Do := S_Do.wr W106
        replace S_EA := S_EA.wr W106
        replace S_Ar := S_Ar.wr W106
        replace EED := EED.wr W106
        replace EDo := EDo.wr W106
        replace EEA := EEA.wr W106
        replace EAr := EAr.wr W106
        replace OED := OED.other W106 (Or.inl ne_aED_b64)
        replace OEA := OEA.other W106 (Or.inl ne_aEA_b64)
        refine k_new G X (w1 hw) (w2 hw) (w3 hw) at_107 (pc' := 110) rfl (by decide) (by decide) (fun T h107 b107 s_b107 E107 X_b107 D107 X => ?_)
        have ne_aED_b107 : aED ≠ b107 := Nat.ne_of_lt (Nat.lt_of_lt_of_eq EED.lt s_b107)
        have ne_aDo_b107 : aDo ≠ b107 := Nat.ne_of_lt (Nat.lt_of_lt_of_eq EDo.lt s_b107)
        have ne_aEA_b107 : aEA ≠ b107 := Nat.ne_of_lt (Nat.lt_of_lt_of_eq EEA.lt s_b107)
        have ne_aAr_b107 : aAr ≠ b107 := Nat.ne_of_lt (Nat.lt_of_lt_of_eq EAr.lt s_b107)
        have ne_b64_b107 : b64 ≠ b107 := Nat.ne_of_lt (Nat.lt_of_lt_of_eq A_b64.lt s_b107)
        have ge_b107 : n0 ≤ b107 := Nat.le_trans (Jvm.OwnK.Old_le O) (Nat.le_of_eq s_b107)
        replace O := O.ext E107
        replace S_ED := S_ED.ext E107
        replace S_Do := S_Do.ext E107
        replace S_EA := S_EA.ext E107
        replace S_Ar := S_Ar.ext E107
        replace EED := EED.ext E107
        replace EDo := EDo.ext E107
        replace EEA := EEA.ext E107
        replace EAr := EAr.ext E107
        replace OED := OED.ext E107
        replace OEA := OEA.ext E107
        replace A_b64 := A_b64.ext E107
        have F_b107_names : Fld Z h107 b107 "com/example/changeline/changeline/format/JsonOutput" "names" "Ljava/util/Map;" .null := D107 (Or.inr (w33 hw)) (ty := (.object "java/util/Map")) (by decide)
        have F_b107_bytes : Fld Z h107 b107 "com/example/changeline/changeline/format/JsonOutput" "bytes" "[B" .null := D107 (Or.inl (w35 hw)) (ty := (.array .byte)) (by decide)
        have F_b107_scopes : Fld Z h107 b107 "com/example/changeline/changeline/format/JsonOutput" "scopes" "[Lcom/example/changeline/changeline/format/JsonOutput$Scope;" .null := D107 (Or.inl (w39 hw)) (ty := (.array (.object "com/example/changeline/changeline/format/JsonOutput$Scope"))) (by decide)
        have F_b107_depth : Fld Z h107 b107 "com/example/changeline/changeline/format/JsonOutput" "depth" "I" (.int (0 : Int32)) := D107 (Or.inl (w41 hw)) (ty := .int) (by decide)
        have F_b107_length : Fld Z h107 b107 "com/example/changeline/changeline/format/JsonOutput" "length" "I" (.int (0 : Int32)) := D107 (Or.inl (w71 hw)) (ty := .int) (by decide)
        refine k_dup G X at_110 (pc' := 111) rfl rfl ?_
        refine k_callI G X (argsL := []) (rest := [(.ref b107)]) rfl rfl (w4 hw) (w5 hw) (w3 hw) (w6 hw) (by decide) (jo_init hw b107 aED h107 n0 ge_b107 O X_b107 F_b107_names F_b107_bytes F_b107_length F_b107_scopes F_b107_depth S_ED EED) at_111 pd0 rfl (pc' := 114) rfl rfl (wd := 1) rfl (by decide) (by decide) (by decide) (by decide) (fun T h111 v X q => ?_)
        obtain ⟨rfl, K111, E', b, sc, kb, ks, sz_b, sz_sc, ne_b_sc, FB, FL, FS, FD, BA, SCA, SO⟩ := q
        have ne_aED_b : aED ≠ b := Nat.ne_of_lt (Nat.lt_of_lt_of_le EED.lt sz_b)
        have ne_aED_sc : aED ≠ sc := Nat.ne_of_lt (Nat.lt_of_lt_of_le EED.lt sz_sc)
        have ne_aDo_b : aDo ≠ b := Nat.ne_of_lt (Nat.lt_of_lt_of_le EDo.lt sz_b)
        have ne_aDo_sc : aDo ≠ sc := Nat.ne_of_lt (Nat.lt_of_lt_of_le EDo.lt sz_sc)
        have ne_aEA_b : aEA ≠ b := Nat.ne_of_lt (Nat.lt_of_lt_of_le EEA.lt sz_b)
        have ne_aEA_sc : aEA ≠ sc := Nat.ne_of_lt (Nat.lt_of_lt_of_le EEA.lt sz_sc)
        have ne_aAr_b : aAr ≠ b := Nat.ne_of_lt (Nat.lt_of_lt_of_le EAr.lt sz_b)
        have ne_aAr_sc : aAr ≠ sc := Nat.ne_of_lt (Nat.lt_of_lt_of_le EAr.lt sz_sc)
        have ne_b64_b : b64 ≠ b := Nat.ne_of_lt (Nat.lt_of_lt_of_le A_b64.lt sz_b)
        have ne_b64_sc : b64 ≠ sc := Nat.ne_of_lt (Nat.lt_of_lt_of_le A_b64.lt sz_sc)
        have ne_o_b : b107 ≠ b := Nat.ne_of_lt (Nat.lt_of_lt_of_le X_b107.lt sz_b)
        have ge_b : n0 ≤ b := Nat.le_trans (Old_le O) sz_b
        have ne_o_sc : b107 ≠ sc := Nat.ne_of_lt (Nat.lt_of_lt_of_le X_b107.lt sz_sc)
        have ge_sc : n0 ≤ sc := Nat.le_trans (Old_le O) sz_sc
        replace S_ED := Sta_keepL S_ED K111 (allS (Pln_exa X_b107) (all0))
        replace S_Do := Sta_keepL S_Do K111 (allS (Pln_exa X_b107) (all0))
        replace S_EA := Sta_keepL S_EA K111 (allS (Pln_exa X_b107) (all0))
        replace S_Ar := Sta_keepL S_Ar K111 (allS (Pln_exa X_b107) (all0))
        replace O := O.keep K111 (allS ge_b107 (all0))
        replace EED := EED.keep K111
        replace EDo := EDo.keep K111
        replace EEA := EEA.keep K111
        replace EAr := EAr.keep K111
        replace OED := OED.keep K111 (by simp only [List.mem_cons, List.not_mem_nil, or_false, not_or]; exact ne_aED_b107)
        replace OEA := OEA.keep K111 (by simp only [List.mem_cons, List.not_mem_nil, or_false, not_or]; exact ne_aEA_b107)
        replace A_b64 := A_b64.keep K111 (by simp only [List.mem_cons, List.not_mem_nil, or_false, not_or]; exact ne_b64_b107)
        replace X_b107 := X_b107.keep K111
        show Go Γ n0 _ T (mkF Γ.m 114 #[.val (.int p0), .val (.int p1), .val (.int p2), .val (.int p3), .val (.int (3 : Int32)), .val (.int (0 : Int32)), .val (.int (0 : Int32)), .val (.int (3 : Int32)), .val (.int (p0.toInt8.toInt32)), .val (.int (p1.toInt8.toInt32)), .val (.int (p2.toInt8.toInt32)), .val (.ref b64), .unset, .unset, .unset, .unset, .unset] [(.ref b107)])
        refine k_astore G X at_114 (pc' := 116) rfl rfl (l' := #[.val (.int p0), .val (.int p1), .val (.int p2), .val (.int p3), .val (.int (3 : Int32)), .val (.int (0 : Int32)), .val (.int (0 : Int32)), .val (.int (3 : Int32)), .val (.int (p0.toInt8.toInt32)), .val (.int (p1.toInt8.toInt32)), .val (.int (p2.toInt8.toInt32)), .val (.ref b64), .val (.ref b107), .unset, .unset, .unset, .unset]) rfl ?_
        refine k_iload G X at_116 (pc' := 118) rfl rfl ?_
        refine k_if_eq G X at_118 (pc' := 127) rfl (by decide) (pc'' := 121) rfl (fun c118 => ?_) (fun c118 => (absurd c118 (by decide)))
        refine k_aload G X at_127 (pc' := 129) rfl rfl rfl ?_
        refine k_aload G X at_129 (pc' := 131) rfl rfl rfl ?_
        refine k_callV G X (argsL := [(.ref b64)]) (rest := []) rfl X_b107 (w46 hw) (w47 hw) (nf_sel (w49 hw)) (w49 hw) (w48 hw) (w3 hw) (w50 hw) (by decide) (jv00 hw b107 b b64 sc aED aDo kb k64 ks 0 3 512 (0 : Int32) (3 : Int32) (3 : Int32) (512 : Int32) _ _ _ h111 n0 ge_b107 ge_sc O X_b107 FB FL FS FD SCA SO ne_o_sc rfl rfl rfl rfl ge_b BA A_b64 EED OED EDo S_Do rfl ne_aED_sc ne_o_b.symm ne_b64_b107 ne_b64_b ne_b_sc ne_b64_sc (by decide)) at_131 pd9 rfl (pc' := 134) rfl rfl (wd := 0) rfl (by decide) (by decide) (by decide) (by decide) (fun T h131 v X q => ?_)
        obtain ⟨rfl, K131, E', SCA', FB', FL', FS', FD', BA'⟩ := q
        replace S_ED := Sta_keepL S_ED K131 (allS (Pln_arf SCA) (allS (Pln_exa X_b107) (allS (Pln_arf BA) (all0))))
        replace S_Do := Sta_keepL S_Do K131 (allS (Pln_arf SCA) (allS (Pln_exa X_b107) (allS (Pln_arf BA) (all0))))
        replace S_EA := Sta_keepL S_EA K131 (allS (Pln_arf SCA) (allS (Pln_exa X_b107) (allS (Pln_arf BA) (all0))))
        replace S_Ar := Sta_keepL S_Ar K131 (allS (Pln_arf SCA) (allS (Pln_exa X_b107) (allS (Pln_arf BA) (all0))))
        replace O := O.keep K131 (allS ge_sc (allS ge_b107 (allS ge_b (all0))))
        replace EED := EED.keep K131
        replace EDo := EDo.keep K131
        replace EEA := EEA.keep K131
        replace EAr := EAr.keep K131
        replace X_b107 := X_b107.keep K131
        have FB := FB'
        have FL := FL'
        have FS := FS'
        have FD := FD'
        have BA := BA'
        have SCA := SCA'
        show Go Γ n0 _ T (mkF Γ.m 134 #[.val (.int p0), .val (.int p1), .val (.int p2), .val (.int p3), .val (.int (3 : Int32)), .val (.int (0 : Int32)), .val (.int (0 : Int32)), .val (.int (3 : Int32)), .val (.int (p0.toInt8.toInt32)), .val (.int (p1.toInt8.toInt32)), .val (.int (p2.toInt8.toInt32)), .val (.ref b64), .val (.ref b107), .unset, .unset, .unset, .unset] [(.ref b107)])
        refine k_pop G X at_134 (pc' := 135) rfl rfl ?_
        refine k_iload G X at_135 (pc' := 137) rfl rfl ?_
        refine k_if_eq G X at_137 (pc' := 146) rfl (by decide) (pc'' := 140) rfl (fun c137 => ?_) (fun c137 => (absurd c137 (by decide)))
        refine k_iload G X at_146 (pc' := 148) rfl rfl ?_
        refine k_if_eq G X at_148 (pc' := 155) rfl (by decide) (pc'' := 151) rfl (fun c148 => ?_) (fun c148 => (absurd c148 (by decide)))
        refine k_iconst G X at_155 (pc' := 156) rfl (z := (0 : Int32)) (by decide) ?_
        refine k_istore G X at_156 (pc' := 158) rfl (l' := #[.val (.int p0), .val (.int p1), .val (.int p2), .val (.int p3), .val (.int (3 : Int32)), .val (.int (0 : Int32)), .val (.int (0 : Int32)), .val (.int (3 : Int32)), .val (.int (p0.toInt8.toInt32)), .val (.int (p1.toInt8.toInt32)), .val (.int (p2.toInt8.toInt32)), .val (.ref b64), .val (.ref b107), .val (.int (0 : Int32)), .unset, .unset, .unset]) rfl ?_
        refine k_aload G X at_158 (pc' := 160) rfl rfl rfl ?_
        refine k_callV G X (argsL := []) (rest := []) rfl X_b107 (w80 hw) (w81 hw) (nf_sel (w83 hw)) (w83 hw) (w82 hw) (w3 hw) (w84 hw) (by decide) (toB hw b107 b kb 3 512 (3 : Int32) (512 : Int32) _ h131 n0 O FB FL rfl rfl (by decide) (by decide) BA) at_160 pd10 rfl (pc' := 163) rfl rfl (wd := 0) rfl (by decide) (by decide) (by decide) (by decide) (fun T h160 v X q => ?_)
        obtain ⟨r160, kr160, rfl, sz_r160, K160, R160⟩ := q
        have ge_r160 : n0 ≤ r160 := Nat.le_trans (Old_le O) sz_r160
        have ne_aED_r160 : aED ≠ r160 := Nat.ne_of_lt (Nat.lt_of_lt_of_le EED.lt sz_r160)
        have ne_aDo_r160 : aDo ≠ r160 := Nat.ne_of_lt (Nat.lt_of_lt_of_le EDo.lt sz_r160)
        have ne_aEA_r160 : aEA ≠ r160 := Nat.ne_of_lt (Nat.lt_of_lt_of_le EEA.lt sz_r160)
        have ne_aAr_r160 : aAr ≠ r160 := Nat.ne_of_lt (Nat.lt_of_lt_of_le EAr.lt sz_r160)
        have ne_b107_r160 : b107 ≠ r160 := Nat.ne_of_lt (Nat.lt_of_lt_of_le X_b107.lt sz_r160)
        have ne_b_r160 : b ≠ r160 := Nat.ne_of_lt (Nat.lt_of_lt_of_le BA.lt sz_r160)
        have ne_sc_r160 : sc ≠ r160 := Nat.ne_of_lt (Nat.lt_of_lt_of_le SCA.lt sz_r160)
        replace S_ED := Jvm.OwnK.Sta_keep S_ED K160
        replace S_Do := Jvm.OwnK.Sta_keep S_Do K160
        replace S_EA := Jvm.OwnK.Sta_keep S_EA K160
        replace S_Ar := Jvm.OwnK.Sta_keep S_Ar K160
        replace O := O.keep K160 (all0)
        replace EED := EED.keep K160
        replace EDo := EDo.keep K160
        replace EEA := EEA.keep K160
        replace EAr := EAr.keep K160
        replace X_b107 := X_b107.keep K160
        replace FB := FB.keep K160 nin0
        replace FL := FL.keep K160 nin0
        replace FS := FS.keep K160 nin0
        replace FD := FD.keep K160 nin0
        replace BA := BA.keep K160 nin0
        replace SCA := SCA.keep K160 nin0
        show Go Γ n0 _ T (mkF Γ.m 163 #[.val (.int p0), .val (.int p1), .val (.int p2), .val (.int p3), .val (.int (3 : Int32)), .val (.int (0 : Int32)), .val (.int (0 : Int32)), .val (.int (3 : Int32)), .val (.int (p0.toInt8.toInt32)), .val (.int (p1.toInt8.toInt32)), .val (.int (p2.toInt8.toInt32)), .val (.ref b64), .val (.ref b107), .val (.int (0 : Int32)), .unset, .unset, .unset] [(.ref r160)])
        refine k_astore G X at_163 (pc' := 165) rfl rfl (l' := #[.val (.int p0), .val (.int p1), .val (.int p2), .val (.int p3), .val (.int (3 : Int32)), .val (.int (0 : Int32)), .val (.int (0 : Int32)), .val (.int (3 : Int32)), .val (.int (p0.toInt8.toInt32)), .val (.int (p1.toInt8.toInt32)), .val (.int (p2.toInt8.toInt32)), .val (.ref b64), .val (.ref b107), .val (.int (0 : Int32)), .val (.ref r160), .unset, .unset]) rfl ?_
        refine k_aload G X at_165 (pc' := 167) rfl rfl rfl ?_
        refine k_iload G X at_167 (pc' := 169) rfl rfl ?_
        refine k_iload G X at_169 (pc' := 171) rfl rfl ?_
        refine k_iload G X at_171 (pc' := 173) rfl rfl ?_
        refine k_iload G X at_173 (pc' := 175) rfl rfl ?_
        refine k_iload G X at_175 (pc' := 177) rfl rfl ?_
        refine k_iload G X at_177 (pc' := 179) rfl rfl ?_
        refine k_callS G X (argsL := [(.ref r160), (.int (3 : Int32)), (.int (0 : Int32)), (.int (p0.toInt8.toInt32)), (.int (p1.toInt8.toInt32)), (.int (p2.toInt8.toInt32)), (.int (0 : Int32))]) (rest := []) rfl (w94 hw) (w95 hw) (w96 hw) (w97 hw) (by decide) (chk_3_0 hw r160 kr160 _ (p0.toInt8.toInt32) (p1.toInt8.toInt32) (p2.toInt8.toInt32) h160 n0 R160 (by rfl) (by rfl) (by rfl)) at_179 pd11 rfl (pc' := 182) rfl rfl (wd := 0) rfl (by decide) (by decide) (by decide) (by decide) (fun T h179 v X q => ?_)
        obtain ⟨rfl, e179⟩ := q
        replace X := X.eq e179
        show Go Γ n0 _ T (mkF Γ.m 182 #[.val (.int p0), .val (.int p1), .val (.int p2), .val (.int p3), .val (.int (3 : Int32)), .val (.int (0 : Int32)), .val (.int (0 : Int32)), .val (.int (3 : Int32)), .val (.int (p0.toInt8.toInt32)), .val (.int (p1.toInt8.toInt32)), .val (.int (p2.toInt8.toInt32)), .val (.ref b64), .val (.ref b107), .val (.int (0 : Int32)), .val (.ref r160), .unset, .unset] [(.int (1 : Int32))])
        refine k_istore G X at_182 (pc' := 184) rfl (l' := #[.val (.int p0), .val (.int p1), .val (.int p2), .val (.int p3), .val (.int (3 : Int32)), .val (.int (0 : Int32)), .val (.int (0 : Int32)), .val (.int (3 : Int32)), .val (.int (p0.toInt8.toInt32)), .val (.int (p1.toInt8.toInt32)), .val (.int (p2.toInt8.toInt32)), .val (.ref b64), .val (.ref b107), .val (.int (0 : Int32)), .val (.ref r160), .val (.int (1 : Int32)), .unset]) rfl ?_
        refine k_aload G X at_184 (pc' := 186) rfl rfl rfl ?_
        refine k_alen G X (z := (3 : Int32)) R160 rfl at_186 (pc' := 187) rfl ?_
        refine k_if_le G X at_187 (pc' := 201) rfl (by decide) (pc'' := 190) rfl (fun c187 => (absurd c187 (by decide))) (fun c187 => ?_)
        refine k_aload G X at_190 (pc' := 192) rfl rfl rfl ?_
        refine k_iconst G X at_192 (pc' := 193) rfl (z := (0 : Int32)) (by decide) ?_
        refine k_aload G X at_193 (pc' := 195) rfl rfl rfl ?_
        refine k_iconst G X at_195 (pc' := 196) rfl (z := (0 : Int32)) (by decide) ?_
        refine k_baload G X (i := 0) (v := (.int (p0.toInt8.toInt32))) R160 rfl (by decide) (by rfl) at_196 (pc' := 197) rfl ?_
        refine k_iconst G X at_197 (pc' := 198) rfl (z := (1 : Int32)) (by decide) ?_
        refine k_ixor G X at_198 (pc' := 199) rfl rfl ?_
        refine k_i2b G X at_199 (pc' := 200) rfl rfl ?_
        refine k_bastore G X (i := 0) (z := ((((p0.toInt8.toInt32) ^^^ (1 : Int32)).toInt8.toInt32))) R160 rfl (by decide) (by simp [nar]) ge_r160 at_200 (pc' := 201) rfl (fun T h200 W200 R160 X => ?_)
        replace O := O.wr W200 ge_r160
        replace S_ED := S_ED.wr W200
        replace S_Do := S_Do.wr W200
        replace S_EA := S_EA.wr W200
        replace S_Ar := S_Ar.wr W200
        replace EED := EED.wr W200
        replace EDo := EDo.wr W200
        replace EEA := EEA.wr W200
        replace EAr := EAr.wr W200
        replace X_b107 := X_b107.wr W200
        replace FB := FB.other W200 (Or.inl ne_b107_r160)
        replace FL := FL.other W200 (Or.inl ne_b107_r160)
        replace FS := FS.other W200 (Or.inl ne_b107_r160)
        replace FD := FD.other W200 (Or.inl ne_b107_r160)
        replace BA := BA.other W200 ne_b_r160
        replace SCA := SCA.other W200 ne_sc_r160
        refine k_aload G X at_201 (pc' := 203) rfl rfl rfl ?_
        refine k_callV G X (argsL := []) (rest := []) rfl X_b107 (w80 hw) (w81 hw) (nf_sel (w83 hw)) (w83 hw) (w82 hw) (w3 hw) (w84 hw) (by decide) (toB hw b107 b kb 3 512 (3 : Int32) (512 : Int32) _ h200 n0 O FB FL rfl rfl (by decide) (by decide) BA) at_203 pd10 rfl (pc' := 206) rfl rfl (wd := 0) rfl (by decide) (by decide) (by decide) (by decide) (fun T h203 v X q => ?_)
        obtain ⟨r203, kr203, rfl, sz_r203, K203, R203⟩ := q
        have ge_r203 : n0 ≤ r203 := Nat.le_trans (Old_le O) sz_r203
        replace S_ED := Jvm.OwnK.Sta_keep S_ED K203
        replace S_Do := Jvm.OwnK.Sta_keep S_Do K203
        replace S_EA := Jvm.OwnK.Sta_keep S_EA K203
        replace S_Ar := Jvm.OwnK.Sta_keep S_Ar K203
        replace O := O.keep K203 (all0)
        replace EED := EED.keep K203
        replace EDo := EDo.keep K203
        replace EEA := EEA.keep K203
        replace EAr := EAr.keep K203
        replace X_b107 := X_b107.keep K203
        replace FB := FB.keep K203 nin0
        replace FL := FL.keep K203 nin0
        replace FS := FS.keep K203 nin0
        replace FD := FD.keep K203 nin0
        replace BA := BA.keep K203 nin0
        replace SCA := SCA.keep K203 nin0
        replace R160 := R160.keep K203 nin0
        show Go Γ n0 _ T (mkF Γ.m 206 #[.val (.int p0), .val (.int p1), .val (.int p2), .val (.int p3), .val (.int (3 : Int32)), .val (.int (0 : Int32)), .val (.int (0 : Int32)), .val (.int (3 : Int32)), .val (.int (p0.toInt8.toInt32)), .val (.int (p1.toInt8.toInt32)), .val (.int (p2.toInt8.toInt32)), .val (.ref b64), .val (.ref b107), .val (.int (0 : Int32)), .val (.ref r160), .val (.int (1 : Int32)), .unset] [(.ref r203)])
        refine k_astore G X at_206 (pc' := 208) rfl rfl (l' := #[.val (.int p0), .val (.int p1), .val (.int p2), .val (.int p3), .val (.int (3 : Int32)), .val (.int (0 : Int32)), .val (.int (0 : Int32)), .val (.int (3 : Int32)), .val (.int (p0.toInt8.toInt32)), .val (.int (p1.toInt8.toInt32)), .val (.int (p2.toInt8.toInt32)), .val (.ref b64), .val (.ref b107), .val (.int (0 : Int32)), .val (.ref r160), .val (.int (1 : Int32)), .val (.ref r203)]) rfl ?_
        refine k_iload G X at_208 (pc' := 210) rfl rfl ?_
        refine k_if_eq G X at_210 (pc' := 237) rfl (by decide) (pc'' := 213) rfl (fun c210 => (absurd c210 (by decide))) (fun c210 => ?_)
        refine k_aload G X at_213 (pc' := 215) rfl rfl rfl ?_
        refine k_iload G X at_215 (pc' := 217) rfl rfl ?_
        refine k_iload G X at_217 (pc' := 219) rfl rfl ?_
        refine k_iload G X at_219 (pc' := 221) rfl rfl ?_
        refine k_iload G X at_221 (pc' := 223) rfl rfl ?_
        refine k_iload G X at_223 (pc' := 225) rfl rfl ?_
        refine k_iload G X at_225 (pc' := 227) rfl rfl ?_
        refine k_callS G X (argsL := [(.ref r203), (.int (3 : Int32)), (.int (0 : Int32)), (.int (p0.toInt8.toInt32)), (.int (p1.toInt8.toInt32)), (.int (p2.toInt8.toInt32)), (.int (0 : Int32))]) (rest := []) rfl (w94 hw) (w95 hw) (w96 hw) (w97 hw) (by decide) (chk_3_0 hw r203 kr203 _ (p0.toInt8.toInt32) (p1.toInt8.toInt32) (p2.toInt8.toInt32) h203 n0 R203 (by rfl) (by rfl) (by rfl)) at_227 pd11 rfl (pc' := 230) rfl rfl (wd := 0) rfl (by decide) (by decide) (by decide) (by decide) (fun T h227 v X q => ?_)
        obtain ⟨rfl, e227⟩ := q
        replace X := X.eq e227
        show Go Γ n0 _ T (mkF Γ.m 230 #[.val (.int p0), .val (.int p1), .val (.int p2), .val (.int p3), .val (.int (3 : Int32)), .val (.int (0 : Int32)), .val (.int (0 : Int32)), .val (.int (3 : Int32)), .val (.int (p0.toInt8.toInt32)), .val (.int (p1.toInt8.toInt32)), .val (.int (p2.toInt8.toInt32)), .val (.ref b64), .val (.ref b107), .val (.int (0 : Int32)), .val (.ref r160), .val (.int (1 : Int32)), .val (.ref r203)] [(.int (1 : Int32))])
        refine k_if_eq G X at_230 (pc' := 237) rfl (by decide) (pc'' := 233) rfl (fun c230 => (absurd c230 (by decide))) (fun c230 => ?_)
        refine k_iconst G X at_233 (pc' := 234) rfl (z := (1 : Int32)) (by decide) ?_
        refine k_goto G X at_234 (by decide) (pc' := 238) rfl ?_
        refine k_retb G X at_238 (t := .boolean) rfl (by simp) rfl ?_ (by decide) (by decide)
        rfl
      · refine k_iconst G X at_28 (pc' := 29) rfl (z := (1 : Int32)) (by decide) ?_
        refine k_goto G X at_29 (by decide) (pc' := 33) rfl ?_
        refine k_istore G X at_33 (pc' := 35) rfl (l' := #[.val (.int p0), .val (.int p1), .val (.int p2), .val (.int p3), .val (.int (3 : Int32)), .val (.int (0 : Int32)), .val (.int (1 : Int32)), .unset, .unset, .unset, .unset, .unset, .unset, .unset, .unset, .unset, .unset]) rfl ?_
        refine k_iload G X at_35 (pc' := 37) rfl rfl ?_
        refine k_if_eq G X at_37 (pc' := 46) rfl (by decide) (pc'' := 40) rfl (fun c37 => (absurd c37 (by decide))) (fun c37 => ?_)
        refine k_sipush G X at_40 (pc' := 43) rfl (z := (600 : Int32)) (by decide) ?_
        refine k_goto G X at_43 (by decide) (pc' := 48) rfl ?_
        refine k_istore G X at_48 (pc' := 50) rfl (l' := #[.val (.int p0), .val (.int p1), .val (.int p2), .val (.int p3), .val (.int (3 : Int32)), .val (.int (0 : Int32)), .val (.int (1 : Int32)), .val (.int (600 : Int32)), .unset, .unset, .unset, .unset, .unset, .unset, .unset, .unset, .unset]) rfl ?_
        refine k_iloadN G X at_50 (pc' := 51) rfl rfl ?_
        refine k_i2b G X at_51 (pc' := 52) rfl rfl ?_
        refine k_istore G X at_52 (pc' := 54) rfl (l' := #[.val (.int p0), .val (.int p1), .val (.int p2), .val (.int p3), .val (.int (3 : Int32)), .val (.int (0 : Int32)), .val (.int (1 : Int32)), .val (.int (600 : Int32)), .val (.int (p0.toInt8.toInt32)), .unset, .unset, .unset, .unset, .unset, .unset, .unset, .unset]) rfl ?_
        refine k_iloadN G X at_54 (pc' := 55) rfl rfl ?_
        refine k_i2b G X at_55 (pc' := 56) rfl rfl ?_
        refine k_istore G X at_56 (pc' := 58) rfl (l' := #[.val (.int p0), .val (.int p1), .val (.int p2), .val (.int p3), .val (.int (3 : Int32)), .val (.int (0 : Int32)), .val (.int (1 : Int32)), .val (.int (600 : Int32)), .val (.int (p0.toInt8.toInt32)), .val (.int (p1.toInt8.toInt32)), .unset, .unset, .unset, .unset, .unset, .unset, .unset]) rfl ?_
        refine k_iloadN G X at_58 (pc' := 59) rfl rfl ?_
        refine k_i2b G X at_59 (pc' := 60) rfl rfl ?_
        refine k_istore G X at_60 (pc' := 62) rfl (l' := #[.val (.int p0), .val (.int p1), .val (.int p2), .val (.int p3), .val (.int (3 : Int32)), .val (.int (0 : Int32)), .val (.int (1 : Int32)), .val (.int (600 : Int32)), .val (.int (p0.toInt8.toInt32)), .val (.int (p1.toInt8.toInt32)), .val (.int (p2.toInt8.toInt32)), .unset, .unset, .unset, .unset, .unset, .unset]) rfl ?_
        refine k_iload G X at_62 (pc' := 64) rfl rfl ?_
        refine k_newP G X (aty := .byte) (n := 600) (cap := 600) (w0 hw) at_64 (pc' := 66) rfl rfl (by decide) (by decide) (by decide) (by decide) (fun T h64 b64 k64 s_b64 E64 A_b64 X => ?_)
        have ne_aED_b64 : aED ≠ b64 := Nat.ne_of_lt (Nat.lt_of_lt_of_eq EED.lt s_b64)
        have ne_aDo_b64 : aDo ≠ b64 := Nat.ne_of_lt (Nat.lt_of_lt_of_eq EDo.lt s_b64)
        have ne_aEA_b64 : aEA ≠ b64 := Nat.ne_of_lt (Nat.lt_of_lt_of_eq EEA.lt s_b64)
        have ne_aAr_b64 : aAr ≠ b64 := Nat.ne_of_lt (Nat.lt_of_lt_of_eq EAr.lt s_b64)
        have ge_b64 : n0 ≤ b64 := Nat.le_trans (Jvm.OwnK.Old_le O) (Nat.le_of_eq s_b64)
        replace O := O.ext E64
        replace S_ED := S_ED.ext E64
        replace S_Do := S_Do.ext E64
        replace S_EA := S_EA.ext E64
        replace S_Ar := S_Ar.ext E64
        replace EED := EED.ext E64
        replace EDo := EDo.ext E64
        replace EEA := EEA.ext E64
        replace EAr := EAr.ext E64
        replace OED := OED.ext E64
        replace OEA := OEA.ext E64
        replace A_b64 : Arf Z h64 b64 k64 .byte 600 (fun _ => (.int (0 : Int32))) := A_b64
        refine k_astore G X at_66 (pc' := 68) rfl rfl (l' := #[.val (.int p0), .val (.int p1), .val (.int p2), .val (.int p3), .val (.int (3 : Int32)), .val (.int (0 : Int32)), .val (.int (1 : Int32)), .val (.int (600 : Int32)), .val (.int (p0.toInt8.toInt32)), .val (.int (p1.toInt8.toInt32)), .val (.int (p2.toInt8.toInt32)), .val (.ref b64), .unset, .unset, .unset, .unset, .unset]) rfl ?_
        refine k_iload G X at_68 (pc' := 70) rfl rfl ?_
        refine k_iconst G X at_70 (pc' := 71) rfl (z := (1 : Int32)) (by decide) ?_
        refine k_icmp_lt G X at_71 (pc' := 80) rfl (by decide) (pc'' := 74) rfl (fun c71 => (absurd c71 (by decide))) (fun c71 => ?_)
        refine k_aload G X at_74 (pc' := 76) rfl rfl rfl ?_
        refine k_iconst G X at_76 (pc' := 77) rfl (z := (0 : Int32)) (by decide) ?_
        refine k_iload G X at_77 (pc' := 79) rfl rfl ?_
        refine k_bastore G X (i := 0) (z := (p0.toInt8.toInt32)) A_b64 rfl (by decide) (by simp [nar]) ge_b64 at_79 (pc' := 80) rfl (fun T h79 W79 A_b64 X => ?_)
        replace O := O.wr W79 ge_b64
        replace S_ED := S_ED.wr W79
        replace S_Do := S_Do.wr W79
        replace S_EA := S_EA.wr W79
        replace S_Ar := S_Ar.wr W79
        replace EED := EED.wr W79
        replace EDo := EDo.wr W79
        replace EEA := EEA.wr W79
        replace EAr := EAr.wr W79
        replace OED := OED.other W79 (Or.inl ne_aED_b64)
        replace OEA := OEA.other W79 (Or.inl ne_aEA_b64)
        refine k_iload G X at_80 (pc' := 82) rfl rfl ?_
        refine k_iconst G X at_82 (pc' := 83) rfl (z := (2 : Int32)) (by decide) ?_
        refine k_icmp_lt G X at_83 (pc' := 92) rfl (by decide) (pc'' := 86) rfl (fun c83 => (absurd c83 (by decide))) (fun c83 => ?_)
        refine k_aload G X at_86 (pc' := 88) rfl rfl rfl ?_
        refine k_iconst G X at_88 (pc' := 89) rfl (z := (1 : Int32)) (by decide) ?_
        refine k_iload G X at_89 (pc' := 91) rfl rfl ?_
        refine k_bastore G X (i := 1) (z := (p1.toInt8.toInt32)) A_b64 rfl (by decide) (by simp [nar]) ge_b64 at_91 (pc' := 92) rfl (fun T h91 W91 A_b64 X => ?_)
        replace O := O.wr W91 ge_b64
        replace S_ED := S_ED.wr W91
        replace S_Do := S_Do.wr W91
        replace S_EA := S_EA.wr W91
        replace S_Ar := S_Ar.wr W91
        replace EED := EED.wr W91
        replace EDo := EDo.wr W91
        replace EEA := EEA.wr W91
        replace EAr := EAr.wr W91
        replace OED := OED.other W91 (Or.inl ne_aED_b64)
        replace OEA := OEA.other W91 (Or.inl ne_aEA_b64)
        refine k_iload G X at_92 (pc' := 94) rfl rfl ?_
        refine k_iconst G X at_94 (pc' := 95) rfl (z := (3 : Int32)) (by decide) ?_
        refine k_icmp_lt G X at_95 (pc' := 107) rfl (by decide) (pc'' := 98) rfl (fun c95 => (absurd c95 (by decide))) (fun c95 => ?_)
        refine k_aload G X at_98 (pc' := 100) rfl rfl rfl ?_
        refine k_iload G X at_100 (pc' := 102) rfl rfl ?_
        refine k_iconst G X at_102 (pc' := 103) rfl (z := (1 : Int32)) (by decide) ?_
        refine k_isub G X at_103 (pc' := 104) rfl (z := (599 : Int32)) (by decide) ?_
        refine k_iload G X at_104 (pc' := 106) rfl rfl ?_
        refine k_bastore G X (i := 599) (z := (p2.toInt8.toInt32)) A_b64 rfl (by decide) (by simp [nar]) ge_b64 at_106 (pc' := 107) rfl (fun T h106 W106 A_b64 X => ?_)
        replace O := O.wr W106 ge_b64
        replace S_ED := S_ED.wr W106
        replace S_Do := S_Do.wr W106
        replace S_EA := S_EA.wr W106
        replace S_Ar := S_Ar.wr W106
        replace EED := EED.wr W106
        replace EDo := EDo.wr W106
        replace EEA := EEA.wr W106
        replace EAr := EAr.wr W106
        replace OED := OED.other W106 (Or.inl ne_aED_b64)
        replace OEA := OEA.other W106 (Or.inl ne_aEA_b64)
        refine k_new G X (w1 hw) (w2 hw) (w3 hw) at_107 (pc' := 110) rfl (by decide) (by decide) (fun T h107 b107 s_b107 E107 X_b107 D107 X => ?_)
        have ne_aED_b107 : aED ≠ b107 := Nat.ne_of_lt (Nat.lt_of_lt_of_eq EED.lt s_b107)
        have ne_aDo_b107 : aDo ≠ b107 := Nat.ne_of_lt (Nat.lt_of_lt_of_eq EDo.lt s_b107)
        have ne_aEA_b107 : aEA ≠ b107 := Nat.ne_of_lt (Nat.lt_of_lt_of_eq EEA.lt s_b107)
        have ne_aAr_b107 : aAr ≠ b107 := Nat.ne_of_lt (Nat.lt_of_lt_of_eq EAr.lt s_b107)
        have ne_b64_b107 : b64 ≠ b107 := Nat.ne_of_lt (Nat.lt_of_lt_of_eq A_b64.lt s_b107)
        have ge_b107 : n0 ≤ b107 := Nat.le_trans (Jvm.OwnK.Old_le O) (Nat.le_of_eq s_b107)
        replace O := O.ext E107
        replace S_ED := S_ED.ext E107
        replace S_Do := S_Do.ext E107
        replace S_EA := S_EA.ext E107
        replace S_Ar := S_Ar.ext E107
        replace EED := EED.ext E107
        replace EDo := EDo.ext E107
        replace EEA := EEA.ext E107
        replace EAr := EAr.ext E107
        replace OED := OED.ext E107
        replace OEA := OEA.ext E107
        replace A_b64 := A_b64.ext E107
        have F_b107_names : Fld Z h107 b107 "com/example/changeline/changeline/format/JsonOutput" "names" "Ljava/util/Map;" .null := D107 (Or.inr (w33 hw)) (ty := (.object "java/util/Map")) (by decide)
        have F_b107_bytes : Fld Z h107 b107 "com/example/changeline/changeline/format/JsonOutput" "bytes" "[B" .null := D107 (Or.inl (w35 hw)) (ty := (.array .byte)) (by decide)
        have F_b107_scopes : Fld Z h107 b107 "com/example/changeline/changeline/format/JsonOutput" "scopes" "[Lcom/example/changeline/changeline/format/JsonOutput$Scope;" .null := D107 (Or.inl (w39 hw)) (ty := (.array (.object "com/example/changeline/changeline/format/JsonOutput$Scope"))) (by decide)
        have F_b107_depth : Fld Z h107 b107 "com/example/changeline/changeline/format/JsonOutput" "depth" "I" (.int (0 : Int32)) := D107 (Or.inl (w41 hw)) (ty := .int) (by decide)
        have F_b107_length : Fld Z h107 b107 "com/example/changeline/changeline/format/JsonOutput" "length" "I" (.int (0 : Int32)) := D107 (Or.inl (w71 hw)) (ty := .int) (by decide)
        refine k_dup G X at_110 (pc' := 111) rfl rfl ?_
        refine k_callI G X (argsL := []) (rest := [(.ref b107)]) rfl rfl (w4 hw) (w5 hw) (w3 hw) (w6 hw) (by decide) (jo_init hw b107 aED h107 n0 ge_b107 O X_b107 F_b107_names F_b107_bytes F_b107_length F_b107_scopes F_b107_depth S_ED EED) at_111 pd0 rfl (pc' := 114) rfl rfl (wd := 1) rfl (by decide) (by decide) (by decide) (by decide) (fun T h111 v X q => ?_)
        obtain ⟨rfl, K111, E', b, sc, kb, ks, sz_b, sz_sc, ne_b_sc, FB, FL, FS, FD, BA, SCA, SO⟩ := q
        have ne_aED_b : aED ≠ b := Nat.ne_of_lt (Nat.lt_of_lt_of_le EED.lt sz_b)
        have ne_aED_sc : aED ≠ sc := Nat.ne_of_lt (Nat.lt_of_lt_of_le EED.lt sz_sc)
        have ne_aDo_b : aDo ≠ b := Nat.ne_of_lt (Nat.lt_of_lt_of_le EDo.lt sz_b)
        have ne_aDo_sc : aDo ≠ sc := Nat.ne_of_lt (Nat.lt_of_lt_of_le EDo.lt sz_sc)
        have ne_aEA_b : aEA ≠ b := Nat.ne_of_lt (Nat.lt_of_lt_of_le EEA.lt sz_b)
        have ne_aEA_sc : aEA ≠ sc := Nat.ne_of_lt (Nat.lt_of_lt_of_le EEA.lt sz_sc)
        have ne_aAr_b : aAr ≠ b := Nat.ne_of_lt (Nat.lt_of_lt_of_le EAr.lt sz_b)
        have ne_aAr_sc : aAr ≠ sc := Nat.ne_of_lt (Nat.lt_of_lt_of_le EAr.lt sz_sc)
        have ne_b64_b : b64 ≠ b := Nat.ne_of_lt (Nat.lt_of_lt_of_le A_b64.lt sz_b)
        have ne_b64_sc : b64 ≠ sc := Nat.ne_of_lt (Nat.lt_of_lt_of_le A_b64.lt sz_sc)
        have ne_o_b : b107 ≠ b := Nat.ne_of_lt (Nat.lt_of_lt_of_le X_b107.lt sz_b)
        have ge_b : n0 ≤ b := Nat.le_trans (Old_le O) sz_b
        have ne_o_sc : b107 ≠ sc := Nat.ne_of_lt (Nat.lt_of_lt_of_le X_b107.lt sz_sc)
        have ge_sc : n0 ≤ sc := Nat.le_trans (Old_le O) sz_sc
        replace S_ED := Sta_keepL S_ED K111 (allS (Pln_exa X_b107) (all0))
        replace S_Do := Sta_keepL S_Do K111 (allS (Pln_exa X_b107) (all0))
        replace S_EA := Sta_keepL S_EA K111 (allS (Pln_exa X_b107) (all0))
        replace S_Ar := Sta_keepL S_Ar K111 (allS (Pln_exa X_b107) (all0))
        replace O := O.keep K111 (allS ge_b107 (all0))
        replace EED := EED.keep K111
        replace EDo := EDo.keep K111
        replace EEA := EEA.keep K111
        replace EAr := EAr.keep K111
        replace OED := OED.keep K111 (by simp only [List.mem_cons, List.not_mem_nil, or_false, not_or]; exact ne_aED_b107)
        replace OEA := OEA.keep K111 (by simp only [List.mem_cons, List.not_mem_nil, or_false, not_or]; exact ne_aEA_b107)
        replace A_b64 := A_b64.keep K111 (by simp only [List.mem_cons, List.not_mem_nil, or_false, not_or]; exact ne_b64_b107)
        replace X_b107 := X_b107.keep K111
        show Go Γ n0 _ T (mkF Γ.m 114 #[.val (.int p0), .val (.int p1), .val (.int p2), .val (.int p3), .val (.int (3 : Int32)), .val (.int (0 : Int32)), .val (.int (1 : Int32)), .val (.int (600 : Int32)), .val (.int (p0.toInt8.toInt32)), .val (.int (p1.toInt8.toInt32)), .val (.int (p2.toInt8.toInt32)), .val (.ref b64), .unset, .unset, .unset, .unset, .unset] [(.ref b107)])
        refine k_astore G X at_114 (pc' := 116) rfl rfl (l' := #[.val (.int p0), .val (.int p1), .val (.int p2), .val (.int p3), .val (.int (3 : Int32)), .val (.int (0 : Int32)), .val (.int (1 : Int32)), .val (.int (600 : Int32)), .val (.int (p0.toInt8.toInt32)), .val (.int (p1.toInt8.toInt32)), .val (.int (p2.toInt8.toInt32)), .val (.ref b64), .val (.ref b107), .unset, .unset, .unset, .unset]) rfl ?_
        refine k_iload G X at_116 (pc' := 118) rfl rfl ?_
        refine k_if_eq G X at_118 (pc' := 127) rfl (by decide) (pc'' := 121) rfl (fun c118 => ?_) (fun c118 => (absurd c118 (by decide)))
        refine k_aload G X at_127 (pc' := 129) rfl rfl rfl ?_
        refine k_aload G X at_129 (pc' := 131) rfl rfl rfl ?_
        refine k_callV G X (argsL := [(.ref b64)]) (rest := []) rfl X_b107 (w46 hw) (w47 hw) (nf_sel (w49 hw)) (w49 hw) (w48 hw) (w3 hw) (w50 hw) (by decide) (jv01 hw b107 b b64 sc aED aDo kb k64 ks 0 600 (0 : Int32) (600 : Int32) (600 : Int32) _ _ _ h111 n0 ge_b107 ge_sc O X_b107 FB FL FS FD SCA SO ne_o_sc rfl rfl rfl BA A_b64 EED OED EDo S_Do rfl ne_aED_sc ne_o_b.symm ne_b64_b107 ne_b64_b ne_b_sc ne_b64_sc (by decide) (by decide)) at_131 pd9 rfl (pc' := 134) rfl rfl (wd := 0) rfl (by decide) (by decide) (by decide) (by decide) (fun T h131 v X q => ?_)
        obtain ⟨rfl, K131, E', SCA', b', kb', sz_b', FB', FL', FS', FD', BA'⟩ := q
        have ne_o_b' : b107 ≠ b' := Nat.ne_of_lt (Nat.lt_of_lt_of_le X_b107.lt sz_b')
        have ne_sc_b' : sc ≠ b' := Nat.ne_of_lt (Nat.lt_of_lt_of_le SCA.lt sz_b')
        have ge_b' : n0 ≤ b' := Nat.le_trans (Old_le O) sz_b'
        replace S_ED := Sta_keepL S_ED K131 (allS (Pln_arf SCA) (allS (Pln_exa X_b107) (all0)))
        replace S_Do := Sta_keepL S_Do K131 (allS (Pln_arf SCA) (allS (Pln_exa X_b107) (all0)))
        replace S_EA := Sta_keepL S_EA K131 (allS (Pln_arf SCA) (allS (Pln_exa X_b107) (all0)))
        replace S_Ar := Sta_keepL S_Ar K131 (allS (Pln_arf SCA) (allS (Pln_exa X_b107) (all0)))
        replace O := O.keep K131 (allS ge_sc (allS ge_b107 (all0)))
        replace EED := EED.keep K131
        replace EDo := EDo.keep K131
        replace EEA := EEA.keep K131
        replace EAr := EAr.keep K131
        replace X_b107 := X_b107.keep K131
        have FB := FB'
        have FL := FL'
        have FS := FS'
        have FD := FD'
        have BA := BA'
        have SCA := SCA'
        show Go Γ n0 _ T (mkF Γ.m 134 #[.val (.int p0), .val (.int p1), .val (.int p2), .val (.int p3), .val (.int (3 : Int32)), .val (.int (0 : Int32)), .val (.int (1 : Int32)), .val (.int (600 : Int32)), .val (.int (p0.toInt8.toInt32)), .val (.int (p1.toInt8.toInt32)), .val (.int (p2.toInt8.toInt32)), .val (.ref b64), .val (.ref b107), .unset, .unset, .unset, .unset] [(.ref b107)])
        refine k_pop G X at_134 (pc' := 135) rfl rfl ?_
        refine k_iload G X at_135 (pc' := 137) rfl rfl ?_
        refine k_if_eq G X at_137 (pc' := 146) rfl (by decide) (pc'' := 140) rfl (fun c137 => ?_) (fun c137 => (absurd c137 (by decide)))
        refine k_iload G X at_146 (pc' := 148) rfl rfl ?_
        refine k_if_eq G X at_148 (pc' := 155) rfl (by decide) (pc'' := 151) rfl (fun c148 => ?_) (fun c148 => (absurd c148 (by decide)))
        refine k_iconst G X at_155 (pc' := 156) rfl (z := (0 : Int32)) (by decide) ?_
        refine k_istore G X at_156 (pc' := 158) rfl (l' := #[.val (.int p0), .val (.int p1), .val (.int p2), .val (.int p3), .val (.int (3 : Int32)), .val (.int (0 : Int32)), .val (.int (1 : Int32)), .val (.int (600 : Int32)), .val (.int (p0.toInt8.toInt32)), .val (.int (p1.toInt8.toInt32)), .val (.int (p2.toInt8.toInt32)), .val (.ref b64), .val (.ref b107), .val (.int (0 : Int32)), .unset, .unset, .unset]) rfl ?_
        refine k_aload G X at_158 (pc' := 160) rfl rfl rfl ?_
        refine k_callV G X (argsL := []) (rest := []) rfl X_b107 (w80 hw) (w81 hw) (nf_sel (w83 hw)) (w83 hw) (w82 hw) (w3 hw) (w84 hw) (by decide) (toB hw b107 b' kb' 600 1024 (600 : Int32) (1024 : Int32) _ h131 n0 O FB FL rfl rfl (by decide) (by decide) BA) at_160 pd10 rfl (pc' := 163) rfl rfl (wd := 0) rfl (by decide) (by decide) (by decide) (by decide) (fun T h160 v X q => ?_)
        obtain ⟨r160, kr160, rfl, sz_r160, K160, R160⟩ := q
        have ge_r160 : n0 ≤ r160 := Nat.le_trans (Old_le O) sz_r160
        have ne_aED_r160 : aED ≠ r160 := Nat.ne_of_lt (Nat.lt_of_lt_of_le EED.lt sz_r160)
        have ne_aDo_r160 : aDo ≠ r160 := Nat.ne_of_lt (Nat.lt_of_lt_of_le EDo.lt sz_r160)
        have ne_aEA_r160 : aEA ≠ r160 := Nat.ne_of_lt (Nat.lt_of_lt_of_le EEA.lt sz_r160)
        have ne_aAr_r160 : aAr ≠ r160 := Nat.ne_of_lt (Nat.lt_of_lt_of_le EAr.lt sz_r160)
        have ne_b107_r160 : b107 ≠ r160 := Nat.ne_of_lt (Nat.lt_of_lt_of_le X_b107.lt sz_r160)
        have ne_b'_r160 : b' ≠ r160 := Nat.ne_of_lt (Nat.lt_of_lt_of_le BA.lt sz_r160)
        have ne_sc_r160 : sc ≠ r160 := Nat.ne_of_lt (Nat.lt_of_lt_of_le SCA.lt sz_r160)
        replace S_ED := Jvm.OwnK.Sta_keep S_ED K160
        replace S_Do := Jvm.OwnK.Sta_keep S_Do K160
        replace S_EA := Jvm.OwnK.Sta_keep S_EA K160
        replace S_Ar := Jvm.OwnK.Sta_keep S_Ar K160
        replace O := O.keep K160 (all0)
        replace EED := EED.keep K160
        replace EDo := EDo.keep K160
        replace EEA := EEA.keep K160
        replace EAr := EAr.keep K160
        replace X_b107 := X_b107.keep K160
        replace FB := FB.keep K160 nin0
        replace FL := FL.keep K160 nin0
        replace FS := FS.keep K160 nin0
        replace FD := FD.keep K160 nin0
        replace BA := BA.keep K160 nin0
        replace SCA := SCA.keep K160 nin0
        show Go Γ n0 _ T (mkF Γ.m 163 #[.val (.int p0), .val (.int p1), .val (.int p2), .val (.int p3), .val (.int (3 : Int32)), .val (.int (0 : Int32)), .val (.int (1 : Int32)), .val (.int (600 : Int32)), .val (.int (p0.toInt8.toInt32)), .val (.int (p1.toInt8.toInt32)), .val (.int (p2.toInt8.toInt32)), .val (.ref b64), .val (.ref b107), .val (.int (0 : Int32)), .unset, .unset, .unset] [(.ref r160)])
        refine k_astore G X at_163 (pc' := 165) rfl rfl (l' := #[.val (.int p0), .val (.int p1), .val (.int p2), .val (.int p3), .val (.int (3 : Int32)), .val (.int (0 : Int32)), .val (.int (1 : Int32)), .val (.int (600 : Int32)), .val (.int (p0.toInt8.toInt32)), .val (.int (p1.toInt8.toInt32)), .val (.int (p2.toInt8.toInt32)), .val (.ref b64), .val (.ref b107), .val (.int (0 : Int32)), .val (.ref r160), .unset, .unset]) rfl ?_
        refine k_aload G X at_165 (pc' := 167) rfl rfl rfl ?_
        refine k_iload G X at_167 (pc' := 169) rfl rfl ?_
        refine k_iload G X at_169 (pc' := 171) rfl rfl ?_
        refine k_iload G X at_171 (pc' := 173) rfl rfl ?_
        refine k_iload G X at_173 (pc' := 175) rfl rfl ?_
        refine k_iload G X at_175 (pc' := 177) rfl rfl ?_
        refine k_iload G X at_177 (pc' := 179) rfl rfl ?_
        refine k_callS G X (argsL := [(.ref r160), (.int (600 : Int32)), (.int (0 : Int32)), (.int (p0.toInt8.toInt32)), (.int (p1.toInt8.toInt32)), (.int (p2.toInt8.toInt32)), (.int (1 : Int32))]) (rest := []) rfl (w94 hw) (w95 hw) (w96 hw) (w97 hw) (by decide) (chk_600_0 hw r160 kr160 _ (p0.toInt8.toInt32) (p1.toInt8.toInt32) (p2.toInt8.toInt32) h160 n0 R160 (by rfl) (by rfl) (by rfl) (by rfl)) at_179 pd11 rfl (pc' := 182) rfl rfl (wd := 0) rfl (by decide) (by decide) (by decide) (by decide) (fun T h179 v X q => ?_)
        obtain ⟨rfl, e179⟩ := q
        replace X := X.eq e179
        show Go Γ n0 _ T (mkF Γ.m 182 #[.val (.int p0), .val (.int p1), .val (.int p2), .val (.int p3), .val (.int (3 : Int32)), .val (.int (0 : Int32)), .val (.int (1 : Int32)), .val (.int (600 : Int32)), .val (.int (p0.toInt8.toInt32)), .val (.int (p1.toInt8.toInt32)), .val (.int (p2.toInt8.toInt32)), .val (.ref b64), .val (.ref b107), .val (.int (0 : Int32)), .val (.ref r160), .unset, .unset] [(.int (1 : Int32))])
        refine k_istore G X at_182 (pc' := 184) rfl (l' := #[.val (.int p0), .val (.int p1), .val (.int p2), .val (.int p3), .val (.int (3 : Int32)), .val (.int (0 : Int32)), .val (.int (1 : Int32)), .val (.int (600 : Int32)), .val (.int (p0.toInt8.toInt32)), .val (.int (p1.toInt8.toInt32)), .val (.int (p2.toInt8.toInt32)), .val (.ref b64), .val (.ref b107), .val (.int (0 : Int32)), .val (.ref r160), .val (.int (1 : Int32)), .unset]) rfl ?_
        refine k_aload G X at_184 (pc' := 186) rfl rfl rfl ?_
        refine k_alen G X (z := (600 : Int32)) R160 rfl at_186 (pc' := 187) rfl ?_
        refine k_if_le G X at_187 (pc' := 201) rfl (by decide) (pc'' := 190) rfl (fun c187 => (absurd c187 (by decide))) (fun c187 => ?_)
        refine k_aload G X at_190 (pc' := 192) rfl rfl rfl ?_
        refine k_iconst G X at_192 (pc' := 193) rfl (z := (0 : Int32)) (by decide) ?_
        refine k_aload G X at_193 (pc' := 195) rfl rfl rfl ?_
        refine k_iconst G X at_195 (pc' := 196) rfl (z := (0 : Int32)) (by decide) ?_
        refine k_baload G X (i := 0) (v := (.int (p0.toInt8.toInt32))) R160 rfl (by decide) (by rfl) at_196 (pc' := 197) rfl ?_
        refine k_iconst G X at_197 (pc' := 198) rfl (z := (1 : Int32)) (by decide) ?_
        refine k_ixor G X at_198 (pc' := 199) rfl rfl ?_
        refine k_i2b G X at_199 (pc' := 200) rfl rfl ?_
        refine k_bastore G X (i := 0) (z := ((((p0.toInt8.toInt32) ^^^ (1 : Int32)).toInt8.toInt32))) R160 rfl (by decide) (by simp [nar]) ge_r160 at_200 (pc' := 201) rfl (fun T h200 W200 R160 X => ?_)
        replace O := O.wr W200 ge_r160
        replace S_ED := S_ED.wr W200
        replace S_Do := S_Do.wr W200
        replace S_EA := S_EA.wr W200
        replace S_Ar := S_Ar.wr W200
        replace EED := EED.wr W200
        replace EDo := EDo.wr W200
        replace EEA := EEA.wr W200
        replace EAr := EAr.wr W200
        replace X_b107 := X_b107.wr W200
        replace FB := FB.other W200 (Or.inl ne_b107_r160)
        replace FL := FL.other W200 (Or.inl ne_b107_r160)
        replace FS := FS.other W200 (Or.inl ne_b107_r160)
        replace FD := FD.other W200 (Or.inl ne_b107_r160)
        replace BA := BA.other W200 ne_b'_r160
        replace SCA := SCA.other W200 ne_sc_r160
        refine k_aload G X at_201 (pc' := 203) rfl rfl rfl ?_
        refine k_callV G X (argsL := []) (rest := []) rfl X_b107 (w80 hw) (w81 hw) (nf_sel (w83 hw)) (w83 hw) (w82 hw) (w3 hw) (w84 hw) (by decide) (toB hw b107 b' kb' 600 1024 (600 : Int32) (1024 : Int32) _ h200 n0 O FB FL rfl rfl (by decide) (by decide) BA) at_203 pd10 rfl (pc' := 206) rfl rfl (wd := 0) rfl (by decide) (by decide) (by decide) (by decide) (fun T h203 v X q => ?_)
        obtain ⟨r203, kr203, rfl, sz_r203, K203, R203⟩ := q
        have ge_r203 : n0 ≤ r203 := Nat.le_trans (Old_le O) sz_r203
        replace S_ED := Jvm.OwnK.Sta_keep S_ED K203
        replace S_Do := Jvm.OwnK.Sta_keep S_Do K203
        replace S_EA := Jvm.OwnK.Sta_keep S_EA K203
        replace S_Ar := Jvm.OwnK.Sta_keep S_Ar K203
        replace O := O.keep K203 (all0)
        replace EED := EED.keep K203
        replace EDo := EDo.keep K203
        replace EEA := EEA.keep K203
        replace EAr := EAr.keep K203
        replace X_b107 := X_b107.keep K203
        replace FB := FB.keep K203 nin0
        replace FL := FL.keep K203 nin0
        replace FS := FS.keep K203 nin0
        replace FD := FD.keep K203 nin0
        replace BA := BA.keep K203 nin0
        replace SCA := SCA.keep K203 nin0
        replace R160 := R160.keep K203 nin0
        show Go Γ n0 _ T (mkF Γ.m 206 #[.val (.int p0), .val (.int p1), .val (.int p2), .val (.int p3), .val (.int (3 : Int32)), .val (.int (0 : Int32)), .val (.int (1 : Int32)), .val (.int (600 : Int32)), .val (.int (p0.toInt8.toInt32)), .val (.int (p1.toInt8.toInt32)), .val (.int (p2.toInt8.toInt32)), .val (.ref b64), .val (.ref b107), .val (.int (0 : Int32)), .val (.ref r160), .val (.int (1 : Int32)), .unset] [(.ref r203)])
        refine k_astore G X at_206 (pc' := 208) rfl rfl (l' := #[.val (.int p0), .val (.int p1), .val (.int p2), .val (.int p3), .val (.int (3 : Int32)), .val (.int (0 : Int32)), .val (.int (1 : Int32)), .val (.int (600 : Int32)), .val (.int (p0.toInt8.toInt32)), .val (.int (p1.toInt8.toInt32)), .val (.int (p2.toInt8.toInt32)), .val (.ref b64), .val (.ref b107), .val (.int (0 : Int32)), .val (.ref r160), .val (.int (1 : Int32)), .val (.ref r203)]) rfl ?_
        refine k_iload G X at_208 (pc' := 210) rfl rfl ?_
        refine k_if_eq G X at_210 (pc' := 237) rfl (by decide) (pc'' := 213) rfl (fun c210 => (absurd c210 (by decide))) (fun c210 => ?_)
        refine k_aload G X at_213 (pc' := 215) rfl rfl rfl ?_
        refine k_iload G X at_215 (pc' := 217) rfl rfl ?_
        refine k_iload G X at_217 (pc' := 219) rfl rfl ?_
        refine k_iload G X at_219 (pc' := 221) rfl rfl ?_
        refine k_iload G X at_221 (pc' := 223) rfl rfl ?_
        refine k_iload G X at_223 (pc' := 225) rfl rfl ?_
        refine k_iload G X at_225 (pc' := 227) rfl rfl ?_
        refine k_callS G X (argsL := [(.ref r203), (.int (600 : Int32)), (.int (0 : Int32)), (.int (p0.toInt8.toInt32)), (.int (p1.toInt8.toInt32)), (.int (p2.toInt8.toInt32)), (.int (1 : Int32))]) (rest := []) rfl (w94 hw) (w95 hw) (w96 hw) (w97 hw) (by decide) (chk_600_0 hw r203 kr203 _ (p0.toInt8.toInt32) (p1.toInt8.toInt32) (p2.toInt8.toInt32) h203 n0 R203 (by rfl) (by rfl) (by rfl) (by rfl)) at_227 pd11 rfl (pc' := 230) rfl rfl (wd := 0) rfl (by decide) (by decide) (by decide) (by decide) (fun T h227 v X q => ?_)
        obtain ⟨rfl, e227⟩ := q
        replace X := X.eq e227
        show Go Γ n0 _ T (mkF Γ.m 230 #[.val (.int p0), .val (.int p1), .val (.int p2), .val (.int p3), .val (.int (3 : Int32)), .val (.int (0 : Int32)), .val (.int (1 : Int32)), .val (.int (600 : Int32)), .val (.int (p0.toInt8.toInt32)), .val (.int (p1.toInt8.toInt32)), .val (.int (p2.toInt8.toInt32)), .val (.ref b64), .val (.ref b107), .val (.int (0 : Int32)), .val (.ref r160), .val (.int (1 : Int32)), .val (.ref r203)] [(.int (1 : Int32))])
        refine k_if_eq G X at_230 (pc' := 237) rfl (by decide) (pc'' := 233) rfl (fun c230 => (absurd c230 (by decide))) (fun c230 => ?_)
        refine k_iconst G X at_233 (pc' := 234) rfl (z := (1 : Int32)) (by decide) ?_
        refine k_goto G X at_234 (by decide) (pc' := 238) rfl ?_
        refine k_retb G X at_238 (t := .boolean) rfl (by simp) rfl ?_ (by decide) (by decide)
        rfl
    · refine k_iconst G X at_13 (pc' := 14) rfl (z := (1 : Int32)) (by decide) ?_
      refine k_goto G X at_14 (by decide) (pc' := 18) rfl ?_
      refine k_istore G X at_18 (pc' := 20) rfl (l' := #[.val (.int p0), .val (.int p1), .val (.int p2), .val (.int p3), .val (.int (3 : Int32)), .val (.int (1 : Int32)), .unset, .unset, .unset, .unset, .unset, .unset, .unset, .unset, .unset, .unset, .unset]) rfl ?_
      refine k_iloadN G X at_20 (pc' := 21) rfl rfl ?_
      refine k_iconst G X at_21 (pc' := 22) rfl (z := (3 : Int32)) (by decide) ?_
      refine k_ishr G X at_22 (pc' := 23) rfl rfl ?_
      refine k_iconst G X at_23 (pc' := 24) rfl (z := (1 : Int32)) (by decide) ?_
      refine k_iand G X at_24 (pc' := 25) rfl rfl ?_
      refine k_if_eq G X at_25 (pc' := 32) rfl (by decide) (pc'' := 28) rfl (fun c25 => ?_) (fun c25 => ?_)
      · refine k_iconst G X at_32 (pc' := 33) rfl (z := (0 : Int32)) (by decide) ?_
        refine k_istore G X at_33 (pc' := 35) rfl (l' := #[.val (.int p0), .val (.int p1), .val (.int p2), .val (.int p3), .val (.int (3 : Int32)), .val (.int (1 : Int32)), .val (.int (0 : Int32)), .unset, .unset, .unset, .unset, .unset, .unset, .unset, .unset, .unset, .unset]) rfl ?_
        refine k_iload G X at_35 (pc' := 37) rfl rfl ?_
        refine k_if_eq G X at_37 (pc' := 46) rfl (by decide) (pc'' := 40) rfl (fun c37 => ?_) (fun c37 => (absurd c37 (by decide)))
        refine k_iload G X at_46 (pc' := 48) rfl rfl ?_
        refine k_istore G X at_48 (pc' := 50) rfl (l' := #[.val (.int p0), .val (.int p1), .val (.int p2), .val (.int p3), .val (.int (3 : Int32)), .val (.int (1 : Int32)), .val (.int (0 : Int32)), .val (.int (3 : Int32)), .unset, .unset, .unset, .unset, .unset, .unset, .unset, .unset, .unset]) rfl ?_
        refine k_iloadN G X at_50 (pc' := 51) rfl rfl ?_
        refine k_i2b G X at_51 (pc' := 52) rfl rfl ?_
        refine k_istore G X at_52 (pc' := 54) rfl (l' := #[.val (.int p0), .val (.int p1), .val (.int p2), .val (.int p3), .val (.int (3 : Int32)), .val (.int (1 : Int32)), .val (.int (0 : Int32)), .val (.int (3 : Int32)), .val (.int (p0.toInt8.toInt32)), .unset, .unset, .unset, .unset, .unset, .unset, .unset, .unset]) rfl ?_
        refine k_iloadN G X at_54 (pc' := 55) rfl rfl ?_
        refine k_i2b G X at_55 (pc' := 56) rfl rfl ?_
        refine k_istore G X at_56 (pc' := 58) rfl (l' := #[.val (.int p0), .val (.int p1), .val (.int p2), .val (.int p3), .val (.int (3 : Int32)), .val (.int (1 : Int32)), .val (.int (0 : Int32)), .val (.int (3 : Int32)), .val (.int (p0.toInt8.toInt32)), .val (.int (p1.toInt8.toInt32)), .unset, .unset, .unset, .unset, .unset, .unset, .unset]) rfl ?_
        refine k_iloadN G X at_58 (pc' := 59) rfl rfl ?_
        refine k_i2b G X at_59 (pc' := 60) rfl rfl ?_
        refine k_istore G X at_60 (pc' := 62) rfl (l' := #[.val (.int p0), .val (.int p1), .val (.int p2), .val (.int p3), .val (.int (3 : Int32)), .val (.int (1 : Int32)), .val (.int (0 : Int32)), .val (.int (3 : Int32)), .val (.int (p0.toInt8.toInt32)), .val (.int (p1.toInt8.toInt32)), .val (.int (p2.toInt8.toInt32)), .unset, .unset, .unset, .unset, .unset, .unset]) rfl ?_
        refine k_iload G X at_62 (pc' := 64) rfl rfl ?_
        refine k_newP G X (aty := .byte) (n := 3) (cap := 3) (w0 hw) at_64 (pc' := 66) rfl rfl (by decide) (by decide) (by decide) (by decide) (fun T h64 b64 k64 s_b64 E64 A_b64 X => ?_)
        have ne_aED_b64 : aED ≠ b64 := Nat.ne_of_lt (Nat.lt_of_lt_of_eq EED.lt s_b64)
        have ne_aDo_b64 : aDo ≠ b64 := Nat.ne_of_lt (Nat.lt_of_lt_of_eq EDo.lt s_b64)
        have ne_aEA_b64 : aEA ≠ b64 := Nat.ne_of_lt (Nat.lt_of_lt_of_eq EEA.lt s_b64)
        have ne_aAr_b64 : aAr ≠ b64 := Nat.ne_of_lt (Nat.lt_of_lt_of_eq EAr.lt s_b64)
        have ge_b64 : n0 ≤ b64 := Nat.le_trans (Jvm.OwnK.Old_le O) (Nat.le_of_eq s_b64)
        replace O := O.ext E64
        replace S_ED := S_ED.ext E64
        replace S_Do := S_Do.ext E64
        replace S_EA := S_EA.ext E64
        replace S_Ar := S_Ar.ext E64
        replace EED := EED.ext E64
        replace EDo := EDo.ext E64
        replace EEA := EEA.ext E64
        replace EAr := EAr.ext E64
        replace OED := OED.ext E64
        replace OEA := OEA.ext E64
        replace A_b64 : Arf Z h64 b64 k64 .byte 3 (fun _ => (.int (0 : Int32))) := A_b64
        refine k_astore G X at_66 (pc' := 68) rfl rfl (l' := #[.val (.int p0), .val (.int p1), .val (.int p2), .val (.int p3), .val (.int (3 : Int32)), .val (.int (1 : Int32)), .val (.int (0 : Int32)), .val (.int (3 : Int32)), .val (.int (p0.toInt8.toInt32)), .val (.int (p1.toInt8.toInt32)), .val (.int (p2.toInt8.toInt32)), .val (.ref b64), .unset, .unset, .unset, .unset, .unset]) rfl ?_
        refine k_iload G X at_68 (pc' := 70) rfl rfl ?_
        refine k_iconst G X at_70 (pc' := 71) rfl (z := (1 : Int32)) (by decide) ?_
        refine k_icmp_lt G X at_71 (pc' := 80) rfl (by decide) (pc'' := 74) rfl (fun c71 => (absurd c71 (by decide))) (fun c71 => ?_)
        refine k_aload G X at_74 (pc' := 76) rfl rfl rfl ?_
        refine k_iconst G X at_76 (pc' := 77) rfl (z := (0 : Int32)) (by decide) ?_
        refine k_iload G X at_77 (pc' := 79) rfl rfl ?_
        refine k_bastore G X (i := 0) (z := (p0.toInt8.toInt32)) A_b64 rfl (by decide) (by simp [nar]) ge_b64 at_79 (pc' := 80) rfl (fun T h79 W79 A_b64 X => ?_)
        replace O := O.wr W79 ge_b64
        replace S_ED := S_ED.wr W79
        replace S_Do := S_Do.wr W79
        replace S_EA := S_EA.wr W79
        replace S_Ar := S_Ar.wr W79
        replace EED := EED.wr W79
        replace EDo := EDo.wr W79
        replace EEA := EEA.wr W79
        replace EAr := EAr.wr W79
        replace OED := OED.other W79 (Or.inl ne_aED_b64)
        replace OEA := OEA.other W79 (Or.inl ne_aEA_b64)
        refine k_iload G X at_80 (pc' := 82) rfl rfl ?_
        refine k_iconst G X at_82 (pc' := 83) rfl (z := (2 : Int32)) (by decide) ?_
        refine k_icmp_lt G X at_83 (pc' := 92) rfl (by decide) (pc'' := 86) rfl (fun c83 => (absurd c83 (by decide))) (fun c83 => ?_)
        refine k_aload G X at_86 (pc' := 88) rfl rfl rfl ?_
        refine k_iconst G X at_88 (pc' := 89) rfl (z := (1 : Int32)) (by decide) ?_
        refine k_iload G X at_89 (pc' := 91) rfl rfl ?_
        refine k_bastore G X (i := 1) (z := (p1.toInt8.toInt32)) A_b64 rfl (by decide) (by simp [nar]) ge_b64 at_91 (pc' := 92) rfl (fun T h91 W91 A_b64 X => ?_)
        replace O := O.wr W91 ge_b64
        replace S_ED := S_ED.wr W91
        replace S_Do := S_Do.wr W91
        replace S_EA := S_EA.wr W91
        replace S_Ar := S_Ar.wr W91
        replace EED := EED.wr W91
        replace EDo := EDo.wr W91
        replace EEA := EEA.wr W91
        replace EAr := EAr.wr W91
        replace OED := OED.other W91 (Or.inl ne_aED_b64)
        replace OEA := OEA.other W91 (Or.inl ne_aEA_b64)
        refine k_iload G X at_92 (pc' := 94) rfl rfl ?_
        refine k_iconst G X at_94 (pc' := 95) rfl (z := (3 : Int32)) (by decide) ?_
        refine k_icmp_lt G X at_95 (pc' := 107) rfl (by decide) (pc'' := 98) rfl (fun c95 => (absurd c95 (by decide))) (fun c95 => ?_)
        refine k_aload G X at_98 (pc' := 100) rfl rfl rfl ?_
        refine k_iload G X at_100 (pc' := 102) rfl rfl ?_
        refine k_iconst G X at_102 (pc' := 103) rfl (z := (1 : Int32)) (by decide) ?_
        refine k_isub G X at_103 (pc' := 104) rfl (z := (2 : Int32)) (by decide) ?_
        refine k_iload G X at_104 (pc' := 106) rfl rfl ?_
        refine k_bastore G X (i := 2) (z := (p2.toInt8.toInt32)) A_b64 rfl (by decide) (by simp [nar]) ge_b64 at_106 (pc' := 107) rfl (fun T h106 W106 A_b64 X => ?_)
        replace O := O.wr W106 ge_b64
        replace S_ED := S_ED.wr W106
        replace S_Do := S_Do.wr W106
        replace S_EA := S_EA.wr W106
        replace S_Ar := S_Ar.wr W106
        replace EED := EED.wr W106
        replace EDo := EDo.wr W106
        replace EEA := EEA.wr W106
        replace EAr := EAr.wr W106
        replace OED := OED.other W106 (Or.inl ne_aED_b64)
        replace OEA := OEA.other W106 (Or.inl ne_aEA_b64)
        refine k_new G X (w1 hw) (w2 hw) (w3 hw) at_107 (pc' := 110) rfl (by decide) (by decide) (fun T h107 b107 s_b107 E107 X_b107 D107 X => ?_)
        have ne_aED_b107 : aED ≠ b107 := Nat.ne_of_lt (Nat.lt_of_lt_of_eq EED.lt s_b107)
        have ne_aDo_b107 : aDo ≠ b107 := Nat.ne_of_lt (Nat.lt_of_lt_of_eq EDo.lt s_b107)
        have ne_aEA_b107 : aEA ≠ b107 := Nat.ne_of_lt (Nat.lt_of_lt_of_eq EEA.lt s_b107)
        have ne_aAr_b107 : aAr ≠ b107 := Nat.ne_of_lt (Nat.lt_of_lt_of_eq EAr.lt s_b107)
        have ne_b64_b107 : b64 ≠ b107 := Nat.ne_of_lt (Nat.lt_of_lt_of_eq A_b64.lt s_b107)
        have ge_b107 : n0 ≤ b107 := Nat.le_trans (Jvm.OwnK.Old_le O) (Nat.le_of_eq s_b107)
        replace O := O.ext E107
        replace S_ED := S_ED.ext E107
        replace S_Do := S_Do.ext E107
        replace S_EA := S_EA.ext E107
        replace S_Ar := S_Ar.ext E107
        replace EED := EED.ext E107
        replace EDo := EDo.ext E107
        replace EEA := EEA.ext E107
        replace EAr := EAr.ext E107
        replace OED := OED.ext E107
        replace OEA := OEA.ext E107
        replace A_b64 := A_b64.ext E107
        have F_b107_names : Fld Z h107 b107 "com/example/changeline/changeline/format/JsonOutput" "names" "Ljava/util/Map;" .null := D107 (Or.inr (w33 hw)) (ty := (.object "java/util/Map")) (by decide)
        have F_b107_bytes : Fld Z h107 b107 "com/example/changeline/changeline/format/JsonOutput" "bytes" "[B" .null := D107 (Or.inl (w35 hw)) (ty := (.array .byte)) (by decide)
        have F_b107_scopes : Fld Z h107 b107 "com/example/changeline/changeline/format/JsonOutput" "scopes" "[Lcom/example/changeline/changeline/format/JsonOutput$Scope;" .null := D107 (Or.inl (w39 hw)) (ty := (.array (.object "com/example/changeline/changeline/format/JsonOutput$Scope"))) (by decide)
        have F_b107_depth : Fld Z h107 b107 "com/example/changeline/changeline/format/JsonOutput" "depth" "I" (.int (0 : Int32)) := D107 (Or.inl (w41 hw)) (ty := .int) (by decide)
        have F_b107_length : Fld Z h107 b107 "com/example/changeline/changeline/format/JsonOutput" "length" "I" (.int (0 : Int32)) := D107 (Or.inl (w71 hw)) (ty := .int) (by decide)
        refine k_dup G X at_110 (pc' := 111) rfl rfl ?_
        refine k_callI G X (argsL := []) (rest := [(.ref b107)]) rfl rfl (w4 hw) (w5 hw) (w3 hw) (w6 hw) (by decide) (jo_init hw b107 aED h107 n0 ge_b107 O X_b107 F_b107_names F_b107_bytes F_b107_length F_b107_scopes F_b107_depth S_ED EED) at_111 pd0 rfl (pc' := 114) rfl rfl (wd := 1) rfl (by decide) (by decide) (by decide) (by decide) (fun T h111 v X q => ?_)
        obtain ⟨rfl, K111, E', b, sc, kb, ks, sz_b, sz_sc, ne_b_sc, FB, FL, FS, FD, BA, SCA, SO⟩ := q
        have ne_aED_b : aED ≠ b := Nat.ne_of_lt (Nat.lt_of_lt_of_le EED.lt sz_b)
        have ne_aED_sc : aED ≠ sc := Nat.ne_of_lt (Nat.lt_of_lt_of_le EED.lt sz_sc)
        have ne_aDo_b : aDo ≠ b := Nat.ne_of_lt (Nat.lt_of_lt_of_le EDo.lt sz_b)
        have ne_aDo_sc : aDo ≠ sc := Nat.ne_of_lt (Nat.lt_of_lt_of_le EDo.lt sz_sc)
        have ne_aEA_b : aEA ≠ b := Nat.ne_of_lt (Nat.lt_of_lt_of_le EEA.lt sz_b)
        have ne_aEA_sc : aEA ≠ sc := Nat.ne_of_lt (Nat.lt_of_lt_of_le EEA.lt sz_sc)
        have ne_aAr_b : aAr ≠ b := Nat.ne_of_lt (Nat.lt_of_lt_of_le EAr.lt sz_b)
        have ne_aAr_sc : aAr ≠ sc := Nat.ne_of_lt (Nat.lt_of_lt_of_le EAr.lt sz_sc)
        have ne_b64_b : b64 ≠ b := Nat.ne_of_lt (Nat.lt_of_lt_of_le A_b64.lt sz_b)
        have ne_b64_sc : b64 ≠ sc := Nat.ne_of_lt (Nat.lt_of_lt_of_le A_b64.lt sz_sc)
        have ne_o_b : b107 ≠ b := Nat.ne_of_lt (Nat.lt_of_lt_of_le X_b107.lt sz_b)
        have ge_b : n0 ≤ b := Nat.le_trans (Old_le O) sz_b
        have ne_o_sc : b107 ≠ sc := Nat.ne_of_lt (Nat.lt_of_lt_of_le X_b107.lt sz_sc)
        have ge_sc : n0 ≤ sc := Nat.le_trans (Old_le O) sz_sc
        replace S_ED := Sta_keepL S_ED K111 (allS (Pln_exa X_b107) (all0))
        replace S_Do := Sta_keepL S_Do K111 (allS (Pln_exa X_b107) (all0))
        replace S_EA := Sta_keepL S_EA K111 (allS (Pln_exa X_b107) (all0))
        replace S_Ar := Sta_keepL S_Ar K111 (allS (Pln_exa X_b107) (all0))
        replace O := O.keep K111 (allS ge_b107 (all0))
        replace EED := EED.keep K111
        replace EDo := EDo.keep K111
        replace EEA := EEA.keep K111
        replace EAr := EAr.keep K111
        replace OED := OED.keep K111 (by simp only [List.mem_cons, List.not_mem_nil, or_false, not_or]; exact ne_aED_b107)
        replace OEA := OEA.keep K111 (by simp only [List.mem_cons, List.not_mem_nil, or_false, not_or]; exact ne_aEA_b107)
        replace A_b64 := A_b64.keep K111 (by simp only [List.mem_cons, List.not_mem_nil, or_false, not_or]; exact ne_b64_b107)
        replace X_b107 := X_b107.keep K111
        show Go Γ n0 _ T (mkF Γ.m 114 #[.val (.int p0), .val (.int p1), .val (.int p2), .val (.int p3), .val (.int (3 : Int32)), .val (.int (1 : Int32)), .val (.int (0 : Int32)), .val (.int (3 : Int32)), .val (.int (p0.toInt8.toInt32)), .val (.int (p1.toInt8.toInt32)), .val (.int (p2.toInt8.toInt32)), .val (.ref b64), .unset, .unset, .unset, .unset, .unset] [(.ref b107)])
        refine k_astore G X at_114 (pc' := 116) rfl rfl (l' := #[.val (.int p0), .val (.int p1), .val (.int p2), .val (.int p3), .val (.int (3 : Int32)), .val (.int (1 : Int32)), .val (.int (0 : Int32)), .val (.int (3 : Int32)), .val (.int (p0.toInt8.toInt32)), .val (.int (p1.toInt8.toInt32)), .val (.int (p2.toInt8.toInt32)), .val (.ref b64), .val (.ref b107), .unset, .unset, .unset, .unset]) rfl ?_
        refine k_iload G X at_116 (pc' := 118) rfl rfl ?_
        refine k_if_eq G X at_118 (pc' := 127) rfl (by decide) (pc'' := 121) rfl (fun c118 => (absurd c118 (by decide))) (fun c118 => ?_)
        refine k_aload G X at_121 (pc' := 123) rfl rfl rfl ?_
        refine k_callV G X (argsL := []) (rest := []) rfl X_b107 (w101 hw) (w102 hw) (nf_sel (w104 hw)) (w104 hw) (w103 hw) (w3 hw) (w105 hw) (by decide) (begA hw b107 b sc aED aDo aEA kb ks 0 512 (0 : Int32) (1 : Int32) (512 : Int32) _ _ h111 n0 ge_b107 ge_sc O X_b107 FB FL FS FD SCA SO ne_o_sc rfl rfl rfl ge_b BA EED OED EDo S_Do EEA S_EA rfl ne_aED_sc ne_o_b.symm ne_b_sc (by decide)) at_123 pd12 rfl (pc' := 126) rfl rfl (wd := 0) rfl (by decide) (by decide) (by decide) (by decide) (fun T h123 v X q => ?_)
        obtain ⟨rfl, K123, E', FB', FL', FS', FD', BA', SCA'⟩ := q
        replace S_ED := Sta_keepL S_ED K123 (allS (Pln_arf SCA) (allS (Pln_exa X_b107) (allS (Pln_arf BA) (all0))))
        replace S_Do := Sta_keepL S_Do K123 (allS (Pln_arf SCA) (allS (Pln_exa X_b107) (allS (Pln_arf BA) (all0))))
        replace S_EA := Sta_keepL S_EA K123 (allS (Pln_arf SCA) (allS (Pln_exa X_b107) (allS (Pln_arf BA) (all0))))
        replace S_Ar := Sta_keepL S_Ar K123 (allS (Pln_arf SCA) (allS (Pln_exa X_b107) (allS (Pln_arf BA) (all0))))
        replace O := O.keep K123 (allS ge_sc (allS ge_b107 (allS ge_b (all0))))
        replace EED := EED.keep K123
        replace EDo := EDo.keep K123
        replace EEA := EEA.keep K123
        replace EAr := EAr.keep K123
        replace OED := OED.keep K123 (by simp only [List.mem_cons, List.not_mem_nil, or_false, not_or]; exact ⟨ne_aED_sc, ne_aED_b107, ne_aED_b⟩)
        replace OEA := OEA.keep K123 (by simp only [List.mem_cons, List.not_mem_nil, or_false, not_or]; exact ⟨ne_aEA_sc, ne_aEA_b107, ne_aEA_b⟩)
        replace A_b64 := A_b64.keep K123 (by simp only [List.mem_cons, List.not_mem_nil, or_false, not_or]; exact ⟨ne_b64_sc, ne_b64_b107, ne_b64_b⟩)
        replace X_b107 := X_b107.keep K123
        have FB := FB'
        have FL := FL'
        have FS := FS'
        have FD := FD'
        have BA := BA'
        have SCA := SCA'
        show Go Γ n0 _ T (mkF Γ.m 126 #[.val (.int p0), .val (.int p1), .val (.int p2), .val (.int p3), .val (.int (3 : Int32)), .val (.int (1 : Int32)), .val (.int (0 : Int32)), .val (.int (3 : Int32)), .val (.int (p0.toInt8.toInt32)), .val (.int (p1.toInt8.toInt32)), .val (.int (p2.toInt8.toInt32)), .val (.ref b64), .val (.ref b107), .unset, .unset, .unset, .unset] [(.ref b107)])
        refine k_pop G X at_126 (pc' := 127) rfl rfl ?_
        refine k_aload G X at_127 (pc' := 129) rfl rfl rfl ?_
        refine k_aload G X at_129 (pc' := 131) rfl rfl rfl ?_
        refine k_callV G X (argsL := [(.ref b64)]) (rest := []) rfl X_b107 (w46 hw) (w47 hw) (nf_sel (w49 hw)) (w49 hw) (w48 hw) (w3 hw) (w50 hw) (by decide) (jv50 hw b107 b b64 sc aEA aAr kb k64 ks 1 3 512 (1 : Int32) (3 : Int32) (4 : Int32) (512 : Int32) _ _ _ h123 n0 ge_b107 ge_sc O X_b107 FB FL FS FD SCA SO ne_o_sc rfl rfl rfl rfl ge_b BA A_b64 EEA OEA EAr S_Ar rfl ne_aEA_sc ne_o_b.symm ne_b64_b107 ne_b64_b ne_b_sc ne_b64_sc (by decide)) at_131 pd9 rfl (pc' := 134) rfl rfl (wd := 0) rfl (by decide) (by decide) (by decide) (by decide) (fun T h131 v X q => ?_)
        obtain ⟨rfl, K131, E', SCA', FB', FL', FS', FD', BA'⟩ := q
        replace S_ED := Sta_keepL S_ED K131 (allS (Pln_arf SCA) (allS (Pln_exa X_b107) (allS (Pln_arf BA) (all0))))
        replace S_Do := Sta_keepL S_Do K131 (allS (Pln_arf SCA) (allS (Pln_exa X_b107) (allS (Pln_arf BA) (all0))))
        replace S_EA := Sta_keepL S_EA K131 (allS (Pln_arf SCA) (allS (Pln_exa X_b107) (allS (Pln_arf BA) (all0))))
        replace S_Ar := Sta_keepL S_Ar K131 (allS (Pln_arf SCA) (allS (Pln_exa X_b107) (allS (Pln_arf BA) (all0))))
        replace O := O.keep K131 (allS ge_sc (allS ge_b107 (allS ge_b (all0))))
        replace EED := EED.keep K131
        replace EDo := EDo.keep K131
        replace EEA := EEA.keep K131
        replace EAr := EAr.keep K131
        replace X_b107 := X_b107.keep K131
        have FB := FB'
        have FL := FL'
        have FS := FS'
        have FD := FD'
        have BA := BA'
        have SCA := SCA'
        show Go Γ n0 _ T (mkF Γ.m 134 #[.val (.int p0), .val (.int p1), .val (.int p2), .val (.int p3), .val (.int (3 : Int32)), .val (.int (1 : Int32)), .val (.int (0 : Int32)), .val (.int (3 : Int32)), .val (.int (p0.toInt8.toInt32)), .val (.int (p1.toInt8.toInt32)), .val (.int (p2.toInt8.toInt32)), .val (.ref b64), .val (.ref b107), .unset, .unset, .unset, .unset] [(.ref b107)])
        refine k_pop G X at_134 (pc' := 135) rfl rfl ?_
        refine k_iload G X at_135 (pc' := 137) rfl rfl ?_
        refine k_if_eq G X at_137 (pc' := 146) rfl (by decide) (pc'' := 140) rfl (fun c137 => (absurd c137 (by decide))) (fun c137 => ?_)
        refine k_aload G X at_140 (pc' := 142) rfl rfl rfl ?_
        refine k_callV G X (argsL := []) (rest := []) rfl X_b107 (w118 hw) (w119 hw) (nf_sel (w121 hw)) (w121 hw) (w120 hw) (w3 hw) (w122 hw) (by decide) (endA hw b107 b sc aAr aEA kb ks 4 512 (4 : Int32) (5 : Int32) (512 : Int32) _ _ h131 n0 ge_b107 ge_sc O X_b107 FB FL FS FD SCA SO ne_o_sc rfl rfl rfl ge_b BA S_EA S_Ar rfl ne_o_b.symm ne_b_sc (by decide)) at_142 pd12 rfl (pc' := 145) rfl rfl (wd := 0) rfl (by decide) (by decide) (by decide) (by decide) (fun T h142 v X q => ?_)
        obtain ⟨rfl, K142, E', FB', FL', FS', FD', BA'⟩ := q
        replace S_ED := Sta_keepL S_ED K142 (allS (Pln_exa X_b107) (allS (Pln_arf BA) (all0)))
        replace S_Do := Sta_keepL S_Do K142 (allS (Pln_exa X_b107) (allS (Pln_arf BA) (all0)))
        replace S_EA := Sta_keepL S_EA K142 (allS (Pln_exa X_b107) (allS (Pln_arf BA) (all0)))
        replace S_Ar := Sta_keepL S_Ar K142 (allS (Pln_exa X_b107) (allS (Pln_arf BA) (all0)))
        replace O := O.keep K142 (allS ge_b107 (allS ge_b (all0)))
        replace EED := EED.keep K142
        replace EDo := EDo.keep K142
        replace EEA := EEA.keep K142
        replace EAr := EAr.keep K142
        replace X_b107 := X_b107.keep K142
        replace SCA := SCA.keep K142 (by simp only [List.mem_cons, List.not_mem_nil, or_false, not_or]; exact ⟨(Ne.symm ne_o_sc), (Ne.symm ne_b_sc)⟩)
        have FB := FB'
        have FL := FL'
        have FS := FS'
        have FD := FD'
        have BA := BA'
        show Go Γ n0 _ T (mkF Γ.m 145 #[.val (.int p0), .val (.int p1), .val (.int p2), .val (.int p3), .val (.int (3 : Int32)), .val (.int (1 : Int32)), .val (.int (0 : Int32)), .val (.int (3 : Int32)), .val (.int (p0.toInt8.toInt32)), .val (.int (p1.toInt8.toInt32)), .val (.int (p2.toInt8.toInt32)), .val (.ref b64), .val (.ref b107), .unset, .unset, .unset, .unset] [(.ref b107)])
        refine k_pop G X at_145 (pc' := 146) rfl rfl ?_
        refine k_iload G X at_146 (pc' := 148) rfl rfl ?_
        refine k_if_eq G X at_148 (pc' := 155) rfl (by decide) (pc'' := 151) rfl (fun c148 => (absurd c148 (by decide))) (fun c148 => ?_)
        refine k_iconst G X at_151 (pc' := 152) rfl (z := (1 : Int32)) (by decide) ?_
        refine k_goto G X at_152 (by decide) (pc' := 156) rfl ?_
        refine k_istore G X at_156 (pc' := 158) rfl (l' := #[.val (.int p0), .val (.int p1), .val (.int p2), .val (.int p3), .val (.int (3 : Int32)), .val (.int (1 : Int32)), .val (.int (0 : Int32)), .val (.int (3 : Int32)), .val (.int (p0.toInt8.toInt32)), .val (.int (p1.toInt8.toInt32)), .val (.int (p2.toInt8.toInt32)), .val (.ref b64), .val (.ref b107), .val (.int (1 : Int32)), .unset, .unset, .unset]) rfl ?_
        refine k_aload G X at_158 (pc' := 160) rfl rfl rfl ?_
        refine k_callV G X (argsL := []) (rest := []) rfl X_b107 (w80 hw) (w81 hw) (nf_sel (w83 hw)) (w83 hw) (w82 hw) (w3 hw) (w84 hw) (by decide) (toB hw b107 b kb 5 512 (5 : Int32) (512 : Int32) _ h142 n0 O FB FL rfl rfl (by decide) (by decide) BA) at_160 pd10 rfl (pc' := 163) rfl rfl (wd := 0) rfl (by decide) (by decide) (by decide) (by decide) (fun T h160 v X q => ?_)
        obtain ⟨r160, kr160, rfl, sz_r160, K160, R160⟩ := q
        have ge_r160 : n0 ≤ r160 := Nat.le_trans (Old_le O) sz_r160
        have ne_aED_r160 : aED ≠ r160 := Nat.ne_of_lt (Nat.lt_of_lt_of_le EED.lt sz_r160)
        have ne_aDo_r160 : aDo ≠ r160 := Nat.ne_of_lt (Nat.lt_of_lt_of_le EDo.lt sz_r160)
        have ne_aEA_r160 : aEA ≠ r160 := Nat.ne_of_lt (Nat.lt_of_lt_of_le EEA.lt sz_r160)
        have ne_aAr_r160 : aAr ≠ r160 := Nat.ne_of_lt (Nat.lt_of_lt_of_le EAr.lt sz_r160)
        have ne_b107_r160 : b107 ≠ r160 := Nat.ne_of_lt (Nat.lt_of_lt_of_le X_b107.lt sz_r160)
        have ne_b_r160 : b ≠ r160 := Nat.ne_of_lt (Nat.lt_of_lt_of_le BA.lt sz_r160)
        have ne_sc_r160 : sc ≠ r160 := Nat.ne_of_lt (Nat.lt_of_lt_of_le SCA.lt sz_r160)
        replace S_ED := Jvm.OwnK.Sta_keep S_ED K160
        replace S_Do := Jvm.OwnK.Sta_keep S_Do K160
        replace S_EA := Jvm.OwnK.Sta_keep S_EA K160
        replace S_Ar := Jvm.OwnK.Sta_keep S_Ar K160
        replace O := O.keep K160 (all0)
        replace EED := EED.keep K160
        replace EDo := EDo.keep K160
        replace EEA := EEA.keep K160
        replace EAr := EAr.keep K160
        replace X_b107 := X_b107.keep K160
        replace FB := FB.keep K160 nin0
        replace FL := FL.keep K160 nin0
        replace FS := FS.keep K160 nin0
        replace FD := FD.keep K160 nin0
        replace BA := BA.keep K160 nin0
        replace SCA := SCA.keep K160 nin0
        show Go Γ n0 _ T (mkF Γ.m 163 #[.val (.int p0), .val (.int p1), .val (.int p2), .val (.int p3), .val (.int (3 : Int32)), .val (.int (1 : Int32)), .val (.int (0 : Int32)), .val (.int (3 : Int32)), .val (.int (p0.toInt8.toInt32)), .val (.int (p1.toInt8.toInt32)), .val (.int (p2.toInt8.toInt32)), .val (.ref b64), .val (.ref b107), .val (.int (1 : Int32)), .unset, .unset, .unset] [(.ref r160)])
        refine k_astore G X at_163 (pc' := 165) rfl rfl (l' := #[.val (.int p0), .val (.int p1), .val (.int p2), .val (.int p3), .val (.int (3 : Int32)), .val (.int (1 : Int32)), .val (.int (0 : Int32)), .val (.int (3 : Int32)), .val (.int (p0.toInt8.toInt32)), .val (.int (p1.toInt8.toInt32)), .val (.int (p2.toInt8.toInt32)), .val (.ref b64), .val (.ref b107), .val (.int (1 : Int32)), .val (.ref r160), .unset, .unset]) rfl ?_
        refine k_aload G X at_165 (pc' := 167) rfl rfl rfl ?_
        refine k_iload G X at_167 (pc' := 169) rfl rfl ?_
        refine k_iload G X at_169 (pc' := 171) rfl rfl ?_
        refine k_iload G X at_171 (pc' := 173) rfl rfl ?_
        refine k_iload G X at_173 (pc' := 175) rfl rfl ?_
        refine k_iload G X at_175 (pc' := 177) rfl rfl ?_
        refine k_iload G X at_177 (pc' := 179) rfl rfl ?_
        refine k_callS G X (argsL := [(.ref r160), (.int (3 : Int32)), (.int (1 : Int32)), (.int (p0.toInt8.toInt32)), (.int (p1.toInt8.toInt32)), (.int (p2.toInt8.toInt32)), (.int (0 : Int32))]) (rest := []) rfl (w94 hw) (w95 hw) (w96 hw) (w97 hw) (by decide) (chk_3_1 hw r160 kr160 _ (p0.toInt8.toInt32) (p1.toInt8.toInt32) (p2.toInt8.toInt32) h160 n0 R160 (by rfl) (by rfl) (by rfl) (by rfl) (by rfl)) at_179 pd11 rfl (pc' := 182) rfl rfl (wd := 0) rfl (by decide) (by decide) (by decide) (by decide) (fun T h179 v X q => ?_)
        obtain ⟨rfl, e179⟩ := q
        replace X := X.eq e179
        show Go Γ n0 _ T (mkF Γ.m 182 #[.val (.int p0), .val (.int p1), .val (.int p2), .val (.int p3), .val (.int (3 : Int32)), .val (.int (1 : Int32)), .val (.int (0 : Int32)), .val (.int (3 : Int32)), .val (.int (p0.toInt8.toInt32)), .val (.int (p1.toInt8.toInt32)), .val (.int (p2.toInt8.toInt32)), .val (.ref b64), .val (.ref b107), .val (.int (1 : Int32)), .val (.ref r160), .unset, .unset] [(.int (1 : Int32))])
        refine k_istore G X at_182 (pc' := 184) rfl (l' := #[.val (.int p0), .val (.int p1), .val (.int p2), .val (.int p3), .val (.int (3 : Int32)), .val (.int (1 : Int32)), .val (.int (0 : Int32)), .val (.int (3 : Int32)), .val (.int (p0.toInt8.toInt32)), .val (.int (p1.toInt8.toInt32)), .val (.int (p2.toInt8.toInt32)), .val (.ref b64), .val (.ref b107), .val (.int (1 : Int32)), .val (.ref r160), .val (.int (1 : Int32)), .unset]) rfl ?_
        refine k_aload G X at_184 (pc' := 186) rfl rfl rfl ?_
        refine k_alen G X (z := (5 : Int32)) R160 rfl at_186 (pc' := 187) rfl ?_
        refine k_if_le G X at_187 (pc' := 201) rfl (by decide) (pc'' := 190) rfl (fun c187 => (absurd c187 (by decide))) (fun c187 => ?_)
        refine k_aload G X at_190 (pc' := 192) rfl rfl rfl ?_
        refine k_iconst G X at_192 (pc' := 193) rfl (z := (0 : Int32)) (by decide) ?_
        refine k_aload G X at_193 (pc' := 195) rfl rfl rfl ?_
        refine k_iconst G X at_195 (pc' := 196) rfl (z := (0 : Int32)) (by decide) ?_
        refine k_baload G X (i := 0) (v := (.int (91 : Int32))) R160 rfl (by decide) (by rfl) at_196 (pc' := 197) rfl ?_
        refine k_iconst G X at_197 (pc' := 198) rfl (z := (1 : Int32)) (by decide) ?_
        refine k_ixor G X at_198 (pc' := 199) rfl (z := (90 : Int32)) (by decide) ?_
        refine k_i2b G X at_199 (pc' := 200) rfl (z := (90 : Int32)) (by decide) ?_
        refine k_bastore G X (i := 0) (z := ((90 : Int32))) R160 rfl (by decide) (by simp [nar]) ge_r160 at_200 (pc' := 201) rfl (fun T h200 W200 R160 X => ?_)
        replace O := O.wr W200 ge_r160
        replace S_ED := S_ED.wr W200
        replace S_Do := S_Do.wr W200
        replace S_EA := S_EA.wr W200
        replace S_Ar := S_Ar.wr W200
        replace EED := EED.wr W200
        replace EDo := EDo.wr W200
        replace EEA := EEA.wr W200
        replace EAr := EAr.wr W200
        replace X_b107 := X_b107.wr W200
        replace FB := FB.other W200 (Or.inl ne_b107_r160)
        replace FL := FL.other W200 (Or.inl ne_b107_r160)
        replace FS := FS.other W200 (Or.inl ne_b107_r160)
        replace FD := FD.other W200 (Or.inl ne_b107_r160)
        replace BA := BA.other W200 ne_b_r160
        replace SCA := SCA.other W200 ne_sc_r160
        refine k_aload G X at_201 (pc' := 203) rfl rfl rfl ?_
        refine k_callV G X (argsL := []) (rest := []) rfl X_b107 (w80 hw) (w81 hw) (nf_sel (w83 hw)) (w83 hw) (w82 hw) (w3 hw) (w84 hw) (by decide) (toB hw b107 b kb 5 512 (5 : Int32) (512 : Int32) _ h200 n0 O FB FL rfl rfl (by decide) (by decide) BA) at_203 pd10 rfl (pc' := 206) rfl rfl (wd := 0) rfl (by decide) (by decide) (by decide) (by decide) (fun T h203 v X q => ?_)
        obtain ⟨r203, kr203, rfl, sz_r203, K203, R203⟩ := q
        have ge_r203 : n0 ≤ r203 := Nat.le_trans (Old_le O) sz_r203
        replace S_ED := Jvm.OwnK.Sta_keep S_ED K203
        replace S_Do := Jvm.OwnK.Sta_keep S_Do K203
        replace S_EA := Jvm.OwnK.Sta_keep S_EA K203
        replace S_Ar := Jvm.OwnK.Sta_keep S_Ar K203
        replace O := O.keep K203 (all0)
        replace EED := EED.keep K203
        replace EDo := EDo.keep K203
        replace EEA := EEA.keep K203
        replace EAr := EAr.keep K203
        replace X_b107 := X_b107.keep K203
        replace FB := FB.keep K203 nin0
        replace FL := FL.keep K203 nin0
        replace FS := FS.keep K203 nin0
        replace FD := FD.keep K203 nin0
        replace BA := BA.keep K203 nin0
        replace SCA := SCA.keep K203 nin0
        replace R160 := R160.keep K203 nin0
        show Go Γ n0 _ T (mkF Γ.m 206 #[.val (.int p0), .val (.int p1), .val (.int p2), .val (.int p3), .val (.int (3 : Int32)), .val (.int (1 : Int32)), .val (.int (0 : Int32)), .val (.int (3 : Int32)), .val (.int (p0.toInt8.toInt32)), .val (.int (p1.toInt8.toInt32)), .val (.int (p2.toInt8.toInt32)), .val (.ref b64), .val (.ref b107), .val (.int (1 : Int32)), .val (.ref r160), .val (.int (1 : Int32)), .unset] [(.ref r203)])
        refine k_astore G X at_206 (pc' := 208) rfl rfl (l' := #[.val (.int p0), .val (.int p1), .val (.int p2), .val (.int p3), .val (.int (3 : Int32)), .val (.int (1 : Int32)), .val (.int (0 : Int32)), .val (.int (3 : Int32)), .val (.int (p0.toInt8.toInt32)), .val (.int (p1.toInt8.toInt32)), .val (.int (p2.toInt8.toInt32)), .val (.ref b64), .val (.ref b107), .val (.int (1 : Int32)), .val (.ref r160), .val (.int (1 : Int32)), .val (.ref r203)]) rfl ?_
        refine k_iload G X at_208 (pc' := 210) rfl rfl ?_
        refine k_if_eq G X at_210 (pc' := 237) rfl (by decide) (pc'' := 213) rfl (fun c210 => (absurd c210 (by decide))) (fun c210 => ?_)
        refine k_aload G X at_213 (pc' := 215) rfl rfl rfl ?_
        refine k_iload G X at_215 (pc' := 217) rfl rfl ?_
        refine k_iload G X at_217 (pc' := 219) rfl rfl ?_
        refine k_iload G X at_219 (pc' := 221) rfl rfl ?_
        refine k_iload G X at_221 (pc' := 223) rfl rfl ?_
        refine k_iload G X at_223 (pc' := 225) rfl rfl ?_
        refine k_iload G X at_225 (pc' := 227) rfl rfl ?_
        refine k_callS G X (argsL := [(.ref r203), (.int (3 : Int32)), (.int (1 : Int32)), (.int (p0.toInt8.toInt32)), (.int (p1.toInt8.toInt32)), (.int (p2.toInt8.toInt32)), (.int (0 : Int32))]) (rest := []) rfl (w94 hw) (w95 hw) (w96 hw) (w97 hw) (by decide) (chk_3_1 hw r203 kr203 _ (p0.toInt8.toInt32) (p1.toInt8.toInt32) (p2.toInt8.toInt32) h203 n0 R203 (by rfl) (by rfl) (by rfl) (by rfl) (by rfl)) at_227 pd11 rfl (pc' := 230) rfl rfl (wd := 0) rfl (by decide) (by decide) (by decide) (by decide) (fun T h227 v X q => ?_)
        obtain ⟨rfl, e227⟩ := q
        replace X := X.eq e227
        show Go Γ n0 _ T (mkF Γ.m 230 #[.val (.int p0), .val (.int p1), .val (.int p2), .val (.int p3), .val (.int (3 : Int32)), .val (.int (1 : Int32)), .val (.int (0 : Int32)), .val (.int (3 : Int32)), .val (.int (p0.toInt8.toInt32)), .val (.int (p1.toInt8.toInt32)), .val (.int (p2.toInt8.toInt32)), .val (.ref b64), .val (.ref b107), .val (.int (1 : Int32)), .val (.ref r160), .val (.int (1 : Int32)), .val (.ref r203)] [(.int (1 : Int32))])
        refine k_if_eq G X at_230 (pc' := 237) rfl (by decide) (pc'' := 233) rfl (fun c230 => (absurd c230 (by decide))) (fun c230 => ?_)
        refine k_iconst G X at_233 (pc' := 234) rfl (z := (1 : Int32)) (by decide) ?_
        refine k_goto G X at_234 (by decide) (pc' := 238) rfl ?_
        refine k_retb G X at_238 (t := .boolean) rfl (by simp) rfl ?_ (by decide) (by decide)
        rfl
      · refine k_iconst G X at_28 (pc' := 29) rfl (z := (1 : Int32)) (by decide) ?_
        refine k_goto G X at_29 (by decide) (pc' := 33) rfl ?_
        refine k_istore G X at_33 (pc' := 35) rfl (l' := #[.val (.int p0), .val (.int p1), .val (.int p2), .val (.int p3), .val (.int (3 : Int32)), .val (.int (1 : Int32)), .val (.int (1 : Int32)), .unset, .unset, .unset, .unset, .unset, .unset, .unset, .unset, .unset, .unset]) rfl ?_
        refine k_iload G X at_35 (pc' := 37) rfl rfl ?_
        refine k_if_eq G X at_37 (pc' := 46) rfl (by decide) (pc'' := 40) rfl (fun c37 => (absurd c37 (by decide))) (fun c37 => ?_)
        refine k_sipush G X at_40 (pc' := 43) rfl (z := (600 : Int32)) (by decide) ?_
        refine k_goto G X at_43 (by decide) (pc' := 48) rfl ?_
        refine k_istore G X at_48 (pc' := 50) rfl (l' := #[.val (.int p0), .val (.int p1), .val (.int p2), .val (.int p3), .val (.int (3 : Int32)), .val (.int (1 : Int32)), .val (.int (1 : Int32)), .val (.int (600 : Int32)), .unset, .unset, .unset, .unset, .unset, .unset, .unset, .unset, .unset]) rfl ?_
        refine k_iloadN G X at_50 (pc' := 51) rfl rfl ?_
        refine k_i2b G X at_51 (pc' := 52) rfl rfl ?_
        refine k_istore G X at_52 (pc' := 54) rfl (l' := #[.val (.int p0), .val (.int p1), .val (.int p2), .val (.int p3), .val (.int (3 : Int32)), .val (.int (1 : Int32)), .val (.int (1 : Int32)), .val (.int (600 : Int32)), .val (.int (p0.toInt8.toInt32)), .unset, .unset, .unset, .unset, .unset, .unset, .unset, .unset]) rfl ?_
        refine k_iloadN G X at_54 (pc' := 55) rfl rfl ?_
        refine k_i2b G X at_55 (pc' := 56) rfl rfl ?_
        refine k_istore G X at_56 (pc' := 58) rfl (l' := #[.val (.int p0), .val (.int p1), .val (.int p2), .val (.int p3), .val (.int (3 : Int32)), .val (.int (1 : Int32)), .val (.int (1 : Int32)), .val (.int (600 : Int32)), .val (.int (p0.toInt8.toInt32)), .val (.int (p1.toInt8.toInt32)), .unset, .unset, .unset, .unset, .unset, .unset, .unset]) rfl ?_
        refine k_iloadN G X at_58 (pc' := 59) rfl rfl ?_
        refine k_i2b G X at_59 (pc' := 60) rfl rfl ?_
        refine k_istore G X at_60 (pc' := 62) rfl (l' := #[.val (.int p0), .val (.int p1), .val (.int p2), .val (.int p3), .val (.int (3 : Int32)), .val (.int (1 : Int32)), .val (.int (1 : Int32)), .val (.int (600 : Int32)), .val (.int (p0.toInt8.toInt32)), .val (.int (p1.toInt8.toInt32)), .val (.int (p2.toInt8.toInt32)), .unset, .unset, .unset, .unset, .unset, .unset]) rfl ?_
        refine k_iload G X at_62 (pc' := 64) rfl rfl ?_
        refine k_newP G X (aty := .byte) (n := 600) (cap := 600) (w0 hw) at_64 (pc' := 66) rfl rfl (by decide) (by decide) (by decide) (by decide) (fun T h64 b64 k64 s_b64 E64 A_b64 X => ?_)
        have ne_aED_b64 : aED ≠ b64 := Nat.ne_of_lt (Nat.lt_of_lt_of_eq EED.lt s_b64)
        have ne_aDo_b64 : aDo ≠ b64 := Nat.ne_of_lt (Nat.lt_of_lt_of_eq EDo.lt s_b64)
        have ne_aEA_b64 : aEA ≠ b64 := Nat.ne_of_lt (Nat.lt_of_lt_of_eq EEA.lt s_b64)
        have ne_aAr_b64 : aAr ≠ b64 := Nat.ne_of_lt (Nat.lt_of_lt_of_eq EAr.lt s_b64)
        have ge_b64 : n0 ≤ b64 := Nat.le_trans (Jvm.OwnK.Old_le O) (Nat.le_of_eq s_b64)
        replace O := O.ext E64
        replace S_ED := S_ED.ext E64
        replace S_Do := S_Do.ext E64
        replace S_EA := S_EA.ext E64
        replace S_Ar := S_Ar.ext E64
        replace EED := EED.ext E64
        replace EDo := EDo.ext E64
        replace EEA := EEA.ext E64
        replace EAr := EAr.ext E64
        replace OED := OED.ext E64
        replace OEA := OEA.ext E64
        replace A_b64 : Arf Z h64 b64 k64 .byte 600 (fun _ => (.int (0 : Int32))) := A_b64
        refine k_astore G X at_66 (pc' := 68) rfl rfl (l' := #[.val (.int p0), .val (.int p1), .val (.int p2), .val (.int p3), .val (.int (3 : Int32)), .val (.int (1 : Int32)), .val (.int (1 : Int32)), .val (.int (600 : Int32)), .val (.int (p0.toInt8.toInt32)), .val (.int (p1.toInt8.toInt32)), .val (.int (p2.toInt8.toInt32)), .val (.ref b64), .unset, .unset, .unset, .unset, .unset]) rfl ?_
        refine k_iload G X at_68 (pc' := 70) rfl rfl ?_
        refine k_iconst G X at_70 (pc' := 71) rfl (z := (1 : Int32)) (by decide) ?_
        refine k_icmp_lt G X at_71 (pc' := 80) rfl (by decide) (pc'' := 74) rfl (fun c71 => (absurd c71 (by decide))) (fun c71 => ?_)
        refine k_aload G X at_74 (pc' := 76) rfl rfl rfl ?_
        refine k_iconst G X at_76 (pc' := 77) rfl (z := (0 : Int32)) (by decide) ?_
        refine k_iload G X at_77 (pc' := 79) rfl rfl ?_
        refine k_bastore G X (i := 0) (z := (p0.toInt8.toInt32)) A_b64 rfl (by decide) (by simp [nar]) ge_b64 at_79 (pc' := 80) rfl (fun T h79 W79 A_b64 X => ?_)
        replace O := O.wr W79 ge_b64
        replace S_ED := S_ED.wr W79
        replace S_Do := S_Do.wr W79
        replace S_EA := S_EA.wr W79
        replace S_Ar := S_Ar.wr W79
        replace EED := EED.wr W79
        replace EDo := EDo.wr W79
        replace EEA := EEA.wr W79
        replace EAr := EAr.wr W79
        replace OED := OED.other W79 (Or.inl ne_aED_b64)
        replace OEA := OEA.other W79 (Or.inl ne_aEA_b64)
        refine k_iload G X at_80 (pc' := 82) rfl rfl ?_
        refine k_iconst G X at_82 (pc' := 83) rfl (z := (2 : Int32)) (by decide) ?_
        refine k_icmp_lt G X at_83 (pc' := 92) rfl (by decide) (pc'' := 86) rfl (fun c83 => (absurd c83 (by decide))) (fun c83 => ?_)
        refine k_aload G X at_86 (pc' := 88) rfl rfl rfl ?_
        refine k_iconst G X at_88 (pc' := 89) rfl (z := (1 : Int32)) (by decide) ?_
        refine k_iload G X at_89 (pc' := 91) rfl rfl ?_
        refine k_bastore G X (i := 1) (z := (p1.toInt8.toInt32)) A_b64 rfl (by decide) (by simp [nar]) ge_b64 at_91 (pc' := 92) rfl (fun T h91 W91 A_b64 X => ?_)
        replace O := O.wr W91 ge_b64
        replace S_ED := S_ED.wr W91
        replace S_Do := S_Do.wr W91
        replace S_EA := S_EA.wr W91
        replace S_Ar := S_Ar.wr W91
        replace EED := EED.wr W91
        replace EDo := EDo.wr W91
        replace EEA := EEA.wr W91
        replace EAr := EAr.wr W91
        replace OED := OED.other W91 (Or.inl ne_aED_b64)
        replace OEA := OEA.other W91 (Or.inl ne_aEA_b64)
        refine k_iload G X at_92 (pc' := 94) rfl rfl ?_
        refine k_iconst G X at_94 (pc' := 95) rfl (z := (3 : Int32)) (by decide) ?_
        refine k_icmp_lt G X at_95 (pc' := 107) rfl (by decide) (pc'' := 98) rfl (fun c95 => (absurd c95 (by decide))) (fun c95 => ?_)
        refine k_aload G X at_98 (pc' := 100) rfl rfl rfl ?_
        refine k_iload G X at_100 (pc' := 102) rfl rfl ?_
        refine k_iconst G X at_102 (pc' := 103) rfl (z := (1 : Int32)) (by decide) ?_
        refine k_isub G X at_103 (pc' := 104) rfl (z := (599 : Int32)) (by decide) ?_
        refine k_iload G X at_104 (pc' := 106) rfl rfl ?_
        refine k_bastore G X (i := 599) (z := (p2.toInt8.toInt32)) A_b64 rfl (by decide) (by simp [nar]) ge_b64 at_106 (pc' := 107) rfl (fun T h106 W106 A_b64 X => ?_)
        replace O := O.wr W106 ge_b64
        replace S_ED := S_ED.wr W106
        replace S_Do := S_Do.wr W106
        replace S_EA := S_EA.wr W106
        replace S_Ar := S_Ar.wr W106
        replace EED := EED.wr W106
        replace EDo := EDo.wr W106
        replace EEA := EEA.wr W106
        replace EAr := EAr.wr W106
        replace OED := OED.other W106 (Or.inl ne_aED_b64)
        replace OEA := OEA.other W106 (Or.inl ne_aEA_b64)
        refine k_new G X (w1 hw) (w2 hw) (w3 hw) at_107 (pc' := 110) rfl (by decide) (by decide) (fun T h107 b107 s_b107 E107 X_b107 D107 X => ?_)
        have ne_aED_b107 : aED ≠ b107 := Nat.ne_of_lt (Nat.lt_of_lt_of_eq EED.lt s_b107)
        have ne_aDo_b107 : aDo ≠ b107 := Nat.ne_of_lt (Nat.lt_of_lt_of_eq EDo.lt s_b107)
        have ne_aEA_b107 : aEA ≠ b107 := Nat.ne_of_lt (Nat.lt_of_lt_of_eq EEA.lt s_b107)
        have ne_aAr_b107 : aAr ≠ b107 := Nat.ne_of_lt (Nat.lt_of_lt_of_eq EAr.lt s_b107)
        have ne_b64_b107 : b64 ≠ b107 := Nat.ne_of_lt (Nat.lt_of_lt_of_eq A_b64.lt s_b107)
        have ge_b107 : n0 ≤ b107 := Nat.le_trans (Jvm.OwnK.Old_le O) (Nat.le_of_eq s_b107)
        replace O := O.ext E107
        replace S_ED := S_ED.ext E107
        replace S_Do := S_Do.ext E107
        replace S_EA := S_EA.ext E107
        replace S_Ar := S_Ar.ext E107
        replace EED := EED.ext E107
        replace EDo := EDo.ext E107
        replace EEA := EEA.ext E107
        replace EAr := EAr.ext E107
        replace OED := OED.ext E107
        replace OEA := OEA.ext E107
        replace A_b64 := A_b64.ext E107
        have F_b107_names : Fld Z h107 b107 "com/example/changeline/changeline/format/JsonOutput" "names" "Ljava/util/Map;" .null := D107 (Or.inr (w33 hw)) (ty := (.object "java/util/Map")) (by decide)
        have F_b107_bytes : Fld Z h107 b107 "com/example/changeline/changeline/format/JsonOutput" "bytes" "[B" .null := D107 (Or.inl (w35 hw)) (ty := (.array .byte)) (by decide)
        have F_b107_scopes : Fld Z h107 b107 "com/example/changeline/changeline/format/JsonOutput" "scopes" "[Lcom/example/changeline/changeline/format/JsonOutput$Scope;" .null := D107 (Or.inl (w39 hw)) (ty := (.array (.object "com/example/changeline/changeline/format/JsonOutput$Scope"))) (by decide)
        have F_b107_depth : Fld Z h107 b107 "com/example/changeline/changeline/format/JsonOutput" "depth" "I" (.int (0 : Int32)) := D107 (Or.inl (w41 hw)) (ty := .int) (by decide)
        have F_b107_length : Fld Z h107 b107 "com/example/changeline/changeline/format/JsonOutput" "length" "I" (.int (0 : Int32)) := D107 (Or.inl (w71 hw)) (ty := .int) (by decide)
        refine k_dup G X at_110 (pc' := 111) rfl rfl ?_
        refine k_callI G X (argsL := []) (rest := [(.ref b107)]) rfl rfl (w4 hw) (w5 hw) (w3 hw) (w6 hw) (by decide) (jo_init hw b107 aED h107 n0 ge_b107 O X_b107 F_b107_names F_b107_bytes F_b107_length F_b107_scopes F_b107_depth S_ED EED) at_111 pd0 rfl (pc' := 114) rfl rfl (wd := 1) rfl (by decide) (by decide) (by decide) (by decide) (fun T h111 v X q => ?_)
        obtain ⟨rfl, K111, E', b, sc, kb, ks, sz_b, sz_sc, ne_b_sc, FB, FL, FS, FD, BA, SCA, SO⟩ := q
        have ne_aED_b : aED ≠ b := Nat.ne_of_lt (Nat.lt_of_lt_of_le EED.lt sz_b)
        have ne_aED_sc : aED ≠ sc := Nat.ne_of_lt (Nat.lt_of_lt_of_le EED.lt sz_sc)
        have ne_aDo_b : aDo ≠ b := Nat.ne_of_lt (Nat.lt_of_lt_of_le EDo.lt sz_b)
        have ne_aDo_sc : aDo ≠ sc := Nat.ne_of_lt (Nat.lt_of_lt_of_le EDo.lt sz_sc)
        have ne_aEA_b : aEA ≠ b := Nat.ne_of_lt (Nat.lt_of_lt_of_le EEA.lt sz_b)
        have ne_aEA_sc : aEA ≠ sc := Nat.ne_of_lt (Nat.lt_of_lt_of_le EEA.lt sz_sc)
        have ne_aAr_b : aAr ≠ b := Nat.ne_of_lt (Nat.lt_of_lt_of_le EAr.lt sz_b)
        have ne_aAr_sc : aAr ≠ sc := Nat.ne_of_lt (Nat.lt_of_lt_of_le EAr.lt sz_sc)
        have ne_b64_b : b64 ≠ b := Nat.ne_of_lt (Nat.lt_of_lt_of_le A_b64.lt sz_b)
        have ne_b64_sc : b64 ≠ sc := Nat.ne_of_lt (Nat.lt_of_lt_of_le A_b64.lt sz_sc)
        have ne_o_b : b107 ≠ b := Nat.ne_of_lt (Nat.lt_of_lt_of_le X_b107.lt sz_b)
        have ge_b : n0 ≤ b := Nat.le_trans (Old_le O) sz_b
        have ne_o_sc : b107 ≠ sc := Nat.ne_of_lt (Nat.lt_of_lt_of_le X_b107.lt sz_sc)
        have ge_sc : n0 ≤ sc := Nat.le_trans (Old_le O) sz_sc
        replace S_ED := Sta_keepL S_ED K111 (allS (Pln_exa X_b107) (all0))
        replace S_Do := Sta_keepL S_Do K111 (allS (Pln_exa X_b107) (all0))
        replace S_EA := Sta_keepL S_EA K111 (allS (Pln_exa X_b107) (all0))
        replace S_Ar := Sta_keepL S_Ar K111 (allS (Pln_exa X_b107) (all0))
        replace O := O.keep K111 (allS ge_b107 (all0))
        replace EED := EED.keep K111
        replace EDo := EDo.keep K111
        replace EEA := EEA.keep K111
        replace EAr := EAr.keep K111
        replace OED := OED.keep K111 (by simp only [List.mem_cons, List.not_mem_nil, or_false, not_or]; exact ne_aED_b107)
        replace OEA := OEA.keep K111 (by simp only [List.mem_cons, List.not_mem_nil, or_false, not_or]; exact ne_aEA_b107)
        replace A_b64 := A_b64.keep K111 (by simp only [List.mem_cons, List.not_mem_nil, or_false, not_or]; exact ne_b64_b107)
        replace X_b107 := X_b107.keep K111
        show Go Γ n0 _ T (mkF Γ.m 114 #[.val (.int p0), .val (.int p1), .val (.int p2), .val (.int p3), .val (.int (3 : Int32)), .val (.int (1 : Int32)), .val (.int (1 : Int32)), .val (.int (600 : Int32)), .val (.int (p0.toInt8.toInt32)), .val (.int (p1.toInt8.toInt32)), .val (.int (p2.toInt8.toInt32)), .val (.ref b64), .unset, .unset, .unset, .unset, .unset] [(.ref b107)])
        refine k_astore G X at_114 (pc' := 116) rfl rfl (l' := #[.val (.int p0), .val (.int p1), .val (.int p2), .val (.int p3), .val (.int (3 : Int32)), .val (.int (1 : Int32)), .val (.int (1 : Int32)), .val (.int (600 : Int32)), .val (.int (p0.toInt8.toInt32)), .val (.int (p1.toInt8.toInt32)), .val (.int (p2.toInt8.toInt32)), .val (.ref b64), .val (.ref b107), .unset, .unset, .unset, .unset]) rfl ?_
        refine k_iload G X at_116 (pc' := 118) rfl rfl ?_
        refine k_if_eq G X at_118 (pc' := 127) rfl (by decide) (pc'' := 121) rfl (fun c118 => (absurd c118 (by decide))) (fun c118 => ?_)
        refine k_aload G X at_121 (pc' := 123) rfl rfl rfl ?_
        refine k_callV G X (argsL := []) (rest := []) rfl X_b107 (w101 hw) (w102 hw) (nf_sel (w104 hw)) (w104 hw) (w103 hw) (w3 hw) (w105 hw) (by decide) (begA hw b107 b sc aED aDo aEA kb ks 0 512 (0 : Int32) (1 : Int32) (512 : Int32) _ _ h111 n0 ge_b107 ge_sc O X_b107 FB FL FS FD SCA SO ne_o_sc rfl rfl rfl ge_b BA EED OED EDo S_Do EEA S_EA rfl ne_aED_sc ne_o_b.symm ne_b_sc (by decide)) at_123 pd12 rfl (pc' := 126) rfl rfl (wd := 0) rfl (by decide) (by decide) (by decide) (by decide) (fun T h123 v X q => ?_)
        obtain ⟨rfl, K123, E', FB', FL', FS', FD', BA', SCA'⟩ := q
        replace S_ED := Sta_keepL S_ED K123 (allS (Pln_arf SCA) (allS (Pln_exa X_b107) (allS (Pln_arf BA) (all0))))
        replace S_Do := Sta_keepL S_Do K123 (allS (Pln_arf SCA) (allS (Pln_exa X_b107) (allS (Pln_arf BA) (all0))))
        replace S_EA := Sta_keepL S_EA K123 (allS (Pln_arf SCA) (allS (Pln_exa X_b107) (allS (Pln_arf BA) (all0))))
        replace S_Ar := Sta_keepL S_Ar K123 (allS (Pln_arf SCA) (allS (Pln_exa X_b107) (allS (Pln_arf BA) (all0))))
        replace O := O.keep K123 (allS ge_sc (allS ge_b107 (allS ge_b (all0))))
        replace EED := EED.keep K123
        replace EDo := EDo.keep K123
        replace EEA := EEA.keep K123
        replace EAr := EAr.keep K123
        replace OED := OED.keep K123 (by simp only [List.mem_cons, List.not_mem_nil, or_false, not_or]; exact ⟨ne_aED_sc, ne_aED_b107, ne_aED_b⟩)
        replace OEA := OEA.keep K123 (by simp only [List.mem_cons, List.not_mem_nil, or_false, not_or]; exact ⟨ne_aEA_sc, ne_aEA_b107, ne_aEA_b⟩)
        replace A_b64 := A_b64.keep K123 (by simp only [List.mem_cons, List.not_mem_nil, or_false, not_or]; exact ⟨ne_b64_sc, ne_b64_b107, ne_b64_b⟩)
        replace X_b107 := X_b107.keep K123
        have FB := FB'
        have FL := FL'
        have FS := FS'
        have FD := FD'
        have BA := BA'
        have SCA := SCA'
        show Go Γ n0 _ T (mkF Γ.m 126 #[.val (.int p0), .val (.int p1), .val (.int p2), .val (.int p3), .val (.int (3 : Int32)), .val (.int (1 : Int32)), .val (.int (1 : Int32)), .val (.int (600 : Int32)), .val (.int (p0.toInt8.toInt32)), .val (.int (p1.toInt8.toInt32)), .val (.int (p2.toInt8.toInt32)), .val (.ref b64), .val (.ref b107), .unset, .unset, .unset, .unset] [(.ref b107)])
        refine k_pop G X at_126 (pc' := 127) rfl rfl ?_
        refine k_aload G X at_127 (pc' := 129) rfl rfl rfl ?_
        refine k_aload G X at_129 (pc' := 131) rfl rfl rfl ?_
        refine k_callV G X (argsL := [(.ref b64)]) (rest := []) rfl X_b107 (w46 hw) (w47 hw) (nf_sel (w49 hw)) (w49 hw) (w48 hw) (w3 hw) (w50 hw) (by decide) (jv51 hw b107 b b64 sc aEA aAr kb k64 ks 1 600 (1 : Int32) (600 : Int32) (601 : Int32) _ _ _ h123 n0 ge_b107 ge_sc O X_b107 FB FL FS FD SCA SO ne_o_sc rfl rfl rfl BA A_b64 EEA OEA EAr S_Ar rfl ne_aEA_sc ne_o_b.symm ne_b64_b107 ne_b64_b ne_b_sc ne_b64_sc (by decide) (by decide)) at_131 pd9 rfl (pc' := 134) rfl rfl (wd := 0) rfl (by decide) (by decide) (by decide) (by decide) (fun T h131 v X q => ?_)
        obtain ⟨rfl, K131, E', SCA', b', kb', sz_b', FB', FL', FS', FD', BA'⟩ := q
        have ne_o_b' : b107 ≠ b' := Nat.ne_of_lt (Nat.lt_of_lt_of_le X_b107.lt sz_b')
        have ne_sc_b' : sc ≠ b' := Nat.ne_of_lt (Nat.lt_of_lt_of_le SCA.lt sz_b')
        have ge_b' : n0 ≤ b' := Nat.le_trans (Old_le O) sz_b'
        replace S_ED := Sta_keepL S_ED K131 (allS (Pln_arf SCA) (allS (Pln_exa X_b107) (all0)))
        replace S_Do := Sta_keepL S_Do K131 (allS (Pln_arf SCA) (allS (Pln_exa X_b107) (all0)))
        replace S_EA := Sta_keepL S_EA K131 (allS (Pln_arf SCA) (allS (Pln_exa X_b107) (all0)))
        replace S_Ar := Sta_keepL S_Ar K131 (allS (Pln_arf SCA) (allS (Pln_exa X_b107) (all0)))
        replace O := O.keep K131 (allS ge_sc (allS ge_b107 (all0)))
        replace EED := EED.keep K131
        replace EDo := EDo.keep K131
        replace EEA := EEA.keep K131
        replace EAr := EAr.keep K131
        replace X_b107 := X_b107.keep K131
        have FB := FB'
        have FL := FL'
        have FS := FS'
        have FD := FD'
        have BA := BA'
        have SCA := SCA'
        show Go Γ n0 _ T (mkF Γ.m 134 #[.val (.int p0), .val (.int p1), .val (.int p2), .val (.int p3), .val (.int (3 : Int32)), .val (.int (1 : Int32)), .val (.int (1 : Int32)), .val (.int (600 : Int32)), .val (.int (p0.toInt8.toInt32)), .val (.int (p1.toInt8.toInt32)), .val (.int (p2.toInt8.toInt32)), .val (.ref b64), .val (.ref b107), .unset, .unset, .unset, .unset] [(.ref b107)])
        refine k_pop G X at_134 (pc' := 135) rfl rfl ?_
        refine k_iload G X at_135 (pc' := 137) rfl rfl ?_
        refine k_if_eq G X at_137 (pc' := 146) rfl (by decide) (pc'' := 140) rfl (fun c137 => (absurd c137 (by decide))) (fun c137 => ?_)
        refine k_aload G X at_140 (pc' := 142) rfl rfl rfl ?_
        refine k_callV G X (argsL := []) (rest := []) rfl X_b107 (w118 hw) (w119 hw) (nf_sel (w121 hw)) (w121 hw) (w120 hw) (w3 hw) (w122 hw) (by decide) (endA hw b107 b' sc aAr aEA kb' ks 601 1024 (601 : Int32) (602 : Int32) (1024 : Int32) _ _ h131 n0 ge_b107 ge_sc O X_b107 FB FL FS FD SCA SO ne_o_sc rfl rfl rfl ge_b' BA S_EA S_Ar rfl ne_o_b'.symm ne_sc_b'.symm (by decide)) at_142 pd12 rfl (pc' := 145) rfl rfl (wd := 0) rfl (by decide) (by decide) (by decide) (by decide) (fun T h142 v X q => ?_)
        obtain ⟨rfl, K142, E', FB', FL', FS', FD', BA'⟩ := q
        replace S_ED := Sta_keepL S_ED K142 (allS (Pln_exa X_b107) (allS (Pln_arf BA) (all0)))
        replace S_Do := Sta_keepL S_Do K142 (allS (Pln_exa X_b107) (allS (Pln_arf BA) (all0)))
        replace S_EA := Sta_keepL S_EA K142 (allS (Pln_exa X_b107) (allS (Pln_arf BA) (all0)))
        replace S_Ar := Sta_keepL S_Ar K142 (allS (Pln_exa X_b107) (allS (Pln_arf BA) (all0)))
        replace O := O.keep K142 (allS ge_b107 (allS ge_b' (all0)))
        replace EED := EED.keep K142
        replace EDo := EDo.keep K142
        replace EEA := EEA.keep K142
        replace EAr := EAr.keep K142
        replace X_b107 := X_b107.keep K142
        replace SCA := SCA.keep K142 (by simp only [List.mem_cons, List.not_mem_nil, or_false, not_or]; exact ⟨(Ne.symm ne_o_sc), ne_sc_b'⟩)
        have FB := FB'
        have FL := FL'
        have FS := FS'
        have FD := FD'
        have BA := BA'
        show Go Γ n0 _ T (mkF Γ.m 145 #[.val (.int p0), .val (.int p1), .val (.int p2), .val (.int p3), .val (.int (3 : Int32)), .val (.int (1 : Int32)), .val (.int (1 : Int32)), .val (.int (600 : Int32)), .val (.int (p0.toInt8.toInt32)), .val (.int (p1.toInt8.toInt32)), .val (.int (p2.toInt8.toInt32)), .val (.ref b64), .val (.ref b107), .unset, .unset, .unset, .unset] [(.ref b107)])
        refine k_pop G X at_145 (pc' := 146) rfl rfl ?_
        refine k_iload G X at_146 (pc' := 148) rfl rfl ?_
        refine k_if_eq G X at_148 (pc' := 155) rfl (by decide) (pc'' := 151) rfl (fun c148 => (absurd c148 (by decide))) (fun c148 => ?_)
        refine k_iconst G X at_151 (pc' := 152) rfl (z := (1 : Int32)) (by decide) ?_
        refine k_goto G X at_152 (by decide) (pc' := 156) rfl ?_
        refine k_istore G X at_156 (pc' := 158) rfl (l' := #[.val (.int p0), .val (.int p1), .val (.int p2), .val (.int p3), .val (.int (3 : Int32)), .val (.int (1 : Int32)), .val (.int (1 : Int32)), .val (.int (600 : Int32)), .val (.int (p0.toInt8.toInt32)), .val (.int (p1.toInt8.toInt32)), .val (.int (p2.toInt8.toInt32)), .val (.ref b64), .val (.ref b107), .val (.int (1 : Int32)), .unset, .unset, .unset]) rfl ?_
        refine k_aload G X at_158 (pc' := 160) rfl rfl rfl ?_
        refine k_callV G X (argsL := []) (rest := []) rfl X_b107 (w80 hw) (w81 hw) (nf_sel (w83 hw)) (w83 hw) (w82 hw) (w3 hw) (w84 hw) (by decide) (toB hw b107 b' kb' 602 1024 (602 : Int32) (1024 : Int32) _ h142 n0 O FB FL rfl rfl (by decide) (by decide) BA) at_160 pd10 rfl (pc' := 163) rfl rfl (wd := 0) rfl (by decide) (by decide) (by decide) (by decide) (fun T h160 v X q => ?_)
        obtain ⟨r160, kr160, rfl, sz_r160, K160, R160⟩ := q
        have ge_r160 : n0 ≤ r160 := Nat.le_trans (Old_le O) sz_r160
        have ne_aED_r160 : aED ≠ r160 := Nat.ne_of_lt (Nat.lt_of_lt_of_le EED.lt sz_r160)
        have ne_aDo_r160 : aDo ≠ r160 := Nat.ne_of_lt (Nat.lt_of_lt_of_le EDo.lt sz_r160)
        have ne_aEA_r160 : aEA ≠ r160 := Nat.ne_of_lt (Nat.lt_of_lt_of_le EEA.lt sz_r160)
        have ne_aAr_r160 : aAr ≠ r160 := Nat.ne_of_lt (Nat.lt_of_lt_of_le EAr.lt sz_r160)
        have ne_b107_r160 : b107 ≠ r160 := Nat.ne_of_lt (Nat.lt_of_lt_of_le X_b107.lt sz_r160)
        have ne_b'_r160 : b' ≠ r160 := Nat.ne_of_lt (Nat.lt_of_lt_of_le BA.lt sz_r160)
        have ne_sc_r160 : sc ≠ r160 := Nat.ne_of_lt (Nat.lt_of_lt_of_le SCA.lt sz_r160)
        replace S_ED := Jvm.OwnK.Sta_keep S_ED K160
        replace S_Do := Jvm.OwnK.Sta_keep S_Do K160
        replace S_EA := Jvm.OwnK.Sta_keep S_EA K160
        replace S_Ar := Jvm.OwnK.Sta_keep S_Ar K160
        replace O := O.keep K160 (all0)
        replace EED := EED.keep K160
        replace EDo := EDo.keep K160
        replace EEA := EEA.keep K160
        replace EAr := EAr.keep K160
        replace X_b107 := X_b107.keep K160
        replace FB := FB.keep K160 nin0
        replace FL := FL.keep K160 nin0
        replace FS := FS.keep K160 nin0
        replace FD := FD.keep K160 nin0
        replace BA := BA.keep K160 nin0
        replace SCA := SCA.keep K160 nin0
        show Go Γ n0 _ T (mkF Γ.m 163 #[.val (.int p0), .val (.int p1), .val (.int p2), .val (.int p3), .val (.int (3 : Int32)), .val (.int (1 : Int32)), .val (.int (1 : Int32)), .val (.int (600 : Int32)), .val (.int (p0.toInt8.toInt32)), .val (.int (p1.toInt8.toInt32)), .val (.int (p2.toInt8.toInt32)), .val (.ref b64), .val (.ref b107), .val (.int (1 : Int32)), .unset, .unset, .unset] [(.ref r160)])
        refine k_astore G X at_163 (pc' := 165) rfl rfl (l' := #[.val (.int p0), .val (.int p1), .val (.int p2), .val (.int p3), .val (.int (3 : Int32)), .val (.int (1 : Int32)), .val (.int (1 : Int32)), .val (.int (600 : Int32)), .val (.int (p0.toInt8.toInt32)), .val (.int (p1.toInt8.toInt32)), .val (.int (p2.toInt8.toInt32)), .val (.ref b64), .val (.ref b107), .val (.int (1 : Int32)), .val (.ref r160), .unset, .unset]) rfl ?_
        refine k_aload G X at_165 (pc' := 167) rfl rfl rfl ?_
        refine k_iload G X at_167 (pc' := 169) rfl rfl ?_
        refine k_iload G X at_169 (pc' := 171) rfl rfl ?_
        refine k_iload G X at_171 (pc' := 173) rfl rfl ?_
        refine k_iload G X at_173 (pc' := 175) rfl rfl ?_
        refine k_iload G X at_175 (pc' := 177) rfl rfl ?_
        refine k_iload G X at_177 (pc' := 179) rfl rfl ?_
        refine k_callS G X (argsL := [(.ref r160), (.int (600 : Int32)), (.int (1 : Int32)), (.int (p0.toInt8.toInt32)), (.int (p1.toInt8.toInt32)), (.int (p2.toInt8.toInt32)), (.int (1 : Int32))]) (rest := []) rfl (w94 hw) (w95 hw) (w96 hw) (w97 hw) (by decide) (chk_600_1 hw r160 kr160 _ (p0.toInt8.toInt32) (p1.toInt8.toInt32) (p2.toInt8.toInt32) h160 n0 R160 (by rfl) (by rfl) (by rfl) (by rfl) (by rfl) (by rfl)) at_179 pd11 rfl (pc' := 182) rfl rfl (wd := 0) rfl (by decide) (by decide) (by decide) (by decide) (fun T h179 v X q => ?_)
        obtain ⟨rfl, e179⟩ := q
        replace X := X.eq e179
        show Go Γ n0 _ T (mkF Γ.m 182 #[.val (.int p0), .val (.int p1), .val (.int p2), .val (.int p3), .val (.int (3 : Int32)), .val (.int (1 : Int32)), .val (.int (1 : Int32)), .val (.int (600 : Int32)), .val (.int (p0.toInt8.toInt32)), .val (.int (p1.toInt8.toInt32)), .val (.int (p2.toInt8.toInt32)), .val (.ref b64), .val (.ref b107), .val (.int (1 : Int32)), .val (.ref r160), .unset, .unset] [(.int (1 : Int32))])
        refine k_istore G X at_182 (pc' := 184) rfl (l' := #[.val (.int p0), .val (.int p1), .val (.int p2), .val (.int p3), .val (.int (3 : Int32)), .val (.int (1 : Int32)), .val (.int (1 : Int32)), .val (.int (600 : Int32)), .val (.int (p0.toInt8.toInt32)), .val (.int (p1.toInt8.toInt32)), .val (.int (p2.toInt8.toInt32)), .val (.ref b64), .val (.ref b107), .val (.int (1 : Int32)), .val (.ref r160), .val (.int (1 : Int32)), .unset]) rfl ?_
        refine k_aload G X at_184 (pc' := 186) rfl rfl rfl ?_
        refine k_alen G X (z := (602 : Int32)) R160 rfl at_186 (pc' := 187) rfl ?_
        refine k_if_le G X at_187 (pc' := 201) rfl (by decide) (pc'' := 190) rfl (fun c187 => (absurd c187 (by decide))) (fun c187 => ?_)
        refine k_aload G X at_190 (pc' := 192) rfl rfl rfl ?_
        refine k_iconst G X at_192 (pc' := 193) rfl (z := (0 : Int32)) (by decide) ?_
        refine k_aload G X at_193 (pc' := 195) rfl rfl rfl ?_
        refine k_iconst G X at_195 (pc' := 196) rfl (z := (0 : Int32)) (by decide) ?_
        refine k_baload G X (i := 0) (v := (.int (91 : Int32))) R160 rfl (by decide) (by rfl) at_196 (pc' := 197) rfl ?_
        refine k_iconst G X at_197 (pc' := 198) rfl (z := (1 : Int32)) (by decide) ?_
        refine k_ixor G X at_198 (pc' := 199) rfl (z := (90 : Int32)) (by decide) ?_
        refine k_i2b G X at_199 (pc' := 200) rfl (z := (90 : Int32)) (by decide) ?_
        refine k_bastore G X (i := 0) (z := ((90 : Int32))) R160 rfl (by decide) (by simp [nar]) ge_r160 at_200 (pc' := 201) rfl (fun T h200 W200 R160 X => ?_)
        replace O := O.wr W200 ge_r160
        replace S_ED := S_ED.wr W200
        replace S_Do := S_Do.wr W200
        replace S_EA := S_EA.wr W200
        replace S_Ar := S_Ar.wr W200
        replace EED := EED.wr W200
        replace EDo := EDo.wr W200
        replace EEA := EEA.wr W200
        replace EAr := EAr.wr W200
        replace X_b107 := X_b107.wr W200
        replace FB := FB.other W200 (Or.inl ne_b107_r160)
        replace FL := FL.other W200 (Or.inl ne_b107_r160)
        replace FS := FS.other W200 (Or.inl ne_b107_r160)
        replace FD := FD.other W200 (Or.inl ne_b107_r160)
        replace BA := BA.other W200 ne_b'_r160
        replace SCA := SCA.other W200 ne_sc_r160
        refine k_aload G X at_201 (pc' := 203) rfl rfl rfl ?_
        refine k_callV G X (argsL := []) (rest := []) rfl X_b107 (w80 hw) (w81 hw) (nf_sel (w83 hw)) (w83 hw) (w82 hw) (w3 hw) (w84 hw) (by decide) (toB hw b107 b' kb' 602 1024 (602 : Int32) (1024 : Int32) _ h200 n0 O FB FL rfl rfl (by decide) (by decide) BA) at_203 pd10 rfl (pc' := 206) rfl rfl (wd := 0) rfl (by decide) (by decide) (by decide) (by decide) (fun T h203 v X q => ?_)
        obtain ⟨r203, kr203, rfl, sz_r203, K203, R203⟩ := q
        have ge_r203 : n0 ≤ r203 := Nat.le_trans (Old_le O) sz_r203
        replace S_ED := Jvm.OwnK.Sta_keep S_ED K203
        replace S_Do := Jvm.OwnK.Sta_keep S_Do K203
        replace S_EA := Jvm.OwnK.Sta_keep S_EA K203
        replace S_Ar := Jvm.OwnK.Sta_keep S_Ar K203
        replace O := O.keep K203 (all0)
        replace EED := EED.keep K203
        replace EDo := EDo.keep K203
        replace EEA := EEA.keep K203
        replace EAr := EAr.keep K203
        replace X_b107 := X_b107.keep K203
        replace FB := FB.keep K203 nin0
        replace FL := FL.keep K203 nin0
        replace FS := FS.keep K203 nin0
        replace FD := FD.keep K203 nin0
        replace BA := BA.keep K203 nin0
        replace SCA := SCA.keep K203 nin0
        replace R160 := R160.keep K203 nin0
        show Go Γ n0 _ T (mkF Γ.m 206 #[.val (.int p0), .val (.int p1), .val (.int p2), .val (.int p3), .val (.int (3 : Int32)), .val (.int (1 : Int32)), .val (.int (1 : Int32)), .val (.int (600 : Int32)), .val (.int (p0.toInt8.toInt32)), .val (.int (p1.toInt8.toInt32)), .val (.int (p2.toInt8.toInt32)), .val (.ref b64), .val (.ref b107), .val (.int (1 : Int32)), .val (.ref r160), .val (.int (1 : Int32)), .unset] [(.ref r203)])
        refine k_astore G X at_206 (pc' := 208) rfl rfl (l' := #[.val (.int p0), .val (.int p1), .val (.int p2), .val (.int p3), .val (.int (3 : Int32)), .val (.int (1 : Int32)), .val (.int (1 : Int32)), .val (.int (600 : Int32)), .val (.int (p0.toInt8.toInt32)), .val (.int (p1.toInt8.toInt32)), .val (.int (p2.toInt8.toInt32)), .val (.ref b64), .val (.ref b107), .val (.int (1 : Int32)), .val (.ref r160), .val (.int (1 : Int32)), .val (.ref r203)]) rfl ?_
        refine k_iload G X at_208 (pc' := 210) rfl rfl ?_
        refine k_if_eq G X at_210 (pc' := 237) rfl (by decide) (pc'' := 213) rfl (fun c210 => (absurd c210 (by decide))) (fun c210 => ?_)
        refine k_aload G X at_213 (pc' := 215) rfl rfl rfl ?_
        refine k_iload G X at_215 (pc' := 217) rfl rfl ?_
        refine k_iload G X at_217 (pc' := 219) rfl rfl ?_
        refine k_iload G X at_219 (pc' := 221) rfl rfl ?_
        refine k_iload G X at_221 (pc' := 223) rfl rfl ?_
        refine k_iload G X at_223 (pc' := 225) rfl rfl ?_
        refine k_iload G X at_225 (pc' := 227) rfl rfl ?_
        refine k_callS G X (argsL := [(.ref r203), (.int (600 : Int32)), (.int (1 : Int32)), (.int (p0.toInt8.toInt32)), (.int (p1.toInt8.toInt32)), (.int (p2.toInt8.toInt32)), (.int (1 : Int32))]) (rest := []) rfl (w94 hw) (w95 hw) (w96 hw) (w97 hw) (by decide) (chk_600_1 hw r203 kr203 _ (p0.toInt8.toInt32) (p1.toInt8.toInt32) (p2.toInt8.toInt32) h203 n0 R203 (by rfl) (by rfl) (by rfl) (by rfl) (by rfl) (by rfl)) at_227 pd11 rfl (pc' := 230) rfl rfl (wd := 0) rfl (by decide) (by decide) (by decide) (by decide) (fun T h227 v X q => ?_)
        obtain ⟨rfl, e227⟩ := q
        replace X := X.eq e227
        show Go Γ n0 _ T (mkF Γ.m 230 #[.val (.int p0), .val (.int p1), .val (.int p2), .val (.int p3), .val (.int (3 : Int32)), .val (.int (1 : Int32)), .val (.int (1 : Int32)), .val (.int (600 : Int32)), .val (.int (p0.toInt8.toInt32)), .val (.int (p1.toInt8.toInt32)), .val (.int (p2.toInt8.toInt32)), .val (.ref b64), .val (.ref b107), .val (.int (1 : Int32)), .val (.ref r160), .val (.int (1 : Int32)), .val (.ref r203)] [(.int (1 : Int32))])
        refine k_if_eq G X at_230 (pc' := 237) rfl (by decide) (pc'' := 233) rfl (fun c230 => (absurd c230 (by decide))) (fun c230 => ?_)
        refine k_iconst G X at_233 (pc' := 234) rfl (z := (1 : Int32)) (by decide) ?_
        refine k_goto G X at_234 (by decide) (pc' := 238) rfl ?_
        refine k_retb G X at_238 (t := .boolean) rfl (by simp) rfl ?_ (by decide) (by decide)
        rfl
set_option maxRecDepth 65536 in
set_option maxHeartbeats 40000000 in
theorem comes_1 {Post : Tables → Env → Array Value → State → Outcome → State → Prop} (hpost : ∀ tb e args s v u, (limb_1_1.after args s (.returned v) u = true ∧ limb_1_2.after args s (.returned v) u = true ∧ True) → FrameEnd s (.returned v) u (Jvm.fieldLocs frame_1_writes args s ++ Jvm.arrayLocs frame_1_arrays args s ++ Jvm.staticLocs frame_1_statics s) 32 6912 → Post tb e args s (.returned v) u) :
    ArmFor flags0 classFile x code maxLocals ret World_1 tables_1 room_1 Calls_1 rest_1 Pre_1 Post := by
  intro l hfl _ _ p e ha hc hk s m args below hf hA hF happ hP
  obtain ⟨hcalls, hrest, hpre⟩ := hP
  obtain ⟨-, -, -, hnamed, -, -, -, hat⟩ := (Spec.applies_iff hf).mp happ
  obtain ⟨hg, hn⟩ := and_e (Cond.before_iff.mp (show (Jvm.Cond.and given_1 narrow_1).before args s = true from hpre))
  obtain ⟨hg0, hgr0⟩ := and_e hg
  obtain ⟨hg1, hgr1⟩ := and_e hgr0
  obtain ⟨hg2, hgr2⟩ := and_e hgr1
  obtain ⟨hg3, hgr3⟩ := and_e hgr2
  obtain ⟨w0', w1', w2', w3', rfl⟩ : ∃ w0' w1' w2' w3' : Value, args = #[w0', w1', w2', w3'] := by
    have hs : args.size = 4 := by simpa [Cond.value, given_1] using hg0
    obtain ⟨L⟩ := args
    match L, hs with
    | [w0', w1', w2', w3'], _ => exact ⟨w0', w1', w2', w3', rfl⟩
  have hw : HW _ s := fun d (hd : d ∈ tables_1) => atoms_spec (ws := Jvm.Cond.code x code maxLocals ret :: tables_1) hat d (List.mem_cons_of_mem _ hd)
  have hfit : Fit s := fun {y c} hc i hi => by
    obtain ⟨ha, rfl⟩ := Array.getElem?_eq_some_iff.mp hc
    have q := List.all_eq_true.mp ((Array.all_eq_true_iff_forall_mem.mp hF) _ (Array.getElem_mem ha)) i (List.mem_range.mpr hi)
    simpa [Array.getElem?_eq_getElem hi] using q
  obtain ⟨i0, ei0⟩ := is_v hg1
  obtain rfl : w0' = (.int i0) := Option.some.inj ei0
  obtain ⟨i1, ei1⟩ := is_v hg2
  obtain rfl : w1' = (.int i1) := Option.some.inj ei1
  obtain ⟨i2, ei2⟩ := is_v hg3
  obtain rfl : w2' = (.int i2) := Option.some.inj ei2
  obtain ⟨i3, ei3⟩ := is_v hgr3
  obtain rfl : w3' = (.int i3) := Option.some.inj ei3
  obtain ⟨h_xED, hm0⟩ := and_e hn
  obtain ⟨h_oED, hm1⟩ := and_e hm0
  obtain ⟨h_xDo, hm2⟩ := and_e hm1
  obtain ⟨h_xEA, hm3⟩ := and_e hm2
  obtain ⟨h_oEA, hm4⟩ := and_e hm3
  obtain ⟨h_xAr, hm5⟩ := and_e hm4
  obtain ⟨h_oAr, hm6⟩ := and_e hm5
  obtain ⟨aED, S_ED, E_ED, ev_ED⟩ := s_exa h_xED (w43 hw) (w44 hw)
  obtain ⟨aDo, S_Do, E_Do, ev_Do⟩ := s_exa h_xDo (w43 hw) (w65 hw)
  obtain ⟨aEA, S_EA, E_EA, ev_EA⟩ := s_exa h_xEA (w43 hw) (w111 hw)
  obtain ⟨aAr, S_Ar, E_Ar, ev_Ar⟩ := s_exa h_xAr (w43 hw) (w117 hw)
  have O_ED := s_fldI ev_ED h_oED
  have O_EA := s_fldI ev_EA h_oEA
  obtain ⟨n, o, h1, h2, h3, _, L, rfl, ⟨rfl, N⟩, hq⟩ := rm0 hw i0 i1 i2 i3 aED aDo aEA aAr s.heap s.heap.size (Old.start s) S_ED S_Do S_EA S_Ar E_ED E_Do E_EA E_Ar O_ED O_EA l p e ha hc hk s m _ below hf ((Spec.applies_iff_loose hf).mp happ).1 ⟨rfl, State.Warmed39.refl s, rfl⟩ trivial
  exact ⟨n, _, h1, h2, h3, hpost _ _ _ _ _ _ ⟨Cond.after_iff.mpr rfl, Cond.after_iff.mpr (eq_i res_at (Term.int_eval (1)) rfl), trivial⟩ ⟨hq.1, hq.2.1, (hq.2.2.sift fun y hy => Or.inr (N y hy)).mono (by decide) (by decide)⟩⟩
theorem main_1_1 : Claimed_1_1 := comes_1 fun _ _ _ _ _ _ h hF => ⟨h.1, hF⟩
theorem main_1_2 : Claimed_1_2 := comes_1 fun _ _ _ _ _ _ h hF => ⟨h.2.1, hF⟩
end Jvm.Pilot.@@N@@
namespace Jvm.Pilot.@@N@@
open Jvm Jvm.ClassFile Sem Op Lib Jvm.Free Jvm.Stand Jvm.Pilot.@@N@@.Jvm.D
/-! MADE BY PROGRAM (witnessworld.py) out of the Statement's table words and the real class files: 21 classes; the members and pool entries that the words name. The judged class is class 1, her method 2. -/
namespace start1
open Jvm.ClassFile
def u (s : String) : CpInfo := .utf8 (stringToUtf16 s)
/-- a pool by its gaps: so many unusable entries, then the entry; so many at the end -/
def gap : Nat → List CpInfo → List CpInfo
  | 0, r => r
  | n + 1, r => .unusable :: gap n r
def poolList (es : List (Nat × CpInfo)) (last : Nat) : List CpInfo := es.foldr (fun e r => gap e.1 (e.2 :: r)) (gap last [])
def pool (es : List (Nat × CpInfo)) (last : Nat) : Array CpInfo := ⟨poolList es last⟩
def fileOf (pool : Array CpInfo) (this : Nat) (attrs : Array Attribute := #[]) (ms : Array MethodInfo := #[]) (fl : Nat := 33) (sup : Nat := 0) (ifs : Array Nat := #[]) (fds : Array FieldInfo := #[]) : ClassFile where
  minorVersion := 0
  majorVersion := 65
  constantPool := pool
  accessFlags := fl
  thisClass := this
  superClass := sup
  interfaces := ifs
  fields := fds
  methods := ms
  attributes := attrs
def plain (name : String) (sup : Option ClassId) : Class where
  name := name
  kind := .ordinary
  loader := none
  accessFlags := 33
  super := sup
  interfaces := #[]
  cf := none
  fields := #[]
  methods := #[]
  instanceTypes := #[]
  staticTypes := #[]
  resolved := #[]
  callSites := []
  init := .initialized
  statics := none
  mirror := none

def pool0 : Array CpInfo := pool [(5, u "<init>"), (0, u "()V"), (1, .class_ 10), (1, u "java/lang/Object")] 113

def k0c0 : Code := { maxStack := 0, maxLocals := 1, code := object_method_1_code, exceptionTable := #[], attributes := #[] }
def k0m0 : Method := { name := "<init>", desc := "()V", sig := { parameters := [], returnType := none }, accessFlags := 1, code := some k0c0 }
/-- java/lang/Object -/
def k0 : Class := { plain "java/lang/Object" none with
  accessFlags := 33
  interfaces := #[]
  cf := some (fileOf pool0 8 #[] #[{ accessFlags := 1, nameIndex := 5, descriptorIndex := 6, attributes := #[] }] 33 0 #[] #[])
  fields := #[]
  methods := #[k0m0]
  instanceTypes := #[]
  staticTypes := #[]
  resolved := Array.replicate 124 none
  statics := none }

def pool1 : Array CpInfo := pool [(2, .class_ 4), (0, .nameAndType 5 6), (0, u "java/lang/Object"), (0, u "<init>"), (0, u "()V"), (0, .class_ 8), (0, u "com/example/changeline/changeline/format/JsonOutput"), (0, .methodref 7 3), (0, .methodref 7 11), (0, .nameAndType 12 13), (0, u "beginArray"), (0, u "()Lcom/example/changeline/changeline/format/JsonOutput;"), (0, .methodref 7 15), (0, .nameAndType 16 17), (0, u "jsonValue"), (0, u "([B)Lcom/example/changeline/changeline/format/JsonOutput;"), (0, .methodref 7 19), (0, .nameAndType 20 13), (0, u "endArray"), (0, .methodref 7 22), (0, .nameAndType 23 24), (0, u "toBytes"), (0, u "()[B"), (0, .methodref 26 27), (0, .class_ 28), (0, .nameAndType 29 30), (0, u "com/example/changeline/changeline/format/JsonOutputToBytesPinLaw"), (0, u "check"), (0, u "([BIIBBBZ)Z"), (3, u "law"), (0, u "(IIII)Z")] 4

def k1m0 : Method := { name := "<init>", desc := "()V", sig := { parameters := [], returnType := none }, accessFlags := 2, code := none }
def k1c1 : Code := { maxStack := 3, maxLocals := 8, code := method_2_code, exceptionTable := #[], attributes := #[] }
def k1m1 : Method := { name := "check", desc := "([BIIBBBZ)Z", sig := { parameters := [(.array .byte), .int, .int, .byte, .byte, .byte, .boolean], returnType := some .boolean }, accessFlags := 10, code := some k1c1 }
def k1c2 : Code := { maxStack := 7, maxLocals := 17, code := code, exceptionTable := #[], attributes := #[] }
def k1m2 : Method := { name := "law", desc := "(IIII)Z", sig := { parameters := [.int, .int, .int, .int], returnType := some .boolean }, accessFlags := 9, code := some k1c2 }
/-- com/example/changeline/changeline/format/JsonOutputToBytesPinLaw -/
def k1 : Class := { plain "com/example/changeline/changeline/format/JsonOutputToBytesPinLaw" (some 0) with
  accessFlags := 49
  interfaces := #[]
  cf := some (fileOf pool1 26 #[] #[{ accessFlags := 2, nameIndex := 5, descriptorIndex := 6, attributes := #[] }, { accessFlags := 10, nameIndex := 29, descriptorIndex := 30, attributes := #[] }, { accessFlags := 9, nameIndex := 34, descriptorIndex := 35, attributes := #[] }] 49 2 #[] #[])
  fields := #[]
  methods := #[k1m0, k1m1, k1m2]
  instanceTypes := #[]
  staticTypes := #[]
  resolved := Array.replicate 40 none
  statics := none }

def pool2 : Array CpInfo := pool [(1, .methodref 2 3), (0, .class_ 4), (0, .nameAndType 5 6), (0, u "java/lang/Object"), (0, u "<init>"), (0, u "()V"), (0, .class_ 8), (0, u "java/util/IdentityHashMap"), (0, .methodref 7 3), (0, .fieldref 11 12), (0, .class_ 13), (0, .nameAndType 14 15), (0, u "com/example/changeline/changeline/format/JsonOutput"), (0, u "names"), (0, u "Ljava/util/Map;"), (0, .fieldref 11 17), (0, .nameAndType 18 19), (0, u "bytes"), (0, u "[B"), (0, .class_ 21), (0, u "com/example/changeline/changeline/format/JsonOutput$Scope"), (0, .fieldref 11 23), (0, .nameAndType 24 25), (0, u "scopes"), (0, u "[Lcom/example/changeline/changeline/format/JsonOutput$Scope;"), (0, .fieldref 11 27), (0, .nameAndType 28 29), (0, u "depth"), (0, u "I"), (0, .fieldref 20 31), (0, .nameAndType 32 33), (0, u "EMPTY_DOCUMENT"), (0, u "Lcom/example/changeline/changeline/format/JsonOutput$Scope;"), (1, .fieldref 11 36), (0, .nameAndType 37 29), (0, u "length"), (0, .methodref 11 39), (0, .nameAndType 40 6), (0, u "beforeValue"), (0, .methodref 11 42), (0, .nameAndType 43 44), (0, u "put"), (0, u "(C)V"), (3, .methodref 11 49), (0, .nameAndType 50 51), (0, u "push"), (0, u "(Lcom/example/changeline/changeline/format/JsonOutput$Scope;)V"), (3, .methodref 11 56), (0, .nameAndType 57 58), (0, u "close"), (0, u "(Lcom/example/changeline/changeline/format/JsonOutput$Scope;Lcom/example/changeline/changeline/format/JsonOutput$Scope;)V"), (0, .fieldref 20 60), (0, .nameAndType 61 33), (0, u "EMPTY_ARRAY"), (0, .fieldref 20 63), (0, .nameAndType 64 33), (0, u "ARRAY"), (14, .methodref 11 80), (0, .nameAndType 43 81), (0, u "([B)V"), (6, u "()I"), (1, .class_ 92), (1, u "java/util/Arrays"), (11, u "()Lcom/example/changeline/changeline/format/JsonOutput;"), (0, .methodref 11 106), (0, .nameAndType 107 108), (0, u "ensure"), (0, u "(I)V"), (6, u "TRUE"), (2, u "FALSE"), (2, u "NULL"), (14, u "jsonValue"), (0, u "([B)Lcom/example/changeline/changeline/format/JsonOutput;"), (0, .methodref 90 139), (0, .nameAndType 140 141), (0, u "copyOf"), (0, u "([BI)[B"), (3, .methodref 20 146), (0, .nameAndType 147 88), (0, u "ordinal"), (0, .fieldref 20 149), (0, .nameAndType 150 33), (0, u "DOCUMENT"), (19, .class_ 172), (1, u "java/lang/Math"), (1, u "(II)I"), (6, u "ESCAPES"), (21, u "HEX_DIGITS"), (0, .methodref 205 206), (0, .class_ 207), (0, .nameAndType 208 209), (0, u "java/lang/System"), (0, u "arraycopy"), (0, u "(Ljava/lang/Object;ILjava/lang/Object;II)V"), (0, .methodref 170 211), (0, .nameAndType 212 174), (0, u "max"), (15, u "INITIAL_CAPACITY"), (2, u "KEPT_CAPACITY"), (0, u "KEPT_NAMES"), (1, u "CHUNK_CHARS"), (0, u "MAX_CHAR_BYTES"), (1, u "MAX_LONG_BYTES"), (1, u "LINE_SEPARATOR"), (0, u "C"), (1, u "PARAGRAPH_SEPARATOR"), (9, u "beginArray"), (0, u "endArray"), (5, u "toBytes"), (0, u "()[B")] 22

def k2c0 : Code := { maxStack := 5, maxLocals := 1, code := prog_29_method_1_code, exceptionTable := #[], attributes := #[] }
def k2m0 : Method := { name := "<init>", desc := "()V", sig := { parameters := [], returnType := none }, accessFlags := 0, code := some k2c0 }
def k2c1 : Code := { maxStack := 2, maxLocals := 1, code := prog_29_method_5_code, exceptionTable := #[], attributes := #[] }
def k2m1 : Method := { name := "beginArray", desc := "()Lcom/example/changeline/changeline/format/JsonOutput;", sig := { parameters := [], returnType := some (.object "com/example/changeline/changeline/format/JsonOutput") }, accessFlags := 0, code := some k2c1 }
def k2c2 : Code := { maxStack := 3, maxLocals := 1, code := prog_29_method_6_code, exceptionTable := #[], attributes := #[] }
def k2m2 : Method := { name := "endArray", desc := "()Lcom/example/changeline/changeline/format/JsonOutput;", sig := { parameters := [], returnType := some (.object "com/example/changeline/changeline/format/JsonOutput") }, accessFlags := 0, code := some k2c2 }
def k2c3 : Code := { maxStack := 2, maxLocals := 2, code := prog_29_method_13_code, exceptionTable := #[], attributes := #[] }
def k2m3 : Method := { name := "jsonValue", desc := "([B)Lcom/example/changeline/changeline/format/JsonOutput;", sig := { parameters := [(.array .byte)], returnType := some (.object "com/example/changeline/changeline/format/JsonOutput") }, accessFlags := 0, code := some k2c3 }
def k2c4 : Code := { maxStack := 2, maxLocals := 1, code := prog_29_method_14_code, exceptionTable := #[], attributes := #[] }
def k2m4 : Method := { name := "toBytes", desc := "()[B", sig := { parameters := [], returnType := some (.array .byte) }, accessFlags := 0, code := some k2c4 }
def k2c5 : Code := { maxStack := 3, maxLocals := 2, code := prog_29_method_16_code, exceptionTable := #[], attributes := #[] }
def k2m5 : Method := { name := "beforeValue", desc := "()V", sig := { parameters := [], returnType := none }, accessFlags := 2, code := some k2c5 }
def k2c6 : Code := { maxStack := 5, maxLocals := 2, code := prog_29_method_17_code, exceptionTable := #[], attributes := #[] }
def k2m6 : Method := { name := "push", desc := "(Lcom/example/changeline/changeline/format/JsonOutput$Scope;)V", sig := { parameters := [(.object "com/example/changeline/changeline/format/JsonOutput$Scope")], returnType := none }, accessFlags := 2, code := some k2c6 }
def k2c7 : Code := { maxStack := 4, maxLocals := 4, code := prog_29_method_18_code, exceptionTable := #[], attributes := #[] }
def k2m7 : Method := { name := "close", desc := "(Lcom/example/changeline/changeline/format/JsonOutput$Scope;Lcom/example/changeline/changeline/format/JsonOutput$Scope;)V", sig := { parameters := [(.object "com/example/changeline/changeline/format/JsonOutput$Scope"), (.object "com/example/changeline/changeline/format/JsonOutput$Scope")], returnType := none }, accessFlags := 2, code := some k2c7 }
def k2c8 : Code := { maxStack := 5, maxLocals := 2, code := prog_29_method_21_code, exceptionTable := #[], attributes := #[] }
def k2m8 : Method := { name := "put", desc := "(C)V", sig := { parameters := [.char], returnType := none }, accessFlags := 2, code := some k2c8 }
def k2c9 : Code := { maxStack := 5, maxLocals := 2, code := prog_29_method_22_code, exceptionTable := #[], attributes := #[] }
def k2m9 : Method := { name := "put", desc := "([B)V", sig := { parameters := [(.array .byte)], returnType := none }, accessFlags := 2, code := some k2c9 }
def k2c10 : Code := { maxStack := 5, maxLocals := 2, code := prog_29_method_23_code, exceptionTable := #[], attributes := #[] }
def k2m10 : Method := { name := "ensure", desc := "(I)V", sig := { parameters := [.int], returnType := none }, accessFlags := 2, code := some k2c10 }
/-- com/example/changeline/changeline/format/JsonOutput -/
def k2 : Class := { plain "com/example/changeline/changeline/format/JsonOutput" (some 0) with
  accessFlags := 48
  interfaces := #[]
  cf := some (fileOf pool2 11 #[.nestMembers #[20]] #[{ accessFlags := 0, nameIndex := 5, descriptorIndex := 6, attributes := #[] }, { accessFlags := 0, nameIndex := 252, descriptorIndex := 104, attributes := #[] }, { accessFlags := 0, nameIndex := 253, descriptorIndex := 104, attributes := #[] }, { accessFlags := 0, nameIndex := 136, descriptorIndex := 137, attributes := #[] }, { accessFlags := 0, nameIndex := 259, descriptorIndex := 260, attributes := #[] }, { accessFlags := 2, nameIndex := 40, descriptorIndex := 6, attributes := #[] }, { accessFlags := 2, nameIndex := 50, descriptorIndex := 51, attributes := #[] }, { accessFlags := 2, nameIndex := 57, descriptorIndex := 58, attributes := #[] }, { accessFlags := 2, nameIndex := 43, descriptorIndex := 44, attributes := #[] }, { accessFlags := 2, nameIndex := 43, descriptorIndex := 81, attributes := #[] }, { accessFlags := 2, nameIndex := 107, descriptorIndex := 108, attributes := #[] }] 48 2 #[] #[{ accessFlags := 26, nameIndex := 228, descriptorIndex := 29, attributes := #[] }, { accessFlags := 26, nameIndex := 231, descriptorIndex := 29, attributes := #[] }, { accessFlags := 26, nameIndex := 232, descriptorIndex := 29, attributes := #[] }, { accessFlags := 26, nameIndex := 234, descriptorIndex := 29, attributes := #[] }, { accessFlags := 26, nameIndex := 235, descriptorIndex := 29, attributes := #[] }, { accessFlags := 26, nameIndex := 237, descriptorIndex := 29, attributes := #[] }, { accessFlags := 26, nameIndex := 239, descriptorIndex := 240, attributes := #[] }, { accessFlags := 26, nameIndex := 242, descriptorIndex := 240, attributes := #[] }, { accessFlags := 26, nameIndex := 203, descriptorIndex := 19, attributes := #[] }, { accessFlags := 26, nameIndex := 121, descriptorIndex := 19, attributes := #[] }, { accessFlags := 26, nameIndex := 115, descriptorIndex := 19, attributes := #[] }, { accessFlags := 26, nameIndex := 118, descriptorIndex := 19, attributes := #[] }, { accessFlags := 26, nameIndex := 181, descriptorIndex := 19, attributes := #[] }, { accessFlags := 18, nameIndex := 14, descriptorIndex := 15, attributes := #[] }, { accessFlags := 2, nameIndex := 18, descriptorIndex := 19, attributes := #[] }, { accessFlags := 2, nameIndex := 37, descriptorIndex := 29, attributes := #[] }, { accessFlags := 2, nameIndex := 24, descriptorIndex := 25, attributes := #[] }, { accessFlags := 2, nameIndex := 28, descriptorIndex := 29, attributes := #[] }])
  fields := #[{ name := "INITIAL_CAPACITY", type := .int, accessFlags := 26, slot := 0, constantValue := 0 }, { name := "KEPT_CAPACITY", type := .int, accessFlags := 26, slot := 1, constantValue := 0 }, { name := "KEPT_NAMES", type := .int, accessFlags := 26, slot := 2, constantValue := 0 }, { name := "CHUNK_CHARS", type := .int, accessFlags := 26, slot := 3, constantValue := 0 }, { name := "MAX_CHAR_BYTES", type := .int, accessFlags := 26, slot := 4, constantValue := 0 }, { name := "MAX_LONG_BYTES", type := .int, accessFlags := 26, slot := 5, constantValue := 0 }, { name := "LINE_SEPARATOR", type := .char, accessFlags := 26, slot := 6, constantValue := 0 }, { name := "PARAGRAPH_SEPARATOR", type := .char, accessFlags := 26, slot := 7, constantValue := 0 }, { name := "HEX_DIGITS", type := (.array .byte), accessFlags := 26, slot := 8, constantValue := 0 }, { name := "NULL", type := (.array .byte), accessFlags := 26, slot := 9, constantValue := 0 }, { name := "TRUE", type := (.array .byte), accessFlags := 26, slot := 10, constantValue := 0 }, { name := "FALSE", type := (.array .byte), accessFlags := 26, slot := 11, constantValue := 0 }, { name := "ESCAPES", type := (.array .byte), accessFlags := 26, slot := 12, constantValue := 0 }, { name := "names", type := (.object "java/util/Map"), accessFlags := 18, slot := 0, constantValue := 0 }, { name := "bytes", type := (.array .byte), accessFlags := 2, slot := 1, constantValue := 0 }, { name := "length", type := .int, accessFlags := 2, slot := 2, constantValue := 0 }, { name := "scopes", type := (.array (.object "com/example/changeline/changeline/format/JsonOutput$Scope")), accessFlags := 2, slot := 3, constantValue := 0 }, { name := "depth", type := .int, accessFlags := 2, slot := 4, constantValue := 0 }]
  methods := #[k2m0, k2m1, k2m2, k2m3, k2m4, k2m5, k2m6, k2m7, k2m8, k2m9, k2m10]
  instanceTypes := #[(.object "java/util/Map"), (.array .byte), .int, (.array (.object "com/example/changeline/changeline/format/JsonOutput$Scope")), .int]
  staticTypes := #[.int, .int, .int, .int, .int, .int, .char, .char, (.array .byte), (.array .byte), (.array .byte), (.array .byte), (.array .byte)]
  resolved := Array.replicate 283 none
  statics := none }

def pool3 : Array CpInfo := pool [(2, .class_ 4), (1, u "java/util/Map"), (31, .class_ 37), (0, u "java/util/Map$Entry"), (55, .class_ 94), (0, u "java/lang/Object")] 168

/-- java/util/Map -/
def k3 : Class := { plain "java/util/Map" (some 0) with
  accessFlags := 1537
  interfaces := #[]
  cf := some (fileOf pool3 2 #[.nestMembers #[36]] #[] 1537 93 #[] #[])
  fields := #[]
  methods := #[]
  instanceTypes := #[]
  staticTypes := #[]
  resolved := Array.replicate 263 none
  statics := none }

def pool4 : Array CpInfo := pool [(1, .methodref 2 3), (0, .class_ 4), (0, .nameAndType 5 6), (0, u "java/lang/Object"), (0, u "<init>"), (0, u "()V"), (1, .class_ 10), (1, u "java/util/AbstractMap"), (42, .class_ 54), (0, u "java/util/Map"), (9, u "keySet"), (0, u "Ljava/util/Set;"), (0, .class_ 67), (0, u "java/util/AbstractMap$1"), (5, u "values"), (0, u "Ljava/util/Collection;"), (0, .class_ 76), (0, u "java/util/AbstractMap$2"), (104, .class_ 182), (0, u "java/util/AbstractMap$ViewCollection"), (0, .class_ 184), (0, u "java/util/AbstractMap$SimpleImmutableEntry"), (0, .class_ 186), (0, u "java/util/AbstractMap$SimpleEntry"), (0, .class_ 188), (0, u "java/util/AbstractMap$2$1"), (0, .class_ 190), (0, u "java/util/AbstractMap$1$1")] 5

def k4c0 : Code := { maxStack := 1, maxLocals := 1, code := jdk_71_method_1_code, exceptionTable := #[], attributes := #[] }
def k4m0 : Method := { name := "<init>", desc := "()V", sig := { parameters := [], returnType := none }, accessFlags := 4, code := some k4c0 }
/-- java/util/AbstractMap -/
def k4 : Class := { plain "java/util/AbstractMap" (some 0) with
  accessFlags := 1057
  interfaces := #[3]
  cf := some (fileOf pool4 8 #[.nestMembers #[181, 183, 185, 75, 187, 66, 189]] #[{ accessFlags := 4, nameIndex := 5, descriptorIndex := 6, attributes := #[] }] 1057 2 #[53] #[{ accessFlags := 128, nameIndex := 64, descriptorIndex := 65, attributes := #[] }, { accessFlags := 128, nameIndex := 73, descriptorIndex := 74, attributes := #[] }])
  fields := #[{ name := "keySet", type := (.object "java/util/Set"), accessFlags := 128, slot := 0, constantValue := 0 }, { name := "values", type := (.object "java/util/Collection"), accessFlags := 128, slot := 1, constantValue := 0 }]
  methods := #[k4m0]
  instanceTypes := #[(.object "java/util/Set"), (.object "java/util/Collection")]
  staticTypes := #[]
  resolved := Array.replicate 196 none
  statics := none }

def pool5 : Array CpInfo := pool [(1, .class_ 2), (0, u "java/io/Serializable"), (0, .class_ 4), (0, u "java/lang/Object")] 2

/-- java/io/Serializable -/
def k5 : Class := { plain "java/io/Serializable" (some 0) with
  accessFlags := 1537
  interfaces := #[]
  cf := some (fileOf pool5 1 #[] #[] 1537 3 #[] #[])
  fields := #[]
  methods := #[]
  instanceTypes := #[]
  staticTypes := #[]
  resolved := Array.replicate 7 none
  statics := none }

def pool6 : Array CpInfo := pool [(1, .class_ 2), (0, u "java/lang/Cloneable"), (0, .class_ 4), (0, u "java/lang/Object")] 2

/-- java/lang/Cloneable -/
def k6 : Class := { plain "java/lang/Cloneable" (some 0) with
  accessFlags := 1537
  interfaces := #[]
  cf := some (fileOf pool6 1 #[] #[] 1537 3 #[] #[])
  fields := #[]
  methods := #[]
  instanceTypes := #[]
  staticTypes := #[]
  resolved := Array.replicate 7 none
  statics := none }

def pool7 : Array CpInfo := pool [(2, .class_ 4), (1, u "java/util/IdentityHashMap"), (0, u "NULL_KEY"), (0, u "Ljava/lang/Object;"), (0, .methodref 8 9), (0, .class_ 10), (0, .nameAndType 11 12), (0, u "java/util/AbstractMap"), (0, u "<init>"), (0, u "()V"), (0, .methodref 2 14), (0, .nameAndType 15 16), (0, u "init"), (0, u "(I)V"), (32, .class_ 50), (0, u "java/lang/Object"), (0, .fieldref 2 52), (0, .nameAndType 53 54), (0, u "table"), (0, u "[Ljava/lang/Object;"), (1, .class_ 58), (1, u "java/util/Map"), (0, u "size"), (11, u "I"), (24, u "modCount"), (9, u "entrySet"), (50, u "Ljava/util/Set;"), (12, .class_ 171), (0, u "java/util/IdentityHashMap$KeySet"), (7, .class_ 180), (0, u "java/util/IdentityHashMap$Values"), (1, .class_ 183), (0, u "java/util/IdentityHashMap$EntrySet"), (69, .class_ 254), (0, u "java/io/Serializable"), (0, .class_ 256), (0, u "java/lang/Cloneable"), (0, u "DEFAULT_CAPACITY"), (2, u "MINIMUM_CAPACITY"), (1, u "MAXIMUM_CAPACITY"), (2, u "serialVersionUID"), (0, u "J"), (102, .class_ 370), (0, u "java/util/IdentityHashMap$EntrySpliterator"), (0, .class_ 372), (0, u "java/util/IdentityHashMap$ValueSpliterator"), (0, .class_ 374), (0, u "java/util/IdentityHashMap$KeySpliterator"), (0, .class_ 376), (0, u "java/util/IdentityHashMap$IdentityHashMapSpliterator"), (0, .class_ 378), (0, u "java/util/IdentityHashMap$EntryIterator"), (0, .class_ 380), (0, u "java/util/IdentityHashMap$EntryIterator$Entry"), (0, .class_ 382), (0, u "java/util/IdentityHashMap$ValueIterator"), (0, .class_ 384), (0, u "java/util/IdentityHashMap$KeyIterator"), (0, .class_ 386), (0, u "java/util/IdentityHashMap$IdentityHashMapIterator")] 16

def k7c0 : Code := { maxStack := 2, maxLocals := 1, code := jdk_2581_method_3_code, exceptionTable := #[], attributes := #[] }
def k7m0 : Method := { name := "<init>", desc := "()V", sig := { parameters := [], returnType := none }, accessFlags := 1, code := some k7c0 }
def k7c1 : Code := { maxStack := 3, maxLocals := 2, code := jdk_2581_method_6_code, exceptionTable := #[], attributes := #[] }
def k7m1 : Method := { name := "init", desc := "(I)V", sig := { parameters := [.int], returnType := none }, accessFlags := 2, code := some k7c1 }
/-- java/util/IdentityHashMap -/
def k7 : Class := { plain "java/util/IdentityHashMap" (some 4) with
  accessFlags := 33
  interfaces := #[3, 5, 6]
  cf := some (fileOf pool7 2 #[.nestMembers #[369, 371, 373, 375, 182, 179, 170, 377, 379, 381, 383, 385]] #[{ accessFlags := 1, nameIndex := 11, descriptorIndex := 12, attributes := #[] }, { accessFlags := 2, nameIndex := 15, descriptorIndex := 16, attributes := #[] }] 33 8 #[56, 253, 255] #[{ accessFlags := 26, nameIndex := 257, descriptorIndex := 71, attributes := #[] }, { accessFlags := 26, nameIndex := 260, descriptorIndex := 71, attributes := #[] }, { accessFlags := 26, nameIndex := 262, descriptorIndex := 71, attributes := #[] }, { accessFlags := 128, nameIndex := 53, descriptorIndex := 54, attributes := #[] }, { accessFlags := 0, nameIndex := 59, descriptorIndex := 71, attributes := #[] }, { accessFlags := 128, nameIndex := 96, descriptorIndex := 71, attributes := #[] }, { accessFlags := 24, nameIndex := 5, descriptorIndex := 6, attributes := #[] }, { accessFlags := 130, nameIndex := 106, descriptorIndex := 157, attributes := #[] }, { accessFlags := 26, nameIndex := 265, descriptorIndex := 266, attributes := #[] }])
  fields := #[{ name := "DEFAULT_CAPACITY", type := .int, accessFlags := 26, slot := 0, constantValue := 0 }, { name := "MINIMUM_CAPACITY", type := .int, accessFlags := 26, slot := 1, constantValue := 0 }, { name := "MAXIMUM_CAPACITY", type := .int, accessFlags := 26, slot := 2, constantValue := 0 }, { name := "table", type := (.array (.object "java/lang/Object")), accessFlags := 128, slot := 2, constantValue := 0 }, { name := "size", type := .int, accessFlags := 0, slot := 3, constantValue := 0 }, { name := "modCount", type := .int, accessFlags := 128, slot := 4, constantValue := 0 }, { name := "NULL_KEY", type := (.object "java/lang/Object"), accessFlags := 24, slot := 3, constantValue := 0 }, { name := "entrySet", type := (.object "java/util/Set"), accessFlags := 130, slot := 5, constantValue := 0 }, { name := "serialVersionUID", type := .long, accessFlags := 26, slot := 4, constantValue := 0 }]
  methods := #[k7m0, k7m1]
  instanceTypes := #[(.object "java/util/Set"), (.object "java/util/Collection"), (.array (.object "java/lang/Object")), .int, .int, (.object "java/util/Set")]
  staticTypes := #[.int, .int, .int, (.object "java/lang/Object"), .long]
  resolved := Array.replicate 403 none
  statics := none }

def pool8 : Array CpInfo := pool [(1, .class_ 2), (0, u "java/lang/constant/Constable"), (0, .class_ 4), (0, u "java/lang/Object")] 6

/-- java/lang/constant/Constable -/
def k8 : Class := { plain "java/lang/constant/Constable" (some 0) with
  accessFlags := 1537
  interfaces := #[]
  cf := some (fileOf pool8 1 #[] #[] 1537 3 #[] #[])
  fields := #[]
  methods := #[]
  instanceTypes := #[]
  staticTypes := #[]
  resolved := Array.replicate 11 none
  statics := none }

def pool9 : Array CpInfo := pool [(1, .class_ 2), (0, u "java/lang/Comparable"), (0, .class_ 4), (0, u "java/lang/Object")] 7

/-- java/lang/Comparable -/
def k9 : Class := { plain "java/lang/Comparable" (some 0) with
  accessFlags := 1537
  interfaces := #[]
  cf := some (fileOf pool9 1 #[] #[] 1537 3 #[] #[])
  fields := #[]
  methods := #[]
  instanceTypes := #[]
  staticTypes := #[]
  resolved := Array.replicate 12 none
  statics := none }

def pool10 : Array CpInfo := pool [(2, .class_ 4), (1, u "java/lang/Enum"), (0, u "name"), (0, u "Ljava/lang/String;"), (0, .fieldref 2 8), (0, .nameAndType 9 10), (0, u "ordinal"), (0, u "I"), (1, .class_ 14), (1, u "java/lang/Object"), (4, u "hash"), (86, .class_ 108), (1, u "java/lang/Enum$EnumDesc"), (2, .class_ 112), (0, u "java/lang/constant/Constable"), (0, .class_ 114), (0, u "java/lang/Comparable"), (0, .class_ 116), (0, u "java/io/Serializable"), (9, u "()I")] 77

def k10c0 : Code := { maxStack := 1, maxLocals := 1, code := jdk_37_method_2_code, exceptionTable := #[], attributes := #[] }
def k10m0 : Method := { name := "ordinal", desc := "()I", sig := { parameters := [], returnType := some .int }, accessFlags := 17, code := some k10c0 }
/-- java/lang/Enum -/
def k10 : Class := { plain "java/lang/Enum" (some 0) with
  accessFlags := 1057
  interfaces := #[8, 9, 5]
  cf := some (fileOf pool10 2 #[.nestMembers #[106]] #[{ accessFlags := 17, nameIndex := 9, descriptorIndex := 126, attributes := #[] }] 1057 12 #[111, 113, 115] #[{ accessFlags := 18, nameIndex := 5, descriptorIndex := 6, attributes := #[] }, { accessFlags := 18, nameIndex := 9, descriptorIndex := 10, attributes := #[] }, { accessFlags := 2, nameIndex := 19, descriptorIndex := 10, attributes := #[] }])
  fields := #[{ name := "name", type := (.object "java/lang/String"), accessFlags := 18, slot := 0, constantValue := 0 }, { name := "ordinal", type := .int, accessFlags := 18, slot := 1, constantValue := 0 }, { name := "hash", type := .int, accessFlags := 2, slot := 2, constantValue := 0 }]
  methods := #[k10m0]
  instanceTypes := #[(.object "java/lang/String"), .int, .int]
  staticTypes := #[]
  resolved := Array.replicate 204 none
  statics := none }

def pool11 : Array CpInfo := pool [(1, .class_ 2), (0, u "com/example/changeline/changeline/format/JsonOutput$Scope"), (2, u "EMPTY_DOCUMENT"), (0, u "Lcom/example/changeline/changeline/format/JsonOutput$Scope;"), (2, u "DOCUMENT"), (2, u "EMPTY_OBJECT"), (2, u "OBJECT"), (2, u "NAMED"), (2, u "EMPTY_ARRAY"), (2, u "ARRAY"), (2, u "$VALUES"), (0, u "[Lcom/example/changeline/changeline/format/JsonOutput$Scope;"), (6, .class_ 37), (1, u "java/lang/Enum"), (30, .class_ 69), (0, u "com/example/changeline/changeline/format/JsonOutput")] 2

/-- com/example/changeline/changeline/format/JsonOutput$Scope -/
def k11 : Class := { plain "com/example/changeline/changeline/format/JsonOutput$Scope" (some 10) with
  accessFlags := 16432
  interfaces := #[]
  cf := some (fileOf pool11 1 #[.nestHost 68] #[] 16432 35 #[] #[{ accessFlags := 16409, nameIndex := 5, descriptorIndex := 6, attributes := #[] }, { accessFlags := 16409, nameIndex := 9, descriptorIndex := 6, attributes := #[] }, { accessFlags := 16409, nameIndex := 12, descriptorIndex := 6, attributes := #[] }, { accessFlags := 16409, nameIndex := 15, descriptorIndex := 6, attributes := #[] }, { accessFlags := 16409, nameIndex := 18, descriptorIndex := 6, attributes := #[] }, { accessFlags := 16409, nameIndex := 21, descriptorIndex := 6, attributes := #[] }, { accessFlags := 16409, nameIndex := 24, descriptorIndex := 6, attributes := #[] }, { accessFlags := 4122, nameIndex := 27, descriptorIndex := 28, attributes := #[] }])
  fields := #[{ name := "EMPTY_DOCUMENT", type := (.object "com/example/changeline/changeline/format/JsonOutput$Scope"), accessFlags := 16409, slot := 0, constantValue := 0 }, { name := "DOCUMENT", type := (.object "com/example/changeline/changeline/format/JsonOutput$Scope"), accessFlags := 16409, slot := 1, constantValue := 0 }, { name := "EMPTY_OBJECT", type := (.object "com/example/changeline/changeline/format/JsonOutput$Scope"), accessFlags := 16409, slot := 2, constantValue := 0 }, { name := "OBJECT", type := (.object "com/example/changeline/changeline/format/JsonOutput$Scope"), accessFlags := 16409, slot := 3, constantValue := 0 }, { name := "NAMED", type := (.object "com/example/changeline/changeline/format/JsonOutput$Scope"), accessFlags := 16409, slot := 4, constantValue := 0 }, { name := "EMPTY_ARRAY", type := (.object "com/example/changeline/changeline/format/JsonOutput$Scope"), accessFlags := 16409, slot := 5, constantValue := 0 }, { name := "ARRAY", type := (.object "com/example/changeline/changeline/format/JsonOutput$Scope"), accessFlags := 16409, slot := 6, constantValue := 0 }, { name := "$VALUES", type := (.array (.object "com/example/changeline/changeline/format/JsonOutput$Scope")), accessFlags := 4122, slot := 7, constantValue := 0 }]
  methods := #[]
  instanceTypes := #[(.object "java/lang/String"), .int, .int]
  staticTypes := #[(.object "com/example/changeline/changeline/format/JsonOutput$Scope"), (.object "com/example/changeline/changeline/format/JsonOutput$Scope"), (.object "com/example/changeline/changeline/format/JsonOutput$Scope"), (.object "com/example/changeline/changeline/format/JsonOutput$Scope"), (.object "com/example/changeline/changeline/format/JsonOutput$Scope"), (.object "com/example/changeline/changeline/format/JsonOutput$Scope"), (.object "com/example/changeline/changeline/format/JsonOutput$Scope"), (.array (.object "com/example/changeline/changeline/format/JsonOutput$Scope"))]
  resolved := Array.replicate 72 none
  statics := some 0 }

def pool12 : Array CpInfo := pool [(2, .class_ 4), (1, u "java/lang/Object"), (0, u "<init>"), (0, u "()V"), (1, .class_ 10), (1, u "java/lang/System"), (0, u "allowSecurityManager"), (0, u "I"), (16, u "cons"), (0, u "Ljava/io/Console;"), (77, .class_ 110), (1, u "java/lang/System$CallersHolder"), (43, u "initialErrStream"), (0, u "Ljava/io/PrintStream;"), (19, u "security"), (0, u "Ljava/lang/SecurityManager;"), (31, .class_ 209), (0, u "java/lang/System$1"), (7, u "props"), (0, u "Ljava/util/Properties;"), (2, u "lineSeparator"), (0, u "Ljava/lang/String;"), (96, .class_ 321), (1, u "java/lang/System$LoggerFinder"), (5, .class_ 328), (0, u "java/lang/System$Logger"), (67, u "err"), (2, u "out"), (91, u "notSupportedJnuEncoding"), (15, u "in"), (17, u "initialIn"), (0, u "Ljava/io/InputStream;"), (35, u "bootLayer"), (0, u "Ljava/lang/ModuleLayer;"), (99, .class_ 664), (0, u "java/lang/System$2"), (9, u "NEVER"), (2, u "MAYBE"), (49, u "arraycopy"), (0, u "(Ljava/lang/Object;ILjava/lang/Object;II)V"), (72, .class_ 802), (0, u "java/lang/System$Logger$Level")] 31

def k12m0 : Method := { name := "<init>", desc := "()V", sig := { parameters := [], returnType := none }, accessFlags := 2, code := none }
def k12m1 : Method := { name := "arraycopy", desc := "(Ljava/lang/Object;ILjava/lang/Object;II)V", sig := { parameters := [(.object "java/lang/Object"), .int, (.object "java/lang/Object"), .int, .int], returnType := none }, accessFlags := 265, code := none }
/-- java/lang/System -/
def k12 : Class := { plain "java/lang/System" (some 0) with
  accessFlags := 49
  interfaces := #[]
  cf := some (fileOf pool12 8 #[.nestMembers #[319, 327, 801, 108, 663, 208]] #[{ accessFlags := 2, nameIndex := 5, descriptorIndex := 6, attributes := #[] }, { accessFlags := 265, nameIndex := 727, descriptorIndex := 728, attributes := #[] }] 49 2 #[] #[{ accessFlags := 25, nameIndex := 507, descriptorIndex := 526, attributes := #[] }, { accessFlags := 25, nameIndex := 399, descriptorIndex := 155, attributes := #[] }, { accessFlags := 25, nameIndex := 396, descriptorIndex := 155, attributes := #[] }, { accessFlags := 10, nameIndex := 525, descriptorIndex := 526, attributes := #[] }, { accessFlags := 26, nameIndex := 674, descriptorIndex := 12, attributes := #[] }, { accessFlags := 26, nameIndex := 677, descriptorIndex := 12, attributes := #[] }, { accessFlags := 10, nameIndex := 11, descriptorIndex := 12, attributes := #[] }, { accessFlags := 74, nameIndex := 175, descriptorIndex := 176, attributes := #[] }, { accessFlags := 10, nameIndex := 491, descriptorIndex := 222, attributes := #[] }, { accessFlags := 74, nameIndex := 29, descriptorIndex := 30, attributes := #[] }, { accessFlags := 74, nameIndex := 154, descriptorIndex := 155, attributes := #[] }, { accessFlags := 10, nameIndex := 217, descriptorIndex := 218, attributes := #[] }, { accessFlags := 10, nameIndex := 221, descriptorIndex := 222, attributes := #[] }, { accessFlags := 8, nameIndex := 562, descriptorIndex := 563, attributes := #[] }])
  fields := #[{ name := "in", type := (.object "java/io/InputStream"), accessFlags := 25, slot := 0, constantValue := 0 }, { name := "out", type := (.object "java/io/PrintStream"), accessFlags := 25, slot := 1, constantValue := 0 }, { name := "err", type := (.object "java/io/PrintStream"), accessFlags := 25, slot := 2, constantValue := 0 }, { name := "initialIn", type := (.object "java/io/InputStream"), accessFlags := 10, slot := 3, constantValue := 0 }, { name := "NEVER", type := .int, accessFlags := 26, slot := 4, constantValue := 0 }, { name := "MAYBE", type := .int, accessFlags := 26, slot := 5, constantValue := 0 }, { name := "allowSecurityManager", type := .int, accessFlags := 10, slot := 6, constantValue := 0 }, { name := "security", type := (.object "java/lang/SecurityManager"), accessFlags := 74, slot := 7, constantValue := 0 }, { name := "notSupportedJnuEncoding", type := (.object "java/lang/String"), accessFlags := 10, slot := 8, constantValue := 0 }, { name := "cons", type := (.object "java/io/Console"), accessFlags := 74, slot := 9, constantValue := 0 }, { name := "initialErrStream", type := (.object "java/io/PrintStream"), accessFlags := 74, slot := 10, constantValue := 0 }, { name := "props", type := (.object "java/util/Properties"), accessFlags := 10, slot := 11, constantValue := 0 }, { name := "lineSeparator", type := (.object "java/lang/String"), accessFlags := 10, slot := 12, constantValue := 0 }, { name := "bootLayer", type := (.object "java/lang/ModuleLayer"), accessFlags := 8, slot := 13, constantValue := 0 }]
  methods := #[k12m0, k12m1]
  instanceTypes := #[]
  staticTypes := #[(.object "java/io/InputStream"), (.object "java/io/PrintStream"), (.object "java/io/PrintStream"), (.object "java/io/InputStream"), .int, .int, .int, (.object "java/lang/SecurityManager"), (.object "java/lang/String"), (.object "java/io/Console"), (.object "java/io/PrintStream"), (.object "java/util/Properties"), (.object "java/lang/String"), (.object "java/lang/ModuleLayer")]
  resolved := Array.replicate 834 none
  statics := none }

def pool13 : Array CpInfo := pool [(2, .class_ 4), (1, u "java/lang/Object"), (0, u "<init>"), (0, u "()V"), (7, .class_ 16), (1, u "java/util/Arrays"), (57, .class_ 76), (1, u "java/util/Arrays$NaturalOrder"), (36, .class_ 115), (1, u "java/util/Arrays$LegacyMergeSort"), (1, u "Z"), (32, .methodref 151 152), (0, .class_ 153), (0, .nameAndType 154 155), (0, u "java/lang/System"), (0, u "arraycopy"), (0, u "(Ljava/lang/Object;ILjava/lang/Object;II)V"), (146, u "copyOf"), (1, .methodref 305 306), (0, .class_ 307), (0, .nameAndType 308 309), (0, u "java/lang/Math"), (0, u "min"), (0, u "(II)I"), (65, .class_ 376), (0, u "java/util/Arrays$ArrayList"), (68, u "$assertionsDisabled"), (269, u "MIN_ARRAY_SORT_GRAN"), (0, u "I"), (2, u "INSERTIONSORT_THRESHOLD"), (149, u "([BI)[B"), (105, .class_ 976), (0, u "java/util/Arrays$ArrayItr")] 52

def k13m0 : Method := { name := "<init>", desc := "()V", sig := { parameters := [], returnType := none }, accessFlags := 2, code := none }
def k13c1 : Code := { maxStack := 6, maxLocals := 3, code := jdk_65_method_121_code, exceptionTable := #[], attributes := #[] }
def k13m1 : Method := { name := "copyOf", desc := "([BI)[B", sig := { parameters := [(.array .byte), .int], returnType := some (.array .byte) }, accessFlags := 9, code := some k13c1 }
/-- java/util/Arrays -/
def k13 : Class := { plain "java/util/Arrays" (some 0) with
  accessFlags := 49
  interfaces := #[]
  cf := some (fileOf pool13 14 #[.nestMembers #[975, 375, 113, 74]] #[{ accessFlags := 2, nameIndex := 5, descriptorIndex := 6, attributes := #[] }, { accessFlags := 9, nameIndex := 302, descriptorIndex := 869, attributes := #[] }] 49 2 #[] #[{ accessFlags := 26, nameIndex := 715, descriptorIndex := 716, attributes := #[] }, { accessFlags := 26, nameIndex := 719, descriptorIndex := 716, attributes := #[] }, { accessFlags := 4120, nameIndex := 445, descriptorIndex := 117, attributes := #[] }])
  fields := #[{ name := "MIN_ARRAY_SORT_GRAN", type := .int, accessFlags := 26, slot := 0, constantValue := 0 }, { name := "INSERTIONSORT_THRESHOLD", type := .int, accessFlags := 26, slot := 1, constantValue := 0 }, { name := "$assertionsDisabled", type := .boolean, accessFlags := 4120, slot := 2, constantValue := 0 }]
  methods := #[k13m0, k13m1]
  instanceTypes := #[]
  staticTypes := #[.int, .int, .boolean]
  resolved := Array.replicate 1029 none
  statics := none }

def pool14 : Array CpInfo := pool [(1, .class_ 2), (0, u "java/lang/Math"), (1, .class_ 6), (1, u "java/lang/Object"), (0, u "<init>"), (0, u "()V"), (89, .class_ 100), (1, u "java/lang/Math$RandomNumberGeneratorHolder"), (71, u "negativeZeroFloatBits"), (0, u "J"), (2, u "negativeZeroDoubleBits"), (21, u "max"), (2, u "min"), (43, u "$assertionsDisabled"), (0, u "Z"), (88, u "(II)I"), (2, u "twoToTheDoubleScaleDown"), (0, u "D"), (4, u "twoToTheDoubleScaleUp"), (9, u "E"), (3, u "PI"), (2, u "TAU"), (2, u "DEGREES_TO_RADIANS"), (0, u "RADIANS_TO_DEGREES")] 94

def k14m0 : Method := { name := "<init>", desc := "()V", sig := { parameters := [], returnType := none }, accessFlags := 2, code := none }
def k14c1 : Code := { maxStack := 2, maxLocals := 2, code := jdk_29_method_65_code, exceptionTable := #[], attributes := #[] }
def k14m1 : Method := { name := "max", desc := "(II)I", sig := { parameters := [.int, .int], returnType := some .int }, accessFlags := 9, code := some k14c1 }
def k14c2 : Code := { maxStack := 2, maxLocals := 2, code := jdk_29_method_69_code, exceptionTable := #[], attributes := #[] }
def k14m2 : Method := { name := "min", desc := "(II)I", sig := { parameters := [.int, .int], returnType := some .int }, accessFlags := 9, code := some k14c2 }
/-- java/lang/Math -/
def k14 : Class := { plain "java/lang/Math" (some 0) with
  accessFlags := 49
  interfaces := #[]
  cf := some (fileOf pool14 1 #[.nestMembers #[98]] #[{ accessFlags := 2, nameIndex := 7, descriptorIndex := 8, attributes := #[] }, { accessFlags := 9, nameIndex := 198, descriptorIndex := 335, attributes := #[] }, { accessFlags := 9, nameIndex := 201, descriptorIndex := 335, attributes := #[] }] 49 4 #[] #[{ accessFlags := 25, nameIndex := 354, descriptorIndex := 339, attributes := #[] }, { accessFlags := 25, nameIndex := 358, descriptorIndex := 339, attributes := #[] }, { accessFlags := 25, nameIndex := 361, descriptorIndex := 339, attributes := #[] }, { accessFlags := 26, nameIndex := 364, descriptorIndex := 339, attributes := #[] }, { accessFlags := 26, nameIndex := 365, descriptorIndex := 339, attributes := #[] }, { accessFlags := 26, nameIndex := 172, descriptorIndex := 173, attributes := #[] }, { accessFlags := 26, nameIndex := 176, descriptorIndex := 173, attributes := #[] }, { accessFlags := 8, nameIndex := 344, descriptorIndex := 339, attributes := #[] }, { accessFlags := 8, nameIndex := 338, descriptorIndex := 339, attributes := #[] }, { accessFlags := 4120, nameIndex := 245, descriptorIndex := 246, attributes := #[] }])
  fields := #[{ name := "E", type := .double, accessFlags := 25, slot := 0, constantValue := 0 }, { name := "PI", type := .double, accessFlags := 25, slot := 1, constantValue := 0 }, { name := "TAU", type := .double, accessFlags := 25, slot := 2, constantValue := 0 }, { name := "DEGREES_TO_RADIANS", type := .double, accessFlags := 26, slot := 3, constantValue := 0 }, { name := "RADIANS_TO_DEGREES", type := .double, accessFlags := 26, slot := 4, constantValue := 0 }, { name := "negativeZeroFloatBits", type := .long, accessFlags := 26, slot := 5, constantValue := 0 }, { name := "negativeZeroDoubleBits", type := .long, accessFlags := 26, slot := 6, constantValue := 0 }, { name := "twoToTheDoubleScaleUp", type := .double, accessFlags := 8, slot := 7, constantValue := 0 }, { name := "twoToTheDoubleScaleDown", type := .double, accessFlags := 8, slot := 8, constantValue := 0 }, { name := "$assertionsDisabled", type := .boolean, accessFlags := 4120, slot := 9, constantValue := 0 }]
  methods := #[k14m0, k14m1, k14m2]
  instanceTypes := #[]
  staticTypes := #[.double, .double, .double, .double, .double, .long, .long, .double, .double, .boolean]
  resolved := Array.replicate 460 none
  statics := none }

/-- the primitive byte -/
def k15 : Class := { plain "byte" none with kind := .primitive 'B', accessFlags := 0x411 }
/-- [B -/
def k16 : Class := { plain "[B" (some 0) with kind := .array 15 .byte, interfaces := #[6, 5], accessFlags := 1041 }

/-- the primitive int -/
def k17 : Class := { plain "int" none with kind := .primitive 'I', accessFlags := 0x411 }
/-- [I -/
def k18 : Class := { plain "[I" (some 0) with kind := .array 17 .int, interfaces := #[6, 5], accessFlags := 1041 }

/-- [Lcom/example/changeline/changeline/format/JsonOutput$Scope; -/
def k19 : Class := { plain "[Lcom/example/changeline/changeline/format/JsonOutput$Scope;" (some 0) with kind := .array 11 (.object "com/example/changeline/changeline/format/JsonOutput$Scope"), interfaces := #[6, 5], accessFlags := 1041 }

/-- [Ljava/lang/Object; -/
def k20 : Class := { plain "[Ljava/lang/Object;" (some 0) with kind := .array 0 (.object "java/lang/Object"), interfaces := #[6, 5], accessFlags := 1041 }

def heap : Heap := #[{ cls := 11, slots := #[.ref 1, .ref 2, .null, .null, .null, .ref 3, .ref 4, .null], vm := .statics 11 },
  { cls := 11, slots := #[.null, .int 0, .int 0], vm := .none },
  { cls := 11, slots := #[.null, .int 1, .int 0], vm := .none },
  { cls := 11, slots := #[.null, .int 5, .int 0], vm := .none },
  { cls := 11, slots := #[.null, .int 6, .int 0], vm := .none }]
def classes : Array Class := #[k0, k1, k2, k3, k4, k5, k6, k7, k8, k9, k10, k11, k12, k13, k14, k15, k16, k17, k18, k19, k20]
def interned : List (Array UInt16 × Addr) := []
def slotsUsed : Nat := 20
def theMethod : MethodId := ⟨1, 2⟩
def args0 : Array Value := #[.int 5, .int 6, .int 7, .int 8]
def aboutOver (below : List Frame) : State where
  vm := { classes := classes, interned := interned.toArray }
  heap := heap
  slotsUsed := slotsUsed
  threads := #[{ frames := .invoking theMethod args0 :: below }]
def below0 : List Frame := [.native { method := ⟨0, 0⟩, args := #[] }]
def about1 : State := aboutOver below0
def p0 : Program := .bare "" "" ""
def e0 : Env := launch0.env 0 0 0
theorem w_frames : about1.frames = Frame.invoking theMethod args0 :: below0 := rfl
set_option maxRecDepth 65536 in
theorem w_args : argsFit about1.vm theMethod args0 = true := by decide +kernel
set_option maxRecDepth 65536 in
theorem w_heap : heapFits about1 = true := by decide +kernel
set_option maxRecDepth 65536 in
theorem w_runnable : about1.curStatus? = some .runnable := by decide +kernel
set_option maxRecDepth 65536 in
theorem w_alone : about1.alone = true := by decide +kernel
set_option maxRecDepth 65536 in
theorem w_named : about1.methodNamed? x = some theMethod := by decide +kernel
set_option maxRecDepth 65536 in
theorem w_hears : about1.hears theMethod below0 = true := by decide +kernel
set_option maxRecDepth 65536 in
theorem w_ripe : about1.ripe theMethod args0 below0 = true := by decide +kernel
theorem w_running : about1.status = .running := rfl
set_option maxRecDepth 65536 in
theorem w_room : about1.hasRoom e0.platform room_1 = true :=
  launch0.hasRoom_least _ room_1 (by decide +kernel) (by decide +kernel) (by decide +kernel) (by decide +kernel) (by decide +kernel) (by decide +kernel)
theorem allAtoms_all (ts : List Jvm.Cond) (a : Array Jvm.Value) (st : Jvm.State) : (allAtoms ts).before a st = ts.all (fun c => c.before a st) := by
  induction ts with
  | nil => rfl
  | cons c t ih =>
    show (Jvm.Cond.and c (allAtoms t)).before a st = _
    rw [Jvm.Cond.before_and, ih, List.all_cons]
def words1 : List Jvm.Cond := Jvm.Cond.code x code maxLocals ret :: tables_1
/-- a 'code' word, met by the world's own term for the bytes: nothing is compared byte by byte -/
theorem code_word {y : MethodName} {bytes : ByteArray} {mx : Nat} {rt : Option FieldType} {a : Array Value} {s : State} {m : MethodId} {meth : Method} {c : Code} (h1 : s.methodNamed? y = some m) (h2 : s.vm.method? m = some meth) (h3 : meth.code = some c) (h4 : c.code = bytes)
    (h5 : (c.maxLocals == mx && c.exceptionTable.isEmpty && decide (c.maxStack ≤ mostOperands) && decide (meth.sig.returnType = rt) && !meth.locks && decide (parseMethodDescriptor y.desc = some meth.sig)) = true) : (Jvm.Cond.code y bytes mx rt).before a s = true := by
  simp only [Bool.and_eq_true, beq_iff_eq, Bool.not_eq_true', decide_eq_true_eq] at h5
  obtain ⟨⟨⟨⟨⟨g1, g2⟩, g3⟩, g4⟩, g5⟩, g6⟩ := h5
  simp [Cond.before, Cond.holds, Cond.value, h1, h2, h3, h4, g1, g2, g3, g4, g5, g6]
def isCode : Jvm.Cond → Bool
  | .code _ _ _ _ => true
  | _ => false
theorem all_split {L : List Jvm.Cond} {P : Jvm.Cond → Bool} (h1 : L.all (fun c => isCode c || P c) = true) (h2 : ∀ c ∈ L.filter isCode, P c = true) : L.all P = true := by
  refine List.all_eq_true.mpr fun c hc => ?_
  have h := List.all_eq_true.mp h1 c hc
  rcases Bool.eq_false_or_eq_true (isCode c) with hi | hi
  · exact h2 c (List.mem_filter.mpr ⟨hc, hi⟩)
  · simpa [hi] using h
set_option maxRecDepth 65536 in
theorem w_c0 : (Jvm.Cond.code x code maxLocals ret).before args0 about1 = true := code_word (m := ⟨1, 2⟩) (meth := k1m2) (c := k1c2) (by decide +kernel) rfl rfl rfl (by decide +kernel)
set_option maxRecDepth 65536 in
theorem w_c1 : (Jvm.Cond.code ({ cls := "com/example/changeline/changeline/format/JsonOutput", name := "<init>", desc := "()V" } : Jvm.MethodName) prog_29_method_1_code (1 : Nat) (Option.none : Option Jvm.ClassFile.FieldType)).before args0 about1 = true := code_word (m := ⟨2, 0⟩) (meth := k2m0) (c := k2c0) (by decide +kernel) rfl rfl rfl (by decide +kernel)
set_option maxRecDepth 65536 in
theorem w_c2 : (Jvm.Cond.code ({ cls := "java/lang/Object", name := "<init>", desc := "()V" } : Jvm.MethodName) object_method_1_code (1 : Nat) (Option.none : Option Jvm.ClassFile.FieldType)).before args0 about1 = true := code_word (m := ⟨0, 0⟩) (meth := k0m0) (c := k0c0) (by decide +kernel) rfl rfl rfl (by decide +kernel)
set_option maxRecDepth 65536 in
theorem w_c3 : (Jvm.Cond.code ({ cls := "java/util/IdentityHashMap", name := "<init>", desc := "()V" } : Jvm.MethodName) jdk_2581_method_3_code (1 : Nat) (Option.none : Option Jvm.ClassFile.FieldType)).before args0 about1 = true := code_word (m := ⟨7, 0⟩) (meth := k7m0) (c := k7c0) (by decide +kernel) rfl rfl rfl (by decide +kernel)
set_option maxRecDepth 65536 in
theorem w_c4 : (Jvm.Cond.code ({ cls := "java/util/AbstractMap", name := "<init>", desc := "()V" } : Jvm.MethodName) jdk_71_method_1_code (1 : Nat) (Option.none : Option Jvm.ClassFile.FieldType)).before args0 about1 = true := code_word (m := ⟨4, 0⟩) (meth := k4m0) (c := k4c0) (by decide +kernel) rfl rfl rfl (by decide +kernel)
set_option maxRecDepth 65536 in
theorem w_c5 : (Jvm.Cond.code ({ cls := "java/util/IdentityHashMap", name := "init", desc := "(I)V" } : Jvm.MethodName) jdk_2581_method_6_code (2 : Nat) (Option.none : Option Jvm.ClassFile.FieldType)).before args0 about1 = true := code_word (m := ⟨7, 1⟩) (meth := k7m1) (c := k7c1) (by decide +kernel) rfl rfl rfl (by decide +kernel)
set_option maxRecDepth 65536 in
theorem w_c6 : (Jvm.Cond.code ({ cls := "com/example/changeline/changeline/format/JsonOutput", name := "jsonValue", desc := "([B)Lcom/example/changeline/changeline/format/JsonOutput;" } : Jvm.MethodName) prog_29_method_13_code (2 : Nat) (Option.some (Jvm.ClassFile.FieldType.object "com/example/changeline/changeline/format/JsonOutput"))).before args0 about1 = true := code_word (m := ⟨2, 3⟩) (meth := k2m3) (c := k2c3) (by decide +kernel) rfl rfl rfl (by decide +kernel)
set_option maxRecDepth 65536 in
theorem w_c7 : (Jvm.Cond.code ({ cls := "com/example/changeline/changeline/format/JsonOutput", name := "beforeValue", desc := "()V" } : Jvm.MethodName) prog_29_method_16_code (2 : Nat) (Option.none : Option Jvm.ClassFile.FieldType)).before args0 about1 = true := code_word (m := ⟨2, 5⟩) (meth := k2m5) (c := k2c5) (by decide +kernel) rfl rfl rfl (by decide +kernel)
set_option maxRecDepth 65536 in
theorem w_c8 : (Jvm.Cond.code ({ cls := "java/lang/Enum", name := "ordinal", desc := "()I" } : Jvm.MethodName) jdk_37_method_2_code (1 : Nat) (Option.some Jvm.ClassFile.FieldType.int)).before args0 about1 = true := code_word (m := ⟨10, 0⟩) (meth := k10m0) (c := k10c0) (by decide +kernel) rfl rfl rfl (by decide +kernel)
set_option maxRecDepth 65536 in
theorem w_c9 : (Jvm.Cond.code ({ cls := "com/example/changeline/changeline/format/JsonOutput", name := "put", desc := "([B)V" } : Jvm.MethodName) prog_29_method_22_code (2 : Nat) (Option.none : Option Jvm.ClassFile.FieldType)).before args0 about1 = true := code_word (m := ⟨2, 9⟩) (meth := k2m9) (c := k2c9) (by decide +kernel) rfl rfl rfl (by decide +kernel)
set_option maxRecDepth 65536 in
theorem w_c10 : (Jvm.Cond.code ({ cls := "com/example/changeline/changeline/format/JsonOutput", name := "ensure", desc := "(I)V" } : Jvm.MethodName) prog_29_method_23_code (2 : Nat) (Option.none : Option Jvm.ClassFile.FieldType)).before args0 about1 = true := code_word (m := ⟨2, 10⟩) (meth := k2m10) (c := k2c10) (by decide +kernel) rfl rfl rfl (by decide +kernel)
set_option maxRecDepth 65536 in
theorem w_c11 : (Jvm.Cond.code ({ cls := "com/example/changeline/changeline/format/JsonOutput", name := "toBytes", desc := "()[B" } : Jvm.MethodName) prog_29_method_14_code (1 : Nat) (Option.some (Jvm.ClassFile.FieldType.array Jvm.ClassFile.FieldType.byte))).before args0 about1 = true := code_word (m := ⟨2, 4⟩) (meth := k2m4) (c := k2c4) (by decide +kernel) rfl rfl rfl (by decide +kernel)
set_option maxRecDepth 65536 in
theorem w_c12 : (Jvm.Cond.code ({ cls := "java/util/Arrays", name := "copyOf", desc := "([BI)[B" } : Jvm.MethodName) jdk_65_method_121_code (3 : Nat) (Option.some (Jvm.ClassFile.FieldType.array Jvm.ClassFile.FieldType.byte))).before args0 about1 = true := code_word (m := ⟨13, 1⟩) (meth := k13m1) (c := k13c1) (by decide +kernel) rfl rfl rfl (by decide +kernel)
set_option maxRecDepth 65536 in
theorem w_c13 : (Jvm.Cond.code ({ cls := "java/lang/Math", name := "min", desc := "(II)I" } : Jvm.MethodName) jdk_29_method_69_code (2 : Nat) (Option.some Jvm.ClassFile.FieldType.int)).before args0 about1 = true := code_word (m := ⟨14, 2⟩) (meth := k14m2) (c := k14c2) (by decide +kernel) rfl rfl rfl (by decide +kernel)
set_option maxRecDepth 65536 in
theorem w_c14 : (Jvm.Cond.code ({ cls := "com/example/changeline/changeline/format/JsonOutputToBytesPinLaw", name := "check", desc := "([BIIBBBZ)Z" } : Jvm.MethodName) method_2_code (8 : Nat) (Option.some Jvm.ClassFile.FieldType.boolean)).before args0 about1 = true := code_word (m := ⟨1, 1⟩) (meth := k1m1) (c := k1c1) (by decide +kernel) rfl rfl rfl (by decide +kernel)
set_option maxRecDepth 65536 in
theorem w_c15 : (Jvm.Cond.code ({ cls := "java/lang/Math", name := "max", desc := "(II)I" } : Jvm.MethodName) jdk_29_method_65_code (2 : Nat) (Option.some Jvm.ClassFile.FieldType.int)).before args0 about1 = true := code_word (m := ⟨14, 1⟩) (meth := k14m1) (c := k14c1) (by decide +kernel) rfl rfl rfl (by decide +kernel)
set_option maxRecDepth 65536 in
theorem w_c16 : (Jvm.Cond.code ({ cls := "com/example/changeline/changeline/format/JsonOutput", name := "beginArray", desc := "()Lcom/example/changeline/changeline/format/JsonOutput;" } : Jvm.MethodName) prog_29_method_5_code (1 : Nat) (Option.some (Jvm.ClassFile.FieldType.object "com/example/changeline/changeline/format/JsonOutput"))).before args0 about1 = true := code_word (m := ⟨2, 1⟩) (meth := k2m1) (c := k2c1) (by decide +kernel) rfl rfl rfl (by decide +kernel)
set_option maxRecDepth 65536 in
theorem w_c17 : (Jvm.Cond.code ({ cls := "com/example/changeline/changeline/format/JsonOutput", name := "put", desc := "(C)V" } : Jvm.MethodName) prog_29_method_21_code (2 : Nat) (Option.none : Option Jvm.ClassFile.FieldType)).before args0 about1 = true := code_word (m := ⟨2, 8⟩) (meth := k2m8) (c := k2c8) (by decide +kernel) rfl rfl rfl (by decide +kernel)
set_option maxRecDepth 65536 in
theorem w_c18 : (Jvm.Cond.code ({ cls := "com/example/changeline/changeline/format/JsonOutput", name := "push", desc := "(Lcom/example/changeline/changeline/format/JsonOutput$Scope;)V" } : Jvm.MethodName) prog_29_method_17_code (2 : Nat) (Option.none : Option Jvm.ClassFile.FieldType)).before args0 about1 = true := code_word (m := ⟨2, 6⟩) (meth := k2m6) (c := k2c6) (by decide +kernel) rfl rfl rfl (by decide +kernel)
set_option maxRecDepth 65536 in
theorem w_c19 : (Jvm.Cond.code ({ cls := "com/example/changeline/changeline/format/JsonOutput", name := "endArray", desc := "()Lcom/example/changeline/changeline/format/JsonOutput;" } : Jvm.MethodName) prog_29_method_6_code (1 : Nat) (Option.some (Jvm.ClassFile.FieldType.object "com/example/changeline/changeline/format/JsonOutput"))).before args0 about1 = true := code_word (m := ⟨2, 2⟩) (meth := k2m2) (c := k2c2) (by decide +kernel) rfl rfl rfl (by decide +kernel)
set_option maxRecDepth 65536 in
theorem w_c20 : (Jvm.Cond.code ({ cls := "com/example/changeline/changeline/format/JsonOutput", name := "close", desc := "(Lcom/example/changeline/changeline/format/JsonOutput$Scope;Lcom/example/changeline/changeline/format/JsonOutput$Scope;)V" } : Jvm.MethodName) prog_29_method_18_code (4 : Nat) (Option.none : Option Jvm.ClassFile.FieldType)).before args0 about1 = true := code_word (m := ⟨2, 7⟩) (meth := k2m7) (c := k2c7) (by decide +kernel) rfl rfl rfl (by decide +kernel)
def codes1 : List Jvm.Cond := [Jvm.Cond.code x code maxLocals ret, Jvm.Cond.code ({ cls := "com/example/changeline/changeline/format/JsonOutput", name := "<init>", desc := "()V" } : Jvm.MethodName) prog_29_method_1_code (1 : Nat) (Option.none : Option Jvm.ClassFile.FieldType), Jvm.Cond.code ({ cls := "java/lang/Object", name := "<init>", desc := "()V" } : Jvm.MethodName) object_method_1_code (1 : Nat) (Option.none : Option Jvm.ClassFile.FieldType), Jvm.Cond.code ({ cls := "java/util/IdentityHashMap", name := "<init>", desc := "()V" } : Jvm.MethodName) jdk_2581_method_3_code (1 : Nat) (Option.none : Option Jvm.ClassFile.FieldType), Jvm.Cond.code ({ cls := "java/util/AbstractMap", name := "<init>", desc := "()V" } : Jvm.MethodName) jdk_71_method_1_code (1 : Nat) (Option.none : Option Jvm.ClassFile.FieldType), Jvm.Cond.code ({ cls := "java/util/IdentityHashMap", name := "init", desc := "(I)V" } : Jvm.MethodName) jdk_2581_method_6_code (2 : Nat) (Option.none : Option Jvm.ClassFile.FieldType), Jvm.Cond.code ({ cls := "com/example/changeline/changeline/format/JsonOutput", name := "jsonValue", desc := "([B)Lcom/example/changeline/changeline/format/JsonOutput;" } : Jvm.MethodName) prog_29_method_13_code (2 : Nat) (Option.some (Jvm.ClassFile.FieldType.object "com/example/changeline/changeline/format/JsonOutput")), Jvm.Cond.code ({ cls := "com/example/changeline/changeline/format/JsonOutput", name := "beforeValue", desc := "()V" } : Jvm.MethodName) prog_29_method_16_code (2 : Nat) (Option.none : Option Jvm.ClassFile.FieldType), Jvm.Cond.code ({ cls := "java/lang/Enum", name := "ordinal", desc := "()I" } : Jvm.MethodName) jdk_37_method_2_code (1 : Nat) (Option.some Jvm.ClassFile.FieldType.int), Jvm.Cond.code ({ cls := "com/example/changeline/changeline/format/JsonOutput", name := "put", desc := "([B)V" } : Jvm.MethodName) prog_29_method_22_code (2 : Nat) (Option.none : Option Jvm.ClassFile.FieldType), Jvm.Cond.code ({ cls := "com/example/changeline/changeline/format/JsonOutput", name := "ensure", desc := "(I)V" } : Jvm.MethodName) prog_29_method_23_code (2 : Nat) (Option.none : Option Jvm.ClassFile.FieldType), Jvm.Cond.code ({ cls := "com/example/changeline/changeline/format/JsonOutput", name := "toBytes", desc := "()[B" } : Jvm.MethodName) prog_29_method_14_code (1 : Nat) (Option.some (Jvm.ClassFile.FieldType.array Jvm.ClassFile.FieldType.byte)), Jvm.Cond.code ({ cls := "java/util/Arrays", name := "copyOf", desc := "([BI)[B" } : Jvm.MethodName) jdk_65_method_121_code (3 : Nat) (Option.some (Jvm.ClassFile.FieldType.array Jvm.ClassFile.FieldType.byte)), Jvm.Cond.code ({ cls := "java/lang/Math", name := "min", desc := "(II)I" } : Jvm.MethodName) jdk_29_method_69_code (2 : Nat) (Option.some Jvm.ClassFile.FieldType.int), Jvm.Cond.code ({ cls := "com/example/changeline/changeline/format/JsonOutputToBytesPinLaw", name := "check", desc := "([BIIBBBZ)Z" } : Jvm.MethodName) method_2_code (8 : Nat) (Option.some Jvm.ClassFile.FieldType.boolean), Jvm.Cond.code ({ cls := "java/lang/Math", name := "max", desc := "(II)I" } : Jvm.MethodName) jdk_29_method_65_code (2 : Nat) (Option.some Jvm.ClassFile.FieldType.int), Jvm.Cond.code ({ cls := "com/example/changeline/changeline/format/JsonOutput", name := "beginArray", desc := "()Lcom/example/changeline/changeline/format/JsonOutput;" } : Jvm.MethodName) prog_29_method_5_code (1 : Nat) (Option.some (Jvm.ClassFile.FieldType.object "com/example/changeline/changeline/format/JsonOutput")), Jvm.Cond.code ({ cls := "com/example/changeline/changeline/format/JsonOutput", name := "put", desc := "(C)V" } : Jvm.MethodName) prog_29_method_21_code (2 : Nat) (Option.none : Option Jvm.ClassFile.FieldType), Jvm.Cond.code ({ cls := "com/example/changeline/changeline/format/JsonOutput", name := "push", desc := "(Lcom/example/changeline/changeline/format/JsonOutput$Scope;)V" } : Jvm.MethodName) prog_29_method_17_code (2 : Nat) (Option.none : Option Jvm.ClassFile.FieldType), Jvm.Cond.code ({ cls := "com/example/changeline/changeline/format/JsonOutput", name := "endArray", desc := "()Lcom/example/changeline/changeline/format/JsonOutput;" } : Jvm.MethodName) prog_29_method_6_code (1 : Nat) (Option.some (Jvm.ClassFile.FieldType.object "com/example/changeline/changeline/format/JsonOutput")), Jvm.Cond.code ({ cls := "com/example/changeline/changeline/format/JsonOutput", name := "close", desc := "(Lcom/example/changeline/changeline/format/JsonOutput$Scope;Lcom/example/changeline/changeline/format/JsonOutput$Scope;)V" } : Jvm.MethodName) prog_29_method_18_code (4 : Nat) (Option.none : Option Jvm.ClassFile.FieldType)]
set_option maxRecDepth 65536 in
theorem codes_eq : words1.filter isCode = codes1 := rfl
theorem w_codes : ∀ c ∈ words1.filter isCode, c.before args0 about1 = true := by
  rw [codes_eq]
  intro c hc
  simp only [codes1, List.mem_cons, List.not_mem_nil, or_false] at hc
  rcases hc with rfl | rfl | rfl | rfl | rfl | rfl | rfl | rfl | rfl | rfl | rfl | rfl | rfl | rfl | rfl | rfl | rfl | rfl | rfl | rfl | rfl
  · exact w_c0
  · exact w_c1
  · exact w_c2
  · exact w_c3
  · exact w_c4
  · exact w_c5
  · exact w_c6
  · exact w_c7
  · exact w_c8
  · exact w_c9
  · exact w_c10
  · exact w_c11
  · exact w_c12
  · exact w_c13
  · exact w_c14
  · exact w_c15
  · exact w_c16
  · exact w_c17
  · exact w_c18
  · exact w_c19
  · exact w_c20
set_option maxRecDepth 65536 in
theorem w_t1 : (words1.take 24).all (fun c => isCode c || c.before args0 about1) = true := by decide +kernel
set_option maxRecDepth 65536 in
theorem w_t2 : ((words1.drop 24).take 24).all (fun c => isCode c || c.before args0 about1) = true := by decide +kernel
set_option maxRecDepth 65536 in
theorem w_t3 : (((words1.drop 24).drop 24).take 24).all (fun c => isCode c || c.before args0 about1) = true := by decide +kernel
set_option maxRecDepth 65536 in
theorem w_t4 : ((((words1.drop 24).drop 24).drop 24).take 24).all (fun c => isCode c || c.before args0 about1) = true := by decide +kernel
set_option maxRecDepth 65536 in
theorem w_t5 : (((((words1.drop 24).drop 24).drop 24).drop 24).take 24).all (fun c => isCode c || c.before args0 about1) = true := by decide +kernel
set_option maxRecDepth 65536 in
theorem w_t6 : (((((words1.drop 24).drop 24).drop 24).drop 24).drop 24).all (fun c => isCode c || c.before args0 about1) = true := by decide +kernel
theorem w_tables : (allAtoms (Jvm.Cond.code x code maxLocals ret :: tables_1)).before args0 about1 = true := by
  rw [allAtoms_all]
  show words1.all (fun c => c.before args0 about1) = true
  refine all_split ?_ w_codes
  rw [← List.take_append_drop 24 words1, List.all_append, w_t1, ← List.take_append_drop 24 (words1.drop 24), List.all_append, w_t2, ← List.take_append_drop 24 ((words1.drop 24).drop 24), List.all_append, w_t3, ← List.take_append_drop 24 (((words1.drop 24).drop 24).drop 24), List.all_append, w_t4, ← List.take_append_drop 24 ((((words1.drop 24).drop 24).drop 24).drop 24), List.all_append, w_t5, w_t6]
  rfl
set_option maxRecDepth 65536 in
theorem w_case : (Jvm.Cond.and given_1 narrow_1).before args0 about1 = true := by decide +kernel
theorem w_applies : (headSpec (Jvm.Cond.code x code maxLocals ret :: tables_1) room_1).applies x e0.platform about1 = true :=
  (Spec.applies_iff w_frames).mpr ⟨w_running, w_runnable, w_alone, w_named, w_hears, w_ripe, w_room, w_tables⟩
theorem atStart : AtStart classFile x code maxLocals ret World_1 tables_1 room_1 Calls_1 rest_1 Pre_1 launch0 p0 e0 about1 theMethod args0 below0 :=
  ⟨lists_1, trivial, launch0.admits_env _ _ _, launch0.least_env, fairChoices_fair.cas, fairChoices_fair.clock, w_frames, w_args, w_heap, w_applies, trivial, trivial, w_case⟩
end start1
theorem witness_1 : WitnessClaimed_1 := ⟨start1.p0, start1.e0, start1.about1, start1.theMethod, start1.args0, start1.below0, start1.atStart⟩
end Jvm.Pilot.@@N@@
