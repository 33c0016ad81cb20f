import JvmDerived
import JvmDerived.Pilot.@@N@@Statement
import JvmDerived.Pilot.@@N@@Code
set_option linter.unusedVariables false
set_option linter.unusedSimpArgs false
namespace Jvm.OwnK
open Sem ClassFile Op Lib Jvm.Stand Jvm.Free Jvm.LawKit Jvm.RoadKit
/-! a walk's surroundings: program, launch, environment, room, state at the call, method, arguments, frames below, the method's record and code -/
abbrev Cx : Type := Program × Launch × Env × Room × State × MethodId × Array Value × List Frame × Method × Code
abbrev Cx.p (Γ : Cx) : Program := Γ.1
abbrev Cx.l (Γ : Cx) : Launch := Γ.2.1
abbrev Cx.e (Γ : Cx) : Env := Γ.2.2.1
abbrev Cx.R (Γ : Cx) : Room := Γ.2.2.2.1
abbrev Cx.s (Γ : Cx) : State := Γ.2.2.2.2.1
abbrev Cx.m (Γ : Cx) : MethodId := Γ.2.2.2.2.2.1
abbrev Cx.args (Γ : Cx) : Array Value := Γ.2.2.2.2.2.2.1
abbrev Cx.below (Γ : Cx) : List Frame := Γ.2.2.2.2.2.2.2.1
abbrev Cx.meth (Γ : Cx) : Method := Γ.2.2.2.2.2.2.2.2.1
abbrev Cx.c (Γ : Cx) : Code := Γ.2.2.2.2.2.2.2.2.2
/-- what stays the same all along a walk -/
def Ctx (Γ : Cx) (Z : State) (own : String) (bytes : ByteArray) (maxl : Nat) (ret : Option FieldType) (nm : String) (rm : Room) (hs : Heap) : Prop :=
  Γ.p.tables.exec = Jvm.exec ∧ Z.Warmed39 Γ.s.vm ∧ Γ.s.vm.findClass own = some Γ.m.cls ∧ Γ.c.code = bytes ∧ Γ.c.maxLocals = maxl ∧ Γ.meth.sig.returnType = ret ∧ Γ.meth.name = nm ∧ Γ.meth.locks = false ∧ Γ.R = rm ∧ Γ.s.heap = hs
/-- where the walk stands: the state T with the heap h; at most C cells and S slots made; what was written lies in cells made since the law began -/
def W (Γ : Cx) (n0 : Nat) (T : State) (h : Heap) (C S : Nat) : Prop := ∃ locs, Stand Γ.p Γ.l Γ.e Γ.R Γ.s Γ.m Γ.args Γ.below Γ.meth Γ.c T locs C S ∧ T.heap = h ∧ Fr n0 locs
/-- from here the run comes to the method's end with what Q says -/
def Go (Γ : Cx) (n0 : Nat) (Q : Option Value → Heap → Prop) (T : State) (f : JFrame) : Prop :=
  ∃ s₂ o, Steps Γ.p.tables Γ.e Γ.below (T.setTop f) s₂ ∧ s₂.status = .running ∧ Ended s₂ Γ.below o ∧ ∃ v L, o = .returned v ∧ (Q v s₂.heap ∧ Fr n0 L) ∧ FrameEnd Γ.s o s₂ L Γ.R.cells Γ.R.slots
/-- a body's contract: called with these arguments at this heap it returns with what Q says -/
def MetW (Z : State) (y : MethodName) (bytes : ByteArray) (maxl : Nat) (ret : Option FieldType) (ws : List Cond) (rm : Room) (as' : Array Value) (h0 : Heap) (n0 : Nat) (Q : Option Value → Heap → Prop) : Prop :=
  ∀ l : Launch, MetFree l y (head1 (Cond.code y bytes maxl ret :: ws) rm) (fun a U => a = as' ∧ Z.Warmed39 U.vm ∧ U.heap = h0) (fun _ _ _ _ _ => True) (fun _ U o U' => ∃ v L, o = .returned v ∧ (Q v U'.heap ∧ Fr n0 L) ∧ FrameEnd U o U' L rm.cells rm.slots)
abbrev Met (Z : State) (y : MethodName) (bytes : ByteArray) (maxl : Nat) (ret : Option FieldType) (rm : Room) (as' : Array Value) (h0 : Heap) (n0 : Nat) (Q : Option Value → Heap → Prop) : Prop := MetW Z y bytes maxl ret [] rm as' h0 n0 Q
section K
variable {Γ : Cx} {Z : State} {own nm : String} {bytes : ByteArray} {maxl : Nat} {ret : Option FieldType} {rm : Room} {n0 : Nat} {T : State} {h hs0 : Heap} {C S : Nat} {Q : Option Value → Heap → Prop} {Ls : Array Slot} {st : List Value} {pc pc' : Nat}
theorem k_body {y : MethodName} {ws : List Cond} {as' : Array Value} {f : MethodId → JFrame} (hx : plainFor y = true) (hf : ∀ m, entryFrame m as' maxl = f m)
    (body : ∀ (Γ : Cx) (T : State), Ctx Γ Z y.cls bytes maxl ret y.name rm h → W Γ n0 T h 0 0 → Go Γ n0 Q T (f Γ.m)) : MetW Z y bytes maxl ret ws rm as' h n0 Q := by
  intro l
  refine MetFree.of_bodySF (ret := ret) hx hisR ?_
  intro p e s m args below meth c s₁ Bd hml0 hP hK
  obtain ⟨rfl, hZ, hh⟩ := hP
  have X0 : Stand p l e rm s m args below meth c s₁ [] 0 0 := Stand.of_body Bd
  have e0 : s₁.heap = h := by rw [← hh, Bd.state]; rfl
  have g := body (p, l, e, rm, s, m, args, below, meth, c) s₁ ⟨Bd.exec, hZ, findClass_of_methodNamed Bd.named, Bd.bytes, hml0, Bd.returns, (name_of_methodNamed Bd.named Bd.method).1, Bd.notSynchronized, rfl, hh⟩ ⟨[], X0, e0, Fr.nil n0⟩
  rw [← hf] at g
  exact g
theorem Go.of {T' : State} {f f' : JFrame} (k : ∀ target, Steps Γ.p.tables Γ.e Γ.below (T'.setTop f') target → Steps Γ.p.tables Γ.e Γ.below (T.setTop f) target) (K : Go Γ n0 Q T' f') : Go Γ n0 Q T f := by
  obtain ⟨s₂, o, h1, r⟩ := K
  exact ⟨s₂, o, k _ h1, r⟩
theorem Go.mono {Q' : Option Value → Heap → Prop} {f : JFrame} (K : Go Γ n0 Q T f) (q : ∀ v h, Q v h → Q' v h) : Go Γ n0 Q' T f := by
  obtain ⟨s₂, o, h1, h2, h3, v, L, h4, ⟨h5, h6⟩, h7⟩ := K
  exact ⟨s₂, o, h1, h2, h3, v, L, h4, ⟨q _ _ h5, h6⟩, h7⟩
theorem W.more {C' S' : Nat} (X : W Γ n0 T h C S) (hc : C ≤ C') (hs : S ≤ S') : W Γ n0 T h C' S' := by
  obtain ⟨L, X, r⟩ := X; exact ⟨L, X.more hc hs, r⟩
theorem MetW.mono {y : MethodName} {ws : List Cond} {as' : Array Value} {Q' : Option Value → Heap → Prop} (M : MetW Z y bytes maxl ret ws rm as' h n0 Q) (q : ∀ v h, Q v h → Q' v h) : MetW Z y bytes maxl ret ws rm as' h n0 Q' := by
  intro l p e h1 h2 h3 s m args below hf happ hP hK
  obtain ⟨n, o, a1, a2, a3, v, L, b1, ⟨b2, b3⟩, b4⟩ := M l p e h1 h2 h3 s m args below hf happ hP hK
  exact ⟨n, o, a1, a2, a3, v, L, b1, ⟨q _ _ b2, b3⟩, b4⟩
/-! ### returns -/
theorem k_retv (G : Ctx Γ Z own bytes maxl ret nm rm hs0) (X : W Γ n0 T h C S) (hd : decode bytes pc = .ok (.return_, 1)) (hr : ret = none) (q : Q none h) (hC : C ≤ rm.cells) (hS : S ≤ rm.slots) : Go Γ n0 Q T (mkF Γ.m pc Ls []) := by
  obtain ⟨hx, hZ, hown, hby, hml, hret, hnm, hlk, hR, hsH⟩ := G
  obtain ⟨L, X, e, N⟩ := X
  obtain ⟨fs, hr', hrun, hended, hW, hsame⟩ := X.leave (v := none) (fun _ => rfl) hlk
  subst hr
  refine ⟨_, _, ?_, hrun, hended, none, L, rfl, ⟨?_, N⟩, ⟨_, rfl⟩, hW, hsame.mono (hR ▸ hC) (hR ▸ hS)⟩
  · exact X.returnOut hx hret (hb hby hd) hr'
  · show Q none T.heap; rw [e]; exact q
theorem k_ret {w : Value} {t : FieldType} {i : Instr} {rest : List Value} (G : Ctx Γ Z own bytes maxl ret nm rm hs0) (X : W Γ n0 T h C S) (hd : decode bytes pc = .ok (i, 1)) (hr : ret = some t) (hn : narrow t w = w)
    (hi : (i = .ireturn ∧ (t = .int ∨ t = .boolean ∨ t = .byte ∨ t = .char ∨ t = .short) ∧ ∃ z, w = .int z) ∨ (i = .lreturn ∧ t = .long ∧ ∃ z, w = .long z) ∨ (i = .dreturn ∧ t = .double ∧ ∃ z, w = .double z) ∨ (i = .freturn ∧ t = .float ∧ ∃ z, w = .float z) ∨ (i = .areturn ∧ t.isReference = true ∧ w.isRef = true))
    (q : Q (some w) h) (hC : C ≤ rm.cells) (hS : S ≤ rm.slots) : Go Γ n0 Q T (mkF Γ.m pc Ls (w :: rest)) := by
  obtain ⟨hx, hZ, hown, hby, hml, hret, hnm, hlk, hR, hsH⟩ := G
  obtain ⟨L, X, e, N⟩ := X
  subst hr
  obtain ⟨fs, hr', hrun, hended, hW, hsame⟩ := X.leave (v := some w) (fun h => by rw [hret] at h; cases h) hlk
  refine ⟨_, _, ?_, hrun, hended, some w, L, rfl, ⟨?_, N⟩, ⟨_, rfl⟩, hW, hsame.mono (hR ▸ hC) (hR ▸ hS)⟩
  · exact retOut X hx hret hn hi (hb hby hd) hr'
  · show Q (some w) T.heap; rw [e]; exact q
theorem k_reti {z : Int32} {rest : List Value} (G : Ctx Γ Z own bytes maxl ret nm rm hs0) (X : W Γ n0 T h C S) (hd : decode bytes pc = .ok (.ireturn, 1)) (hr : ret = some .int) (q : Q (some (.int z)) h) (hC : C ≤ rm.cells) (hS : S ≤ rm.slots) : Go Γ n0 Q T (mkF Γ.m pc Ls (.int z :: rest)) :=
  k_ret G X hd hr rfl (Or.inl ⟨rfl, Or.inl rfl, _, rfl⟩) q hC hS
theorem k_retb {z : Int32} {rest : List Value} {t : FieldType} (G : Ctx Γ Z own bytes maxl ret nm rm hs0) (X : W Γ n0 T h C S) (hd : decode bytes pc = .ok (.ireturn, 1)) (hr : ret = some t) (ht : t = .int ∨ t = .boolean ∨ t = .byte ∨ t = .char ∨ t = .short) (hn : narrow t (.int z) = .int z) (q : Q (some (.int z)) h) (hC : C ≤ rm.cells) (hS : S ≤ rm.slots) : Go Γ n0 Q T (mkF Γ.m pc Ls (.int z :: rest)) :=
  k_ret G X hd hr hn (Or.inl ⟨rfl, ht, _, rfl⟩) q hC hS
theorem k_retl {z : Int64} {rest : List Value} (G : Ctx Γ Z own bytes maxl ret nm rm hs0) (X : W Γ n0 T h C S) (hd : decode bytes pc = .ok (.lreturn, 1)) (hr : ret = some .long) (q : Q (some (.long z)) h) (hC : C ≤ rm.cells) (hS : S ≤ rm.slots) : Go Γ n0 Q T (mkF Γ.m pc Ls (.long z :: rest)) :=
  k_ret G X hd hr rfl (Or.inr (Or.inl ⟨rfl, rfl, _, rfl⟩)) q hC hS
theorem narrow_ref {t : FieldType} {w : Value} (ht : t.isReference = true) : narrow t w = w := by cases t <;> first | (cases ht; done) | (cases w <;> rfl)
theorem k_reta {w : Value} {rest : List Value} {t : FieldType} (G : Ctx Γ Z own bytes maxl ret nm rm hs0) (X : W Γ n0 T h C S) (hd : decode bytes pc = .ok (.areturn, 1)) (hr : ret = some t) (ht : t.isReference = true) (hv : w.isRef = true) (q : Q (some w) h) (hC : C ≤ rm.cells) (hS : S ≤ rm.slots) : Go Γ n0 Q T (mkF Γ.m pc Ls (w :: rest)) :=
  k_ret G X hd hr (narrow_ref ht) (Or.inr (Or.inr (Or.inr (Or.inr ⟨rfl, ht, hv⟩)))) q hC hS
theorem k_iloadN {k : Fin 4} {v : Int32} (G : Ctx Γ Z own bytes maxl ret nm rm hs0) (X : W Γ n0 T h C S) (hd : decode bytes pc = .ok (.iload_n k, 1)) (hp : pc + 1 = pc') (hl : Ls[k.val]? = some (.val (.int v))) (K : Go Γ n0 Q T (mkF Γ.m pc' Ls (.int v :: st))) : Go Γ n0 Q T (mkF Γ.m pc Ls (st)) := by
  subst hp
  obtain ⟨hx, hZ, hown, hby, hml, hret, hnm, hlk, hR, hsH⟩ := G
  obtain ⟨L, X, e, N⟩ := X
  exact Go.of (fun t k => XS.iloadN X.here hx rfl (hb hby hd) hl k) K
theorem k_iload {k : Nat} {v : Int32} (G : Ctx Γ Z own bytes maxl ret nm rm hs0) (X : W Γ n0 T h C S) (hd : decode bytes pc = .ok (.iload k, 2)) (hp : pc + 2 = pc') (hl : Ls[k]? = some (.val (.int v))) (K : Go Γ n0 Q T (mkF Γ.m pc' Ls (.int v :: st))) : Go Γ n0 Q T (mkF Γ.m pc Ls (st)) := by
  subst hp
  obtain ⟨hx, hZ, hown, hby, hml, hret, hnm, hlk, hR, hsH⟩ := G
  obtain ⟨L, X, e, N⟩ := X
  exact Go.of (fun t k => XS.iload X.here hx rfl (hb hby hd) hl k) K
theorem k_lloadN {k : Fin 4} {v : Int64} (G : Ctx Γ Z own bytes maxl ret nm rm hs0) (X : W Γ n0 T h C S) (hd : decode bytes pc = .ok (.lload_n k, 1)) (hp : pc + 1 = pc') (hl : Ls[k.val]? = some (.val (.long v))) (K : Go Γ n0 Q T (mkF Γ.m pc' Ls (.long v :: st))) : Go Γ n0 Q T (mkF Γ.m pc Ls (st)) := by
  subst hp
  obtain ⟨hx, hZ, hown, hby, hml, hret, hnm, hlk, hR, hsH⟩ := G
  obtain ⟨L, X, e, N⟩ := X
  exact Go.of (fun t k => XS.lloadN X.here hx rfl (hb hby hd) hl k) K
theorem k_lload {k : Nat} {v : Int64} (G : Ctx Γ Z own bytes maxl ret nm rm hs0) (X : W Γ n0 T h C S) (hd : decode bytes pc = .ok (.lload k, 2)) (hp : pc + 2 = pc') (hl : Ls[k]? = some (.val (.long v))) (K : Go Γ n0 Q T (mkF Γ.m pc' Ls (.long v :: st))) : Go Γ n0 Q T (mkF Γ.m pc Ls (st)) := by
  subst hp
  obtain ⟨hx, hZ, hown, hby, hml, hret, hnm, hlk, hR, hsH⟩ := G
  obtain ⟨L, X, e, N⟩ := X
  exact Go.of (fun t k => XS.lload X.here hx rfl (hb hby hd) hl k) K
theorem k_aloadN {k : Fin 4} {v : Value} (G : Ctx Γ Z own bytes maxl ret nm rm hs0) (X : W Γ n0 T h C S) (hd : decode bytes pc = .ok (.aload_n k, 1)) (hp : pc + 1 = pc') (hl : Ls[k.val]? = some (.val v)) (hv : v.isRef = true) (K : Go Γ n0 Q T (mkF Γ.m pc' Ls (v :: st))) : Go Γ n0 Q T (mkF Γ.m pc Ls (st)) := by
  subst hp
  obtain ⟨hx, hZ, hown, hby, hml, hret, hnm, hlk, hR, hsH⟩ := G
  obtain ⟨L, X, e, N⟩ := X
  exact Go.of (fun t k => XS.aloadN X.here hx rfl (hb hby hd) hl hv k) K
theorem k_aload {k : Nat} {v : Value} (G : Ctx Γ Z own bytes maxl ret nm rm hs0) (X : W Γ n0 T h C S) (hd : decode bytes pc = .ok (.aload k, 2)) (hp : pc + 2 = pc') (hl : Ls[k]? = some (.val v)) (hv : v.isRef = true) (K : Go Γ n0 Q T (mkF Γ.m pc' Ls (v :: st))) : Go Γ n0 Q T (mkF Γ.m pc Ls (st)) := by
  subst hp
  obtain ⟨hx, hZ, hown, hby, hml, hret, hnm, hlk, hR, hsH⟩ := G
  obtain ⟨L, X, e, N⟩ := X
  exact Go.of (fun t k => XS.aload X.here hx rfl (hb hby hd) hl hv k) K
theorem k_istoreN {k : Fin 4} {v : Int32} {l' : Array Slot} (G : Ctx Γ Z own bytes maxl ret nm rm hs0) (X : W Γ n0 T h C S) (hd : decode bytes pc = .ok (.istore_n k, 1)) (hp : pc + 1 = pc') (hl : storeLocals Ls k.val (.int v) = some l') (K : Go Γ n0 Q T (mkF Γ.m pc' l' (st))) : Go Γ n0 Q T (mkF Γ.m pc Ls (.int v :: st)) := by
  subst hp
  obtain ⟨hx, hZ, hown, hby, hml, hret, hnm, hlk, hR, hsH⟩ := G
  obtain ⟨L, X, e, N⟩ := X
  exact Go.of (fun t k => XS.istoreN X.here hx rfl (hb hby hd) rfl hl k) K
theorem k_istore {k : Nat} {v : Int32} {l' : Array Slot} (G : Ctx Γ Z own bytes maxl ret nm rm hs0) (X : W Γ n0 T h C S) (hd : decode bytes pc = .ok (.istore k, 2)) (hp : pc + 2 = pc') (hl : storeLocals Ls k (.int v) = some l') (K : Go Γ n0 Q T (mkF Γ.m pc' l' (st))) : Go Γ n0 Q T (mkF Γ.m pc Ls (.int v :: st)) := by
  subst hp
  obtain ⟨hx, hZ, hown, hby, hml, hret, hnm, hlk, hR, hsH⟩ := G
  obtain ⟨L, X, e, N⟩ := X
  exact Go.of (fun t k => XS.istore X.here hx rfl (hb hby hd) rfl hl k) K
theorem k_lstoreN {k : Fin 4} {v : Int64} {l' : Array Slot} (G : Ctx Γ Z own bytes maxl ret nm rm hs0) (X : W Γ n0 T h C S) (hd : decode bytes pc = .ok (.lstore_n k, 1)) (hp : pc + 1 = pc') (hl : storeLocals Ls k.val (.long v) = some l') (K : Go Γ n0 Q T (mkF Γ.m pc' l' (st))) : Go Γ n0 Q T (mkF Γ.m pc Ls (.long v :: st)) := by
  subst hp
  obtain ⟨hx, hZ, hown, hby, hml, hret, hnm, hlk, hR, hsH⟩ := G
  obtain ⟨L, X, e, N⟩ := X
  exact Go.of (fun t k => XS.lstoreN X.here hx rfl (hb hby hd) rfl hl k) K
theorem k_lstore {k : Nat} {v : Int64} {l' : Array Slot} (G : Ctx Γ Z own bytes maxl ret nm rm hs0) (X : W Γ n0 T h C S) (hd : decode bytes pc = .ok (.lstore k, 2)) (hp : pc + 2 = pc') (hl : storeLocals Ls k (.long v) = some l') (K : Go Γ n0 Q T (mkF Γ.m pc' l' (st))) : Go Γ n0 Q T (mkF Γ.m pc Ls (.long v :: st)) := by
  subst hp
  obtain ⟨hx, hZ, hown, hby, hml, hret, hnm, hlk, hR, hsH⟩ := G
  obtain ⟨L, X, e, N⟩ := X
  exact Go.of (fun t k => XS.lstore X.here hx rfl (hb hby hd) rfl hl k) K
theorem k_astoreN {k : Fin 4} {v : Value} {l' : Array Slot} (G : Ctx Γ Z own bytes maxl ret nm rm hs0) (X : W Γ n0 T h C S) (hd : decode bytes pc = .ok (.astore_n k, 1)) (hp : pc + 1 = pc') (hv : v.isRef = true) (hl : storeLocals Ls k.val v = some l') (K : Go Γ n0 Q T (mkF Γ.m pc' l' (st))) : Go Γ n0 Q T (mkF Γ.m pc Ls (v :: st)) := by
  subst hp
  obtain ⟨hx, hZ, hown, hby, hml, hret, hnm, hlk, hR, hsH⟩ := G
  obtain ⟨L, X, e, N⟩ := X
  exact Go.of (fun t k => XS.astoreN X.here hx rfl (hb hby hd) rfl hv hl k) K
theorem k_astore {k : Nat} {v : Value} {l' : Array Slot} (G : Ctx Γ Z own bytes maxl ret nm rm hs0) (X : W Γ n0 T h C S) (hd : decode bytes pc = .ok (.astore k, 2)) (hp : pc + 2 = pc') (hv : v.isRef = true) (hl : storeLocals Ls k v = some l') (K : Go Γ n0 Q T (mkF Γ.m pc' l' (st))) : Go Γ n0 Q T (mkF Γ.m pc Ls (v :: st)) := by
  subst hp
  obtain ⟨hx, hZ, hown, hby, hml, hret, hnm, hlk, hR, hsH⟩ := G
  obtain ⟨L, X, e, N⟩ := X
  exact Go.of (fun t k => XS.astore X.here hx rfl (hb hby hd) rfl hv hl k) K
theorem k_iconst {i : Int} {z : Int32} (G : Ctx Γ Z own bytes maxl ret nm rm hs0) (X : W Γ n0 T h C S) (hd : decode bytes pc = .ok (.iconst i, 1)) (hp : pc + 1 = pc') (hz : Int32.ofInt i = z) (K : Go Γ n0 Q T (mkF Γ.m pc' Ls (.int z :: st))) : Go Γ n0 Q T (mkF Γ.m pc Ls (st)) := by
  subst hp
  obtain ⟨hx, hZ, hown, hby, hml, hret, hnm, hlk, hR, hsH⟩ := G
  obtain ⟨L, X, e, N⟩ := X
  subst hz
  exact Go.of (fun t k => XS.iconst X.here hx rfl (hb hby hd) k) K
theorem k_bipush {i : Int} {z : Int32} (G : Ctx Γ Z own bytes maxl ret nm rm hs0) (X : W Γ n0 T h C S) (hd : decode bytes pc = .ok (.bipush i, 2)) (hp : pc + 2 = pc') (hz : (Int8.ofInt i).toInt32 = z) (K : Go Γ n0 Q T (mkF Γ.m pc' Ls (.int z :: st))) : Go Γ n0 Q T (mkF Γ.m pc Ls (st)) := by
  subst hp
  obtain ⟨hx, hZ, hown, hby, hml, hret, hnm, hlk, hR, hsH⟩ := G
  obtain ⟨L, X, e, N⟩ := X
  subst hz
  exact Go.of (fun t k => XS.bipush X.here hx rfl (hb hby hd) k) K
theorem k_sipush {i : Int} {z : Int32} (G : Ctx Γ Z own bytes maxl ret nm rm hs0) (X : W Γ n0 T h C S) (hd : decode bytes pc = .ok (.sipush i, 3)) (hp : pc + 3 = pc') (hz : (Int16.ofInt i).toInt32 = z) (K : Go Γ n0 Q T (mkF Γ.m pc' Ls (.int z :: st))) : Go Γ n0 Q T (mkF Γ.m pc Ls (st)) := by
  subst hp
  obtain ⟨hx, hZ, hown, hby, hml, hret, hnm, hlk, hR, hsH⟩ := G
  obtain ⟨L, X, e, N⟩ := X
  subst hz
  exact Go.of (fun t k => XS.sipush X.here hx rfl (hb hby hd) k) K
theorem k_lconst {i : Fin 2} {z : Int64} (G : Ctx Γ Z own bytes maxl ret nm rm hs0) (X : W Γ n0 T h C S) (hd : decode bytes pc = .ok (.lconst i, 1)) (hp : pc + 1 = pc') (hz : Int64.ofNat i = z) (K : Go Γ n0 Q T (mkF Γ.m pc' Ls (.long z :: st))) : Go Γ n0 Q T (mkF Γ.m pc Ls (st)) := by
  subst hp
  obtain ⟨hx, hZ, hown, hby, hml, hret, hnm, hlk, hR, hsH⟩ := G
  obtain ⟨L, X, e, N⟩ := X
  subst hz
  exact Go.of (fun t k => XS.lconst X.here hx rfl (hb hby hd) k) K
theorem k_anull  (G : Ctx Γ Z own bytes maxl ret nm rm hs0) (X : W Γ n0 T h C S) (hd : decode bytes pc = .ok (.aconst_null, 1)) (hp : pc + 1 = pc')  (K : Go Γ n0 Q T (mkF Γ.m pc' Ls (.null :: st))) : Go Γ n0 Q T (mkF Γ.m pc Ls (st)) := by
  subst hp
  obtain ⟨hx, hZ, hown, hby, hml, hret, hnm, hlk, hR, hsH⟩ := G
  obtain ⟨L, X, e, N⟩ := X
  exact Go.of (fun t k => XS.aconstNull X.here hx rfl (hb hby hd) k) K
theorem k_iadd {x y z : Int32} (G : Ctx Γ Z own bytes maxl ret nm rm hs0) (X : W Γ n0 T h C S) (hd : decode bytes pc = .ok (.iadd, 1)) (hp : pc + 1 = pc') (hz : x + y = z) (K : Go Γ n0 Q T (mkF Γ.m pc' Ls (.int z :: st))) : Go Γ n0 Q T (mkF Γ.m pc Ls (.int y :: .int x :: st)) := by
  subst hp
  obtain ⟨hx, hZ, hown, hby, hml, hret, hnm, hlk, hR, hsH⟩ := G
  obtain ⟨L, X, e, N⟩ := X
  subst hz
  exact Go.of (fun t k => XS.iadd X.here hx rfl (hb hby hd) rfl k) K
theorem k_isub {x y z : Int32} (G : Ctx Γ Z own bytes maxl ret nm rm hs0) (X : W Γ n0 T h C S) (hd : decode bytes pc = .ok (.isub, 1)) (hp : pc + 1 = pc') (hz : x - y = z) (K : Go Γ n0 Q T (mkF Γ.m pc' Ls (.int z :: st))) : Go Γ n0 Q T (mkF Γ.m pc Ls (.int y :: .int x :: st)) := by
  subst hp
  obtain ⟨hx, hZ, hown, hby, hml, hret, hnm, hlk, hR, hsH⟩ := G
  obtain ⟨L, X, e, N⟩ := X
  subst hz
  exact Go.of (fun t k => XS.isub X.here hx rfl (hb hby hd) rfl k) K
theorem k_imul {x y z : Int32} (G : Ctx Γ Z own bytes maxl ret nm rm hs0) (X : W Γ n0 T h C S) (hd : decode bytes pc = .ok (.imul, 1)) (hp : pc + 1 = pc') (hz : x * y = z) (K : Go Γ n0 Q T (mkF Γ.m pc' Ls (.int z :: st))) : Go Γ n0 Q T (mkF Γ.m pc Ls (.int y :: .int x :: st)) := by
  subst hp
  obtain ⟨hx, hZ, hown, hby, hml, hret, hnm, hlk, hR, hsH⟩ := G
  obtain ⟨L, X, e, N⟩ := X
  subst hz
  exact Go.of (fun t k => XS.imul X.here hx rfl (hb hby hd) rfl k) K
theorem k_iand {x y z : Int32} (G : Ctx Γ Z own bytes maxl ret nm rm hs0) (X : W Γ n0 T h C S) (hd : decode bytes pc = .ok (.iand, 1)) (hp : pc + 1 = pc') (hz : x &&& y = z) (K : Go Γ n0 Q T (mkF Γ.m pc' Ls (.int z :: st))) : Go Γ n0 Q T (mkF Γ.m pc Ls (.int y :: .int x :: st)) := by
  subst hp
  obtain ⟨hx, hZ, hown, hby, hml, hret, hnm, hlk, hR, hsH⟩ := G
  obtain ⟨L, X, e, N⟩ := X
  subst hz
  exact Go.of (fun t k => XS.iand X.here hx rfl (hb hby hd) rfl k) K
theorem k_ior {x y z : Int32} (G : Ctx Γ Z own bytes maxl ret nm rm hs0) (X : W Γ n0 T h C S) (hd : decode bytes pc = .ok (.ior, 1)) (hp : pc + 1 = pc') (hz : x ||| y = z) (K : Go Γ n0 Q T (mkF Γ.m pc' Ls (.int z :: st))) : Go Γ n0 Q T (mkF Γ.m pc Ls (.int y :: .int x :: st)) := by
  subst hp
  obtain ⟨hx, hZ, hown, hby, hml, hret, hnm, hlk, hR, hsH⟩ := G
  obtain ⟨L, X, e, N⟩ := X
  subst hz
  exact Go.of (fun t k => XS.ior X.here hx rfl (hb hby hd) rfl k) K
theorem k_ixor {x y z : Int32} (G : Ctx Γ Z own bytes maxl ret nm rm hs0) (X : W Γ n0 T h C S) (hd : decode bytes pc = .ok (.ixor, 1)) (hp : pc + 1 = pc') (hz : x ^^^ y = z) (K : Go Γ n0 Q T (mkF Γ.m pc' Ls (.int z :: st))) : Go Γ n0 Q T (mkF Γ.m pc Ls (.int y :: .int x :: st)) := by
  subst hp
  obtain ⟨hx, hZ, hown, hby, hml, hret, hnm, hlk, hR, hsH⟩ := G
  obtain ⟨L, X, e, N⟩ := X
  subst hz
  exact Go.of (fun t k => XS.ixor X.here hx rfl (hb hby hd) rfl k) K
theorem k_ishl {x y z : Int32} (G : Ctx Γ Z own bytes maxl ret nm rm hs0) (X : W Γ n0 T h C S) (hd : decode bytes pc = .ok (.ishl, 1)) (hp : pc + 1 = pc') (hz : x <<< (y &&& 31) = z) (K : Go Γ n0 Q T (mkF Γ.m pc' Ls (.int z :: st))) : Go Γ n0 Q T (mkF Γ.m pc Ls (.int y :: .int x :: st)) := by
  subst hp
  obtain ⟨hx, hZ, hown, hby, hml, hret, hnm, hlk, hR, hsH⟩ := G
  obtain ⟨L, X, e, N⟩ := X
  subst hz
  exact Go.of (fun t k => XS.ishl X.here hx rfl (hb hby hd) rfl k) K
theorem k_ishr {x y z : Int32} (G : Ctx Γ Z own bytes maxl ret nm rm hs0) (X : W Γ n0 T h C S) (hd : decode bytes pc = .ok (.ishr, 1)) (hp : pc + 1 = pc') (hz : x >>> (y &&& 31) = z) (K : Go Γ n0 Q T (mkF Γ.m pc' Ls (.int z :: st))) : Go Γ n0 Q T (mkF Γ.m pc Ls (.int y :: .int x :: st)) := by
  subst hp
  obtain ⟨hx, hZ, hown, hby, hml, hret, hnm, hlk, hR, hsH⟩ := G
  obtain ⟨L, X, e, N⟩ := X
  subst hz
  exact Go.of (fun t k => XS.ishr X.here hx rfl (hb hby hd) rfl k) K
theorem k_iushr {x y z : Int32} (G : Ctx Γ Z own bytes maxl ret nm rm hs0) (X : W Γ n0 T h C S) (hd : decode bytes pc = .ok (.iushr, 1)) (hp : pc + 1 = pc') (hz : (x.toUInt32 >>> (y &&& 31).toUInt32).toInt32 = z) (K : Go Γ n0 Q T (mkF Γ.m pc' Ls (.int z :: st))) : Go Γ n0 Q T (mkF Γ.m pc Ls (.int y :: .int x :: st)) := by
  subst hp
  obtain ⟨hx, hZ, hown, hby, hml, hret, hnm, hlk, hR, hsH⟩ := G
  obtain ⟨L, X, e, N⟩ := X
  subst hz
  exact Go.of (fun t k => XS.iushr X.here hx rfl (hb hby hd) rfl k) K
theorem k_ladd {x y z : Int64} (G : Ctx Γ Z own bytes maxl ret nm rm hs0) (X : W Γ n0 T h C S) (hd : decode bytes pc = .ok (.ladd, 1)) (hp : pc + 1 = pc') (hz : x + y = z) (K : Go Γ n0 Q T (mkF Γ.m pc' Ls (.long z :: st))) : Go Γ n0 Q T (mkF Γ.m pc Ls (.long y :: .long x :: st)) := by
  subst hp
  obtain ⟨hx, hZ, hown, hby, hml, hret, hnm, hlk, hR, hsH⟩ := G
  obtain ⟨L, X, e, N⟩ := X
  subst hz
  exact Go.of (fun t k => XS.ladd X.here hx rfl (hb hby hd) rfl k) K
theorem k_lsub {x y z : Int64} (G : Ctx Γ Z own bytes maxl ret nm rm hs0) (X : W Γ n0 T h C S) (hd : decode bytes pc = .ok (.lsub, 1)) (hp : pc + 1 = pc') (hz : x - y = z) (K : Go Γ n0 Q T (mkF Γ.m pc' Ls (.long z :: st))) : Go Γ n0 Q T (mkF Γ.m pc Ls (.long y :: .long x :: st)) := by
  subst hp
  obtain ⟨hx, hZ, hown, hby, hml, hret, hnm, hlk, hR, hsH⟩ := G
  obtain ⟨L, X, e, N⟩ := X
  subst hz
  exact Go.of (fun t k => XS.lsub X.here hx rfl (hb hby hd) rfl k) K
theorem k_lmul {x y z : Int64} (G : Ctx Γ Z own bytes maxl ret nm rm hs0) (X : W Γ n0 T h C S) (hd : decode bytes pc = .ok (.lmul, 1)) (hp : pc + 1 = pc') (hz : x * y = z) (K : Go Γ n0 Q T (mkF Γ.m pc' Ls (.long z :: st))) : Go Γ n0 Q T (mkF Γ.m pc Ls (.long y :: .long x :: st)) := by
  subst hp
  obtain ⟨hx, hZ, hown, hby, hml, hret, hnm, hlk, hR, hsH⟩ := G
  obtain ⟨L, X, e, N⟩ := X
  subst hz
  exact Go.of (fun t k => XS.lmul X.here hx rfl (hb hby hd) rfl k) K
theorem k_land {x y z : Int64} (G : Ctx Γ Z own bytes maxl ret nm rm hs0) (X : W Γ n0 T h C S) (hd : decode bytes pc = .ok (.land, 1)) (hp : pc + 1 = pc') (hz : x &&& y = z) (K : Go Γ n0 Q T (mkF Γ.m pc' Ls (.long z :: st))) : Go Γ n0 Q T (mkF Γ.m pc Ls (.long y :: .long x :: st)) := by
  subst hp
  obtain ⟨hx, hZ, hown, hby, hml, hret, hnm, hlk, hR, hsH⟩ := G
  obtain ⟨L, X, e, N⟩ := X
  subst hz
  exact Go.of (fun t k => XS.land X.here hx rfl (hb hby hd) rfl k) K
theorem k_lor {x y z : Int64} (G : Ctx Γ Z own bytes maxl ret nm rm hs0) (X : W Γ n0 T h C S) (hd : decode bytes pc = .ok (.lor, 1)) (hp : pc + 1 = pc') (hz : x ||| y = z) (K : Go Γ n0 Q T (mkF Γ.m pc' Ls (.long z :: st))) : Go Γ n0 Q T (mkF Γ.m pc Ls (.long y :: .long x :: st)) := by
  subst hp
  obtain ⟨hx, hZ, hown, hby, hml, hret, hnm, hlk, hR, hsH⟩ := G
  obtain ⟨L, X, e, N⟩ := X
  subst hz
  exact Go.of (fun t k => XS.lor X.here hx rfl (hb hby hd) rfl k) K
theorem k_lxor {x y z : Int64} (G : Ctx Γ Z own bytes maxl ret nm rm hs0) (X : W Γ n0 T h C S) (hd : decode bytes pc = .ok (.lxor, 1)) (hp : pc + 1 = pc') (hz : x ^^^ y = z) (K : Go Γ n0 Q T (mkF Γ.m pc' Ls (.long z :: st))) : Go Γ n0 Q T (mkF Γ.m pc Ls (.long y :: .long x :: st)) := by
  subst hp
  obtain ⟨hx, hZ, hown, hby, hml, hret, hnm, hlk, hR, hsH⟩ := G
  obtain ⟨L, X, e, N⟩ := X
  subst hz
  exact Go.of (fun t k => XS.lxor X.here hx rfl (hb hby hd) rfl k) K
theorem k_lshl {x z : Int64} {y : Int32} (G : Ctx Γ Z own bytes maxl ret nm rm hs0) (X : W Γ n0 T h C S) (hd : decode bytes pc = .ok (.lshl, 1)) (hp : pc + 1 = pc') (hz : x <<< (y &&& 0x3f).toInt64 = z) (K : Go Γ n0 Q T (mkF Γ.m pc' Ls (.long z :: st))) : Go Γ n0 Q T (mkF Γ.m pc Ls (.int y :: .long x :: st)) := by
  subst hp
  obtain ⟨hx, hZ, hown, hby, hml, hret, hnm, hlk, hR, hsH⟩ := G
  obtain ⟨L, X, e, N⟩ := X
  subst hz
  exact Go.of (fun t k => XS.lshl X.here hx rfl (hb hby hd) rfl k) K
theorem k_lshr {x z : Int64} {y : Int32} (G : Ctx Γ Z own bytes maxl ret nm rm hs0) (X : W Γ n0 T h C S) (hd : decode bytes pc = .ok (.lshr, 1)) (hp : pc + 1 = pc') (hz : x >>> (y &&& 0x3f).toInt64 = z) (K : Go Γ n0 Q T (mkF Γ.m pc' Ls (.long z :: st))) : Go Γ n0 Q T (mkF Γ.m pc Ls (.int y :: .long x :: st)) := by
  subst hp
  obtain ⟨hx, hZ, hown, hby, hml, hret, hnm, hlk, hR, hsH⟩ := G
  obtain ⟨L, X, e, N⟩ := X
  subst hz
  exact Go.of (fun t k => XS.lshr X.here hx rfl (hb hby hd) rfl k) K
theorem k_lushr {x z : Int64} {y : Int32} (G : Ctx Γ Z own bytes maxl ret nm rm hs0) (X : W Γ n0 T h C S) (hd : decode bytes pc = .ok (.lushr, 1)) (hp : pc + 1 = pc') (hz : (x.toUInt64 >>> (y &&& 0x3f).toInt64.toUInt64).toInt64 = z) (K : Go Γ n0 Q T (mkF Γ.m pc' Ls (.long z :: st))) : Go Γ n0 Q T (mkF Γ.m pc Ls (.int y :: .long x :: st)) := by
  subst hp
  obtain ⟨hx, hZ, hown, hby, hml, hret, hnm, hlk, hR, hsH⟩ := G
  obtain ⟨L, X, e, N⟩ := X
  subst hz
  exact Go.of (fun t k => XS.lushr X.here hx rfl (hb hby hd) rfl k) K
theorem k_idiv {x y z : Int32} (G : Ctx Γ Z own bytes maxl ret nm rm hs0) (X : W Γ n0 T h C S) (hd : decode bytes pc = .ok (.idiv, 1)) (hp : pc + 1 = pc') (hy : y ≠ 0) (hz : x / y = z) (K : Go Γ n0 Q T (mkF Γ.m pc' Ls (.int z :: st))) : Go Γ n0 Q T (mkF Γ.m pc Ls (.int y :: .int x :: st)) := by
  subst hp
  obtain ⟨hx, hZ, hown, hby, hml, hret, hnm, hlk, hR, hsH⟩ := G
  obtain ⟨L, X, e, N⟩ := X
  subst hz
  exact Go.of (fun t k => XS.idiv X.here hx rfl (hb hby hd) rfl hy k) K
theorem k_irem {x y z : Int32} (G : Ctx Γ Z own bytes maxl ret nm rm hs0) (X : W Γ n0 T h C S) (hd : decode bytes pc = .ok (.irem, 1)) (hp : pc + 1 = pc') (hy : y ≠ 0) (hz : x % y = z) (K : Go Γ n0 Q T (mkF Γ.m pc' Ls (.int z :: st))) : Go Γ n0 Q T (mkF Γ.m pc Ls (.int y :: .int x :: st)) := by
  subst hp
  obtain ⟨hx, hZ, hown, hby, hml, hret, hnm, hlk, hR, hsH⟩ := G
  obtain ⟨L, X, e, N⟩ := X
  subst hz
  exact Go.of (fun t k => iremM X hx rfl (hb hby hd) rfl hy k) K
theorem k_ldiv {x y z : Int64} (G : Ctx Γ Z own bytes maxl ret nm rm hs0) (X : W Γ n0 T h C S) (hd : decode bytes pc = .ok (.ldiv, 1)) (hp : pc + 1 = pc') (hy : y ≠ 0) (hz : x / y = z) (K : Go Γ n0 Q T (mkF Γ.m pc' Ls (.long z :: st))) : Go Γ n0 Q T (mkF Γ.m pc Ls (.long y :: .long x :: st)) := by
  subst hp
  obtain ⟨hx, hZ, hown, hby, hml, hret, hnm, hlk, hR, hsH⟩ := G
  obtain ⟨L, X, e, N⟩ := X
  subst hz
  exact Go.of (fun t k => XS.ldiv X.here hx rfl (hb hby hd) rfl hy k) K
theorem k_lrem {x y z : Int64} (G : Ctx Γ Z own bytes maxl ret nm rm hs0) (X : W Γ n0 T h C S) (hd : decode bytes pc = .ok (.lrem, 1)) (hp : pc + 1 = pc') (hy : y ≠ 0) (hz : x % y = z) (K : Go Γ n0 Q T (mkF Γ.m pc' Ls (.long z :: st))) : Go Γ n0 Q T (mkF Γ.m pc Ls (.long y :: .long x :: st)) := by
  subst hp
  obtain ⟨hx, hZ, hown, hby, hml, hret, hnm, hlk, hR, hsH⟩ := G
  obtain ⟨L, X, e, N⟩ := X
  subst hz
  rw [← lrem_mod] at K
  exact Go.of (fun t k => XS.lrem X.here hx rfl (hb hby hd) rfl hy k) K
theorem k_lcmp {x y : Int64} {z : Int32} (G : Ctx Γ Z own bytes maxl ret nm rm hs0) (X : W Γ n0 T h C S) (hd : decode bytes pc = .ok (.lcmp, 1)) (hp : pc + 1 = pc') (hz : (if x > y then (1 : Int32) else if x = y then 0 else -1) = z) (K : Go Γ n0 Q T (mkF Γ.m pc' Ls (.int z :: st))) : Go Γ n0 Q T (mkF Γ.m pc Ls (.long y :: .long x :: st)) := by
  subst hp
  obtain ⟨hx, hZ, hown, hby, hml, hret, hnm, hlk, hR, hsH⟩ := G
  obtain ⟨L, X, e, N⟩ := X
  subst hz
  exact Go.of (fun t k => XS.lcmp X.here hx rfl (hb hby hd) rfl k) K
theorem k_ineg {x : Int32} {z : Int32} (G : Ctx Γ Z own bytes maxl ret nm rm hs0) (X : W Γ n0 T h C S) (hd : decode bytes pc = .ok (.ineg, 1)) (hp : pc + 1 = pc') (hz : -x = z) (K : Go Γ n0 Q T (mkF Γ.m pc' Ls (.int z :: st))) : Go Γ n0 Q T (mkF Γ.m pc Ls (.int x :: st)) := by
  subst hp
  obtain ⟨hx, hZ, hown, hby, hml, hret, hnm, hlk, hR, hsH⟩ := G
  obtain ⟨L, X, e, N⟩ := X
  subst hz
  exact Go.of (fun t k => XS.ineg X.here hx rfl (hb hby hd) rfl k) K
theorem k_lneg {x : Int64} {z : Int64} (G : Ctx Γ Z own bytes maxl ret nm rm hs0) (X : W Γ n0 T h C S) (hd : decode bytes pc = .ok (.lneg, 1)) (hp : pc + 1 = pc') (hz : -x = z) (K : Go Γ n0 Q T (mkF Γ.m pc' Ls (.long z :: st))) : Go Γ n0 Q T (mkF Γ.m pc Ls (.long x :: st)) := by
  subst hp
  obtain ⟨hx, hZ, hown, hby, hml, hret, hnm, hlk, hR, hsH⟩ := G
  obtain ⟨L, X, e, N⟩ := X
  subst hz
  exact Go.of (fun t k => XS.lneg X.here hx rfl (hb hby hd) rfl k) K
theorem k_i2l {x : Int32} {z : Int64} (G : Ctx Γ Z own bytes maxl ret nm rm hs0) (X : W Γ n0 T h C S) (hd : decode bytes pc = .ok (.i2l, 1)) (hp : pc + 1 = pc') (hz : x.toInt64 = z) (K : Go Γ n0 Q T (mkF Γ.m pc' Ls (.long z :: st))) : Go Γ n0 Q T (mkF Γ.m pc Ls (.int x :: st)) := by
  subst hp
  obtain ⟨hx, hZ, hown, hby, hml, hret, hnm, hlk, hR, hsH⟩ := G
  obtain ⟨L, X, e, N⟩ := X
  subst hz
  exact Go.of (fun t k => XS.i2l X.here hx rfl (hb hby hd) rfl k) K
theorem k_l2i {x : Int64} {z : Int32} (G : Ctx Γ Z own bytes maxl ret nm rm hs0) (X : W Γ n0 T h C S) (hd : decode bytes pc = .ok (.l2i, 1)) (hp : pc + 1 = pc') (hz : x.toInt32 = z) (K : Go Γ n0 Q T (mkF Γ.m pc' Ls (.int z :: st))) : Go Γ n0 Q T (mkF Γ.m pc Ls (.long x :: st)) := by
  subst hp
  obtain ⟨hx, hZ, hown, hby, hml, hret, hnm, hlk, hR, hsH⟩ := G
  obtain ⟨L, X, e, N⟩ := X
  subst hz
  exact Go.of (fun t k => XS.l2i X.here hx rfl (hb hby hd) rfl k) K
theorem k_i2b {x : Int32} {z : Int32} (G : Ctx Γ Z own bytes maxl ret nm rm hs0) (X : W Γ n0 T h C S) (hd : decode bytes pc = .ok (.i2b, 1)) (hp : pc + 1 = pc') (hz : x.toInt8.toInt32 = z) (K : Go Γ n0 Q T (mkF Γ.m pc' Ls (.int z :: st))) : Go Γ n0 Q T (mkF Γ.m pc Ls (.int x :: st)) := by
  subst hp
  obtain ⟨hx, hZ, hown, hby, hml, hret, hnm, hlk, hR, hsH⟩ := G
  obtain ⟨L, X, e, N⟩ := X
  subst hz
  exact Go.of (fun t k => XS.i2b X.here hx rfl (hb hby hd) rfl k) K
theorem k_i2s {x : Int32} {z : Int32} (G : Ctx Γ Z own bytes maxl ret nm rm hs0) (X : W Γ n0 T h C S) (hd : decode bytes pc = .ok (.i2s, 1)) (hp : pc + 1 = pc') (hz : x.toInt16.toInt32 = z) (K : Go Γ n0 Q T (mkF Γ.m pc' Ls (.int z :: st))) : Go Γ n0 Q T (mkF Γ.m pc Ls (.int x :: st)) := by
  subst hp
  obtain ⟨hx, hZ, hown, hby, hml, hret, hnm, hlk, hR, hsH⟩ := G
  obtain ⟨L, X, e, N⟩ := X
  subst hz
  exact Go.of (fun t k => XS.i2s X.here hx rfl (hb hby hd) rfl k) K
theorem k_i2c {x : Int32} {z : Int32} (G : Ctx Γ Z own bytes maxl ret nm rm hs0) (X : W Γ n0 T h C S) (hd : decode bytes pc = .ok (.i2c, 1)) (hp : pc + 1 = pc') (hz : x.toUInt32.toUInt16.toUInt32.toInt32 = z) (K : Go Γ n0 Q T (mkF Γ.m pc' Ls (.int z :: st))) : Go Γ n0 Q T (mkF Γ.m pc Ls (.int x :: st)) := by
  subst hp
  obtain ⟨hx, hZ, hown, hby, hml, hret, hnm, hlk, hR, hsH⟩ := G
  obtain ⟨L, X, e, N⟩ := X
  subst hz
  exact Go.of (fun t k => XS.i2c X.here hx rfl (hb hby hd) rfl k) K
theorem k_pop {x : Value} (G : Ctx Γ Z own bytes maxl ret nm rm hs0) (X : W Γ n0 T h C S) (hd : decode bytes pc = .ok (.pop, 1)) (hp : pc + 1 = pc') (hc : x.category = 1) (K : Go Γ n0 Q T (mkF Γ.m pc' Ls (st))) : Go Γ n0 Q T (mkF Γ.m pc Ls (x :: st)) := by
  subst hp
  obtain ⟨hx, hZ, hown, hby, hml, hret, hnm, hlk, hR, hsH⟩ := G
  obtain ⟨L, X, e, N⟩ := X
  exact Go.of (fun t k => XS.pop X.here hx rfl (hb hby hd) rfl hc k) K
theorem k_dup {x : Value} (G : Ctx Γ Z own bytes maxl ret nm rm hs0) (X : W Γ n0 T h C S) (hd : decode bytes pc = .ok (.dup, 1)) (hp : pc + 1 = pc') (hc : x.category = 1) (K : Go Γ n0 Q T (mkF Γ.m pc' Ls (x :: x :: st))) : Go Γ n0 Q T (mkF Γ.m pc Ls (x :: st)) := by
  subst hp
  obtain ⟨hx, hZ, hown, hby, hml, hret, hnm, hlk, hR, hsH⟩ := G
  obtain ⟨L, X, e, N⟩ := X
  exact Go.of (fun t k => XS.dup X.here hx rfl (hb hby hd) rfl hc k) K
theorem k_dupx1 {x y : Value} (G : Ctx Γ Z own bytes maxl ret nm rm hs0) (X : W Γ n0 T h C S) (hd : decode bytes pc = .ok (.dup_x1, 1)) (hp : pc + 1 = pc') (hc : x.category = 1) (hc' : y.category = 1) (K : Go Γ n0 Q T (mkF Γ.m pc' Ls (x :: y :: x :: st))) : Go Γ n0 Q T (mkF Γ.m pc Ls (x :: y :: st)) := by
  subst hp
  obtain ⟨hx, hZ, hown, hby, hml, hret, hnm, hlk, hR, hsH⟩ := G
  obtain ⟨L, X, e, N⟩ := X
  exact Go.of (fun t k => XS.dupX1 X.here hx rfl (hb hby hd) rfl hc hc' k) K
theorem k_dup2 {x y : Value} (G : Ctx Γ Z own bytes maxl ret nm rm hs0) (X : W Γ n0 T h C S) (hd : decode bytes pc = .ok (.dup2, 1)) (hp : pc + 1 = pc') (hc : x.category = 1) (hc' : y.category = 1) (K : Go Γ n0 Q T (mkF Γ.m pc' Ls (x :: y :: x :: y :: st))) : Go Γ n0 Q T (mkF Γ.m pc Ls (x :: y :: st)) := by
  subst hp
  obtain ⟨hx, hZ, hown, hby, hml, hret, hnm, hlk, hR, hsH⟩ := G
  obtain ⟨L, X, e, N⟩ := X
  exact Go.of (fun t k => XT.dup2 X.here hx rfl (hb hby hd) rfl hc hc' k) K
theorem k_dup2l {x : Int64} (G : Ctx Γ Z own bytes maxl ret nm rm hs0) (X : W Γ n0 T h C S) (hd : decode bytes pc = .ok (.dup2, 1)) (hp : pc + 1 = pc')  (K : Go Γ n0 Q T (mkF Γ.m pc' Ls (.long x :: .long x :: st))) : Go Γ n0 Q T (mkF Γ.m pc Ls (.long x :: st)) := by
  subst hp
  obtain ⟨hx, hZ, hown, hby, hml, hret, hnm, hlk, hR, hsH⟩ := G
  obtain ⟨L, X, e, N⟩ := X
  exact Go.of (fun t k => XT.dup2L X.here hx rfl (hb hby hd) rfl k) K
theorem k_iinc {k : Nat} {cst : Int} {x z : Int32} {l' : Array Slot} (G : Ctx Γ Z own bytes maxl ret nm rm hs0) (X : W Γ n0 T h C S) (hd : decode bytes pc = .ok (.iinc k cst, 3)) (hp : pc + 3 = pc') (hl : Ls[k]? = some (.val (.int x))) (hz : x + Int32.ofInt cst = z) (hl' : storeLocals Ls k (.int z) = some l') (K : Go Γ n0 Q T (mkF Γ.m pc' l' (st))) : Go Γ n0 Q T (mkF Γ.m pc Ls (st)) := by
  subst hp
  obtain ⟨hx, hZ, hown, hby, hml, hret, hnm, hlk, hR, hsH⟩ := G
  obtain ⟨L, X, e, N⟩ := X
  subst hz
  exact Go.of (fun t k => XS.iinc X.here hx rfl (hb hby hd) hl hl' k) K
theorem k_istoreS {k : Nat} {v : Int32} {o : Slot} {l' : Array Slot} (G : Ctx Γ Z own bytes maxl ret nm rm hs0) (X : W Γ n0 T h C S) (hd : decode bytes pc = .ok (.istore k, 2)) (hp : pc + 2 = pc') (hold : Ls[k]? = some o) (ho : o = .unset ∨ ∃ w, o = .val w ∧ w.category = 1) (hl : Ls.setIfInBounds k (.val (.int v)) = l') (K : Go Γ n0 Q T (mkF Γ.m pc' l' (st))) : Go Γ n0 Q T (mkF Γ.m pc Ls (.int v :: st)) := by
  subst hp
  obtain ⟨hx, hZ, hown, hby, hml, hret, hnm, hlk, hR, hsH⟩ := G
  obtain ⟨L, X, e, N⟩ := X
  subst hl
  exact Go.of (fun t k => XS.istoreS X.here hx rfl (hb hby hd) rfl hold ho k) K
theorem k_istoreNS {k : Fin 4} {v : Int32} {o : Slot} {l' : Array Slot} (G : Ctx Γ Z own bytes maxl ret nm rm hs0) (X : W Γ n0 T h C S) (hd : decode bytes pc = .ok (.istore_n k, 1)) (hp : pc + 1 = pc') (hold : Ls[k.val]? = some o) (ho : o = .unset ∨ ∃ w, o = .val w ∧ w.category = 1) (hl : Ls.setIfInBounds k.val (.val (.int v)) = l') (K : Go Γ n0 Q T (mkF Γ.m pc' l' (st))) : Go Γ n0 Q T (mkF Γ.m pc Ls (.int v :: st)) := by
  subst hp
  obtain ⟨hx, hZ, hown, hby, hml, hret, hnm, hlk, hR, hsH⟩ := G
  obtain ⟨L, X, e, N⟩ := X
  subst hl
  exact Go.of (fun t k => XS.istoreNS X.here hx rfl (hb hby hd) rfl hold ho k) K
theorem k_astoreS {k : Nat} {v : Value} {o : Slot} {l' : Array Slot} (G : Ctx Γ Z own bytes maxl ret nm rm hs0) (X : W Γ n0 T h C S) (hd : decode bytes pc = .ok (.astore k, 2)) (hp : pc + 2 = pc') (hv : v.isRef = true) (hold : Ls[k]? = some o) (ho : o = .unset ∨ ∃ w, o = .val w ∧ w.category = 1) (hl : Ls.setIfInBounds k (.val v) = l') (K : Go Γ n0 Q T (mkF Γ.m pc' l' (st))) : Go Γ n0 Q T (mkF Γ.m pc Ls (v :: st)) := by
  subst hp
  obtain ⟨hx, hZ, hown, hby, hml, hret, hnm, hlk, hR, hsH⟩ := G
  obtain ⟨L, X, e, N⟩ := X
  subst hl
  exact Go.of (fun t k => XS.astoreS X.here hx rfl (hb hby hd) rfl hv (by cases v <;> first | rfl | (simp [Value.isRef] at hv)) hold ho k) K
theorem k_astoreNS {k : Fin 4} {v : Value} {o : Slot} {l' : Array Slot} (G : Ctx Γ Z own bytes maxl ret nm rm hs0) (X : W Γ n0 T h C S) (hd : decode bytes pc = .ok (.astore_n k, 1)) (hp : pc + 1 = pc') (hv : v.isRef = true) (hold : Ls[k.val]? = some o) (ho : o = .unset ∨ ∃ w, o = .val w ∧ w.category = 1) (hl : Ls.setIfInBounds k.val (.val v) = l') (K : Go Γ n0 Q T (mkF Γ.m pc' l' (st))) : Go Γ n0 Q T (mkF Γ.m pc Ls (v :: st)) := by
  subst hp
  obtain ⟨hx, hZ, hown, hby, hml, hret, hnm, hlk, hR, hsH⟩ := G
  obtain ⟨L, X, e, N⟩ := X
  subst hl
  exact Go.of (fun t k => XS.astoreN X.here hx rfl (hb hby hd) rfl hv (XS.store1 hold ho (by cases v <;> first | rfl | (simp [Value.isRef] at hv))) k) K
theorem k_goto {o : Int} (G : Ctx Γ Z own bytes maxl ret nm rm hs0) (X : W Γ n0 T h C S) (hd : decode bytes pc = .ok (.goto o, 3)) (ho : 0 ≤ (pc : Int) + o) (hp : ((pc : Int) + o).toNat = pc') (K : Go Γ n0 Q T (mkF Γ.m pc' Ls st)) : Go Γ n0 Q T (mkF Γ.m pc Ls st) := by
  obtain ⟨hx, hZ, hown, hby, hml, hret, hnm, hlk, hR, hsH⟩ := G
  obtain ⟨L, X, e, N⟩ := X
  exact Go.of (fun t k => XS.goto X.here hx rfl (pc0 := pc) rfl (hb hby hd) ho hp k) K
theorem z32 : (0 : Int32).toInt = 0 := rfl
theorem hold_eq (x y : Int32) : (if_icmp.holds .eq x y = true → x = y) ∧ (if_icmp.holds .eq x y = false → x ≠ y) := by
  constructor <;> intro q <;> simp only [if_icmp.holds] at q <;> simp [Int32.lt_iff_toInt_lt, Int32.le_iff_toInt_le] at q ⊢ <;> first | exact q | omega
theorem hold0_eq (x : Int32) : (ifCond.holds .eq x = true → x = 0) ∧ (ifCond.holds .eq x = false → x ≠ 0) := by
  have z := z32
  constructor <;> intro q <;> simp only [ifCond.holds] at q <;> simp [Int32.lt_iff_toInt_lt, Int32.le_iff_toInt_le] at q ⊢ <;> first | exact q | omega
theorem k_icmp_eq {o : Int} {x y : Int32} {pc'' : Nat} (G : Ctx Γ Z own bytes maxl ret nm rm hs0) (X : W Γ n0 T h C S) (hd : decode bytes pc = .ok (.if_icmp .eq o, 3)) (hp : ((pc : Int) + o).toNat = pc') (ho : 0 ≤ (pc : Int) + o) (hp' : pc + 3 = pc'') (K : x = y → Go Γ n0 Q T (mkF Γ.m pc' Ls st)) (K' : x ≠ y → Go Γ n0 Q T (mkF Γ.m pc'' Ls st)) : Go Γ n0 Q T (mkF Γ.m pc Ls (.int y :: .int x :: st)) := by
  subst hp'
  obtain ⟨hx, hZ, hown, hby, hml, hret, hnm, hlk, hR, hsH⟩ := G
  obtain ⟨L, X, e, N⟩ := X
  cases q : if_icmp.holds .eq x y
  · exact Go.of (fun t k => XS.icmpNo X.here hx rfl (hb hby hd) rfl q k) (K' ((hold_eq x y).2 q))
  · exact Go.of (fun t k => XS.icmpYes X.here hx rfl (pc0 := pc) rfl (hb hby hd) rfl q ho hp k) (K ((hold_eq x y).1 q))
theorem k_if_eq {o : Int} {x : Int32} {pc'' : Nat} (G : Ctx Γ Z own bytes maxl ret nm rm hs0) (X : W Γ n0 T h C S) (hd : decode bytes pc = .ok (.ifCond .eq o, 3)) (hp : ((pc : Int) + o).toNat = pc') (ho : 0 ≤ (pc : Int) + o) (hp' : pc + 3 = pc'') (K : x = 0 → Go Γ n0 Q T (mkF Γ.m pc' Ls st)) (K' : x ≠ 0 → Go Γ n0 Q T (mkF Γ.m pc'' Ls st)) : Go Γ n0 Q T (mkF Γ.m pc Ls (.int x :: st)) := by
  subst hp'
  obtain ⟨hx, hZ, hown, hby, hml, hret, hnm, hlk, hR, hsH⟩ := G
  obtain ⟨L, X, e, N⟩ := X
  cases q : ifCond.holds .eq x
  · exact Go.of (fun t k => XS.ifNo X.here hx rfl (hb hby hd) rfl q k) (K' ((hold0_eq x).2 q))
  · exact Go.of (fun t k => XS.ifYes X.here hx rfl (pc0 := pc) rfl (hb hby hd) rfl q ho hp k) (K ((hold0_eq x).1 q))
theorem hold_ne (x y : Int32) : (if_icmp.holds .ne x y = true → x ≠ y) ∧ (if_icmp.holds .ne x y = false → x = y) := by
  constructor <;> intro q <;> simp only [if_icmp.holds] at q <;> simp [Int32.lt_iff_toInt_lt, Int32.le_iff_toInt_le] at q ⊢ <;> first | exact q | omega
theorem hold0_ne (x : Int32) : (ifCond.holds .ne x = true → x ≠ 0) ∧ (ifCond.holds .ne x = false → x = 0) := by
  have z := z32
  constructor <;> intro q <;> simp only [ifCond.holds] at q <;> simp [Int32.lt_iff_toInt_lt, Int32.le_iff_toInt_le] at q ⊢ <;> first | exact q | omega
theorem k_icmp_ne {o : Int} {x y : Int32} {pc'' : Nat} (G : Ctx Γ Z own bytes maxl ret nm rm hs0) (X : W Γ n0 T h C S) (hd : decode bytes pc = .ok (.if_icmp .ne o, 3)) (hp : ((pc : Int) + o).toNat = pc') (ho : 0 ≤ (pc : Int) + o) (hp' : pc + 3 = pc'') (K : x ≠ y → Go Γ n0 Q T (mkF Γ.m pc' Ls st)) (K' : x = y → Go Γ n0 Q T (mkF Γ.m pc'' Ls st)) : Go Γ n0 Q T (mkF Γ.m pc Ls (.int y :: .int x :: st)) := by
  subst hp'
  obtain ⟨hx, hZ, hown, hby, hml, hret, hnm, hlk, hR, hsH⟩ := G
  obtain ⟨L, X, e, N⟩ := X
  cases q : if_icmp.holds .ne x y
  · exact Go.of (fun t k => XS.icmpNo X.here hx rfl (hb hby hd) rfl q k) (K' ((hold_ne x y).2 q))
  · exact Go.of (fun t k => XS.icmpYes X.here hx rfl (pc0 := pc) rfl (hb hby hd) rfl q ho hp k) (K ((hold_ne x y).1 q))
theorem k_if_ne {o : Int} {x : Int32} {pc'' : Nat} (G : Ctx Γ Z own bytes maxl ret nm rm hs0) (X : W Γ n0 T h C S) (hd : decode bytes pc = .ok (.ifCond .ne o, 3)) (hp : ((pc : Int) + o).toNat = pc') (ho : 0 ≤ (pc : Int) + o) (hp' : pc + 3 = pc'') (K : x ≠ 0 → Go Γ n0 Q T (mkF Γ.m pc' Ls st)) (K' : x = 0 → Go Γ n0 Q T (mkF Γ.m pc'' Ls st)) : Go Γ n0 Q T (mkF Γ.m pc Ls (.int x :: st)) := by
  subst hp'
  obtain ⟨hx, hZ, hown, hby, hml, hret, hnm, hlk, hR, hsH⟩ := G
  obtain ⟨L, X, e, N⟩ := X
  cases q : ifCond.holds .ne x
  · exact Go.of (fun t k => XS.ifNo X.here hx rfl (hb hby hd) rfl q k) (K' ((hold0_ne x).2 q))
  · exact Go.of (fun t k => XS.ifYes X.here hx rfl (pc0 := pc) rfl (hb hby hd) rfl q ho hp k) (K ((hold0_ne x).1 q))
theorem hold_lt (x y : Int32) : (if_icmp.holds .lt x y = true → x.toInt < y.toInt) ∧ (if_icmp.holds .lt x y = false → y.toInt ≤ x.toInt) := by
  constructor <;> intro q <;> simp only [if_icmp.holds] at q <;> simp [Int32.lt_iff_toInt_lt, Int32.le_iff_toInt_le] at q ⊢ <;> first | exact q | omega
theorem hold0_lt (x : Int32) : (ifCond.holds .lt x = true → x.toInt < 0) ∧ (ifCond.holds .lt x = false → 0 ≤ x.toInt) := by
  have z := z32
  constructor <;> intro q <;> simp only [ifCond.holds] at q <;> simp [Int32.lt_iff_toInt_lt, Int32.le_iff_toInt_le] at q ⊢ <;> first | exact q | omega
theorem k_icmp_lt {o : Int} {x y : Int32} {pc'' : Nat} (G : Ctx Γ Z own bytes maxl ret nm rm hs0) (X : W Γ n0 T h C S) (hd : decode bytes pc = .ok (.if_icmp .lt o, 3)) (hp : ((pc : Int) + o).toNat = pc') (ho : 0 ≤ (pc : Int) + o) (hp' : pc + 3 = pc'') (K : x.toInt < y.toInt → Go Γ n0 Q T (mkF Γ.m pc' Ls st)) (K' : y.toInt ≤ x.toInt → Go Γ n0 Q T (mkF Γ.m pc'' Ls st)) : Go Γ n0 Q T (mkF Γ.m pc Ls (.int y :: .int x :: st)) := by
  subst hp'
  obtain ⟨hx, hZ, hown, hby, hml, hret, hnm, hlk, hR, hsH⟩ := G
  obtain ⟨L, X, e, N⟩ := X
  cases q : if_icmp.holds .lt x y
  · exact Go.of (fun t k => XS.icmpNo X.here hx rfl (hb hby hd) rfl q k) (K' ((hold_lt x y).2 q))
  · exact Go.of (fun t k => XS.icmpYes X.here hx rfl (pc0 := pc) rfl (hb hby hd) rfl q ho hp k) (K ((hold_lt x y).1 q))
theorem k_if_lt {o : Int} {x : Int32} {pc'' : Nat} (G : Ctx Γ Z own bytes maxl ret nm rm hs0) (X : W Γ n0 T h C S) (hd : decode bytes pc = .ok (.ifCond .lt o, 3)) (hp : ((pc : Int) + o).toNat = pc') (ho : 0 ≤ (pc : Int) + o) (hp' : pc + 3 = pc'') (K : x.toInt < 0 → Go Γ n0 Q T (mkF Γ.m pc' Ls st)) (K' : 0 ≤ x.toInt → Go Γ n0 Q T (mkF Γ.m pc'' Ls st)) : Go Γ n0 Q T (mkF Γ.m pc Ls (.int x :: st)) := by
  subst hp'
  obtain ⟨hx, hZ, hown, hby, hml, hret, hnm, hlk, hR, hsH⟩ := G
  obtain ⟨L, X, e, N⟩ := X
  cases q : ifCond.holds .lt x
  · exact Go.of (fun t k => XS.ifNo X.here hx rfl (hb hby hd) rfl q k) (K' ((hold0_lt x).2 q))
  · exact Go.of (fun t k => XS.ifYes X.here hx rfl (pc0 := pc) rfl (hb hby hd) rfl q ho hp k) (K ((hold0_lt x).1 q))
theorem hold_ge (x y : Int32) : (if_icmp.holds .ge x y = true → y.toInt ≤ x.toInt) ∧ (if_icmp.holds .ge x y = false → x.toInt < y.toInt) := by
  constructor <;> intro q <;> simp only [if_icmp.holds] at q <;> simp [Int32.lt_iff_toInt_lt, Int32.le_iff_toInt_le] at q ⊢ <;> first | exact q | omega
theorem hold0_ge (x : Int32) : (ifCond.holds .ge x = true → 0 ≤ x.toInt) ∧ (ifCond.holds .ge x = false → x.toInt < 0) := by
  have z := z32
  constructor <;> intro q <;> simp only [ifCond.holds] at q <;> simp [Int32.lt_iff_toInt_lt, Int32.le_iff_toInt_le] at q ⊢ <;> first | exact q | omega
theorem k_icmp_ge {o : Int} {x y : Int32} {pc'' : Nat} (G : Ctx Γ Z own bytes maxl ret nm rm hs0) (X : W Γ n0 T h C S) (hd : decode bytes pc = .ok (.if_icmp .ge o, 3)) (hp : ((pc : Int) + o).toNat = pc') (ho : 0 ≤ (pc : Int) + o) (hp' : pc + 3 = pc'') (K : y.toInt ≤ x.toInt → Go Γ n0 Q T (mkF Γ.m pc' Ls st)) (K' : x.toInt < y.toInt → Go Γ n0 Q T (mkF Γ.m pc'' Ls st)) : Go Γ n0 Q T (mkF Γ.m pc Ls (.int y :: .int x :: st)) := by
  subst hp'
  obtain ⟨hx, hZ, hown, hby, hml, hret, hnm, hlk, hR, hsH⟩ := G
  obtain ⟨L, X, e, N⟩ := X
  cases q : if_icmp.holds .ge x y
  · exact Go.of (fun t k => XS.icmpNo X.here hx rfl (hb hby hd) rfl q k) (K' ((hold_ge x y).2 q))
  · exact Go.of (fun t k => XS.icmpYes X.here hx rfl (pc0 := pc) rfl (hb hby hd) rfl q ho hp k) (K ((hold_ge x y).1 q))
theorem k_if_ge {o : Int} {x : Int32} {pc'' : Nat} (G : Ctx Γ Z own bytes maxl ret nm rm hs0) (X : W Γ n0 T h C S) (hd : decode bytes pc = .ok (.ifCond .ge o, 3)) (hp : ((pc : Int) + o).toNat = pc') (ho : 0 ≤ (pc : Int) + o) (hp' : pc + 3 = pc'') (K : 0 ≤ x.toInt → Go Γ n0 Q T (mkF Γ.m pc' Ls st)) (K' : x.toInt < 0 → Go Γ n0 Q T (mkF Γ.m pc'' Ls st)) : Go Γ n0 Q T (mkF Γ.m pc Ls (.int x :: st)) := by
  subst hp'
  obtain ⟨hx, hZ, hown, hby, hml, hret, hnm, hlk, hR, hsH⟩ := G
  obtain ⟨L, X, e, N⟩ := X
  cases q : ifCond.holds .ge x
  · exact Go.of (fun t k => XS.ifNo X.here hx rfl (hb hby hd) rfl q k) (K' ((hold0_ge x).2 q))
  · exact Go.of (fun t k => XS.ifYes X.here hx rfl (pc0 := pc) rfl (hb hby hd) rfl q ho hp k) (K ((hold0_ge x).1 q))
theorem hold_gt (x y : Int32) : (if_icmp.holds .gt x y = true → y.toInt < x.toInt) ∧ (if_icmp.holds .gt x y = false → x.toInt ≤ y.toInt) := by
  constructor <;> intro q <;> simp only [if_icmp.holds] at q <;> simp [Int32.lt_iff_toInt_lt, Int32.le_iff_toInt_le] at q ⊢ <;> first | exact q | omega
theorem hold0_gt (x : Int32) : (ifCond.holds .gt x = true → 0 < x.toInt) ∧ (ifCond.holds .gt x = false → x.toInt ≤ 0) := by
  have z := z32
  constructor <;> intro q <;> simp only [ifCond.holds] at q <;> simp [Int32.lt_iff_toInt_lt, Int32.le_iff_toInt_le] at q ⊢ <;> first | exact q | omega
theorem k_icmp_gt {o : Int} {x y : Int32} {pc'' : Nat} (G : Ctx Γ Z own bytes maxl ret nm rm hs0) (X : W Γ n0 T h C S) (hd : decode bytes pc = .ok (.if_icmp .gt o, 3)) (hp : ((pc : Int) + o).toNat = pc') (ho : 0 ≤ (pc : Int) + o) (hp' : pc + 3 = pc'') (K : y.toInt < x.toInt → Go Γ n0 Q T (mkF Γ.m pc' Ls st)) (K' : x.toInt ≤ y.toInt → Go Γ n0 Q T (mkF Γ.m pc'' Ls st)) : Go Γ n0 Q T (mkF Γ.m pc Ls (.int y :: .int x :: st)) := by
  subst hp'
  obtain ⟨hx, hZ, hown, hby, hml, hret, hnm, hlk, hR, hsH⟩ := G
  obtain ⟨L, X, e, N⟩ := X
  cases q : if_icmp.holds .gt x y
  · exact Go.of (fun t k => XS.icmpNo X.here hx rfl (hb hby hd) rfl q k) (K' ((hold_gt x y).2 q))
  · exact Go.of (fun t k => XS.icmpYes X.here hx rfl (pc0 := pc) rfl (hb hby hd) rfl q ho hp k) (K ((hold_gt x y).1 q))
theorem k_if_gt {o : Int} {x : Int32} {pc'' : Nat} (G : Ctx Γ Z own bytes maxl ret nm rm hs0) (X : W Γ n0 T h C S) (hd : decode bytes pc = .ok (.ifCond .gt o, 3)) (hp : ((pc : Int) + o).toNat = pc') (ho : 0 ≤ (pc : Int) + o) (hp' : pc + 3 = pc'') (K : 0 < x.toInt → Go Γ n0 Q T (mkF Γ.m pc' Ls st)) (K' : x.toInt ≤ 0 → Go Γ n0 Q T (mkF Γ.m pc'' Ls st)) : Go Γ n0 Q T (mkF Γ.m pc Ls (.int x :: st)) := by
  subst hp'
  obtain ⟨hx, hZ, hown, hby, hml, hret, hnm, hlk, hR, hsH⟩ := G
  obtain ⟨L, X, e, N⟩ := X
  cases q : ifCond.holds .gt x
  · exact Go.of (fun t k => XS.ifNo X.here hx rfl (hb hby hd) rfl q k) (K' ((hold0_gt x).2 q))
  · exact Go.of (fun t k => XS.ifYes X.here hx rfl (pc0 := pc) rfl (hb hby hd) rfl q ho hp k) (K ((hold0_gt x).1 q))
theorem hold_le (x y : Int32) : (if_icmp.holds .le x y = true → x.toInt ≤ y.toInt) ∧ (if_icmp.holds .le x y = false → y.toInt < x.toInt) := by
  constructor <;> intro q <;> simp only [if_icmp.holds] at q <;> simp [Int32.lt_iff_toInt_lt, Int32.le_iff_toInt_le] at q ⊢ <;> first | exact q | omega
theorem hold0_le (x : Int32) : (ifCond.holds .le x = true → x.toInt ≤ 0) ∧ (ifCond.holds .le x = false → 0 < x.toInt) := by
  have z := z32
  constructor <;> intro q <;> simp only [ifCond.holds] at q <;> simp [Int32.lt_iff_toInt_lt, Int32.le_iff_toInt_le] at q ⊢ <;> first | exact q | omega
theorem k_icmp_le {o : Int} {x y : Int32} {pc'' : Nat} (G : Ctx Γ Z own bytes maxl ret nm rm hs0) (X : W Γ n0 T h C S) (hd : decode bytes pc = .ok (.if_icmp .le o, 3)) (hp : ((pc : Int) + o).toNat = pc') (ho : 0 ≤ (pc : Int) + o) (hp' : pc + 3 = pc'') (K : x.toInt ≤ y.toInt → Go Γ n0 Q T (mkF Γ.m pc' Ls st)) (K' : y.toInt < x.toInt → Go Γ n0 Q T (mkF Γ.m pc'' Ls st)) : Go Γ n0 Q T (mkF Γ.m pc Ls (.int y :: .int x :: st)) := by
  subst hp'
  obtain ⟨hx, hZ, hown, hby, hml, hret, hnm, hlk, hR, hsH⟩ := G
  obtain ⟨L, X, e, N⟩ := X
  cases q : if_icmp.holds .le x y
  · exact Go.of (fun t k => XS.icmpNo X.here hx rfl (hb hby hd) rfl q k) (K' ((hold_le x y).2 q))
  · exact Go.of (fun t k => XS.icmpYes X.here hx rfl (pc0 := pc) rfl (hb hby hd) rfl q ho hp k) (K ((hold_le x y).1 q))
theorem k_if_le {o : Int} {x : Int32} {pc'' : Nat} (G : Ctx Γ Z own bytes maxl ret nm rm hs0) (X : W Γ n0 T h C S) (hd : decode bytes pc = .ok (.ifCond .le o, 3)) (hp : ((pc : Int) + o).toNat = pc') (ho : 0 ≤ (pc : Int) + o) (hp' : pc + 3 = pc'') (K : x.toInt ≤ 0 → Go Γ n0 Q T (mkF Γ.m pc' Ls st)) (K' : 0 < x.toInt → Go Γ n0 Q T (mkF Γ.m pc'' Ls st)) : Go Γ n0 Q T (mkF Γ.m pc Ls (.int x :: st)) := by
  subst hp'
  obtain ⟨hx, hZ, hown, hby, hml, hret, hnm, hlk, hR, hsH⟩ := G
  obtain ⟨L, X, e, N⟩ := X
  cases q : ifCond.holds .le x
  · exact Go.of (fun t k => XS.ifNo X.here hx rfl (hb hby hd) rfl q k) (K' ((hold0_le x).2 q))
  · exact Go.of (fun t k => XS.ifYes X.here hx rfl (pc0 := pc) rfl (hb hby hd) rfl q ho hp k) (K ((hold0_le x).1 q))
theorem k_acmp_eq {o : Int} {x y : Value} {pc'' : Nat} (G : Ctx Γ Z own bytes maxl ret nm rm hs0) (X : W Γ n0 T h C S) (hd : decode bytes pc = .ok (.if_acmp .eq o, 3)) (hp : ((pc : Int) + o).toNat = pc') (ho : 0 ≤ (pc : Int) + o) (hp' : pc + 3 = pc'') (h1 : x.isRef = true) (h2 : y.isRef = true) (K : x = y → Go Γ n0 Q T (mkF Γ.m pc' Ls st)) (K' : x ≠ y → Go Γ n0 Q T (mkF Γ.m pc'' Ls st)) : Go Γ n0 Q T (mkF Γ.m pc Ls (y :: x :: st)) := by
  subst hp hp'
  obtain ⟨hx, hZ, hown, hby, hml, hret, hnm, hlk, hR, hsH⟩ := G
  obtain ⟨L, X, e, N⟩ := X
  by_cases q : x = y
  · exact Go.of (fun t k => acmp (g := mkF Γ.m pc Ls (y :: x :: st)) X hx rfl h1 h2 (pc0 := pc) (same := true) rfl (hb hby hd) rfl (decide_eq_true q) ho rfl k) (K q)
  · exact Go.of (fun t k => acmp (g := mkF Γ.m pc Ls (y :: x :: st)) X hx rfl h1 h2 (pc0 := pc) (same := false) rfl (hb hby hd) rfl (decide_eq_false q) ho rfl k) (K' q)
theorem k_acmp_ne {o : Int} {x y : Value} {pc'' : Nat} (G : Ctx Γ Z own bytes maxl ret nm rm hs0) (X : W Γ n0 T h C S) (hd : decode bytes pc = .ok (.if_acmp .ne o, 3)) (hp : ((pc : Int) + o).toNat = pc') (ho : 0 ≤ (pc : Int) + o) (hp' : pc + 3 = pc'') (h1 : x.isRef = true) (h2 : y.isRef = true) (K : x ≠ y → Go Γ n0 Q T (mkF Γ.m pc' Ls st)) (K' : x = y → Go Γ n0 Q T (mkF Γ.m pc'' Ls st)) : Go Γ n0 Q T (mkF Γ.m pc Ls (y :: x :: st)) := by
  subst hp hp'
  obtain ⟨hx, hZ, hown, hby, hml, hret, hnm, hlk, hR, hsH⟩ := G
  obtain ⟨L, X, e, N⟩ := X
  by_cases q : x = y
  · exact Go.of (fun t k => acmp (g := mkF Γ.m pc Ls (y :: x :: st)) X hx rfl h1 h2 (pc0 := pc) (same := true) rfl (hb hby hd) rfl (decide_eq_true q) ho rfl k) (K' q)
  · exact Go.of (fun t k => acmp (g := mkF Γ.m pc Ls (y :: x :: st)) X hx rfl h1 h2 (pc0 := pc) (same := false) rfl (hb hby hd) rfl (decide_eq_false q) ho rfl k) (K q)
theorem k_ifnull {o : Int} {x : Value} {pc'' : Nat} (G : Ctx Γ Z own bytes maxl ret nm rm hs0) (X : W Γ n0 T h C S) (hd : decode bytes pc = .ok (.ifnull o, 3)) (hp : ((pc : Int) + o).toNat = pc') (ho : 0 ≤ (pc : Int) + o) (hp' : pc + 3 = pc'') (h1 : x.isRef = true) (K : x = .null → Go Γ n0 Q T (mkF Γ.m pc' Ls st)) (K' : ∀ a, x = .ref a → Go Γ n0 Q T (mkF Γ.m pc'' Ls st)) : Go Γ n0 Q T (mkF Γ.m pc Ls (x :: st)) := by
  subst hp'
  obtain ⟨hx, hZ, hown, hby, hml, hret, hnm, hlk, hR, hsH⟩ := G
  obtain ⟨L, X, e, N⟩ := X
  rcases ref_cases h1 with rfl | ⟨a, rfl⟩
  · exact Go.of (fun t k => XS.ifnullYes X.here hx rfl (pc0 := pc) rfl (hb hby hd) rfl ho hp k) (K rfl)
  · exact Go.of (fun t k => XS.ifnullNo X.here hx rfl (hb hby hd) rfl k) (K' a rfl)
theorem k_ifnonnull {o : Int} {x : Value} {pc'' : Nat} (G : Ctx Γ Z own bytes maxl ret nm rm hs0) (X : W Γ n0 T h C S) (hd : decode bytes pc = .ok (.ifnonnull o, 3)) (hp : ((pc : Int) + o).toNat = pc') (ho : 0 ≤ (pc : Int) + o) (hp' : pc + 3 = pc'') (h1 : x.isRef = true) (K : ∀ a, x = .ref a → Go Γ n0 Q T (mkF Γ.m pc' Ls st)) (K' : x = .null → Go Γ n0 Q T (mkF Γ.m pc'' Ls st)) : Go Γ n0 Q T (mkF Γ.m pc Ls (x :: st)) := by
  subst hp'
  obtain ⟨hx, hZ, hown, hby, hml, hret, hnm, hlk, hR, hsH⟩ := G
  obtain ⟨L, X, e, N⟩ := X
  rcases ref_cases h1 with rfl | ⟨a, rfl⟩
  · exact Go.of (fun t k => XS.ifnonnullNo X.here hx rfl (hb hby hd) rfl k) (K' rfl)
  · exact Go.of (fun t k => XS.ifnonnullYes X.here hx rfl (pc0 := pc) rfl (hb hby hd) rfl ho hp k) (K a rfl)
theorem k_lswHit {k : Int32} {dflt : Int} {pairs : Array (Int × Int)} {len : Nat} {a off : Int} (G : Ctx Γ Z own bytes maxl ret nm rm hs0) (X : W Γ n0 T h C S) (hd : decode bytes pc = .ok (.lookupswitch dflt pairs, len)) (hs : (pairs.toList.zip (pairs.toList.drop 1)).all (fun (a, next) => a.1 < next.1) = true) (hf : pairs.find? (·.1 == k.toInt) = some (a, off)) (ho : 0 ≤ (pc : Int) + off) (hp : ((pc : Int) + off).toNat = pc') (K : Go Γ n0 Q T (mkF Γ.m pc' Ls st)) : Go Γ n0 Q T (mkF Γ.m pc Ls (.int k :: st)) := by
  subst hp
  obtain ⟨hx, hZ, hown, hby, hml, hret, hnm, hlk, hR, hsH⟩ := G
  obtain ⟨L, X, e, N⟩ := X
  exact Go.of (fun t k' => X.lookupswitchHit hx (g := mkF Γ.m pc Ls (.int k :: st)) rfl rfl (hb hby hd) hs hf ho t k') K
theorem k_lswMiss {k : Int32} {dflt : Int} {pairs : Array (Int × Int)} {len : Nat} (G : Ctx Γ Z own bytes maxl ret nm rm hs0) (X : W Γ n0 T h C S) (hd : decode bytes pc = .ok (.lookupswitch dflt pairs, len)) (hs : (pairs.toList.zip (pairs.toList.drop 1)).all (fun (a, next) => a.1 < next.1) = true) (hf : pairs.find? (·.1 == k.toInt) = none) (ho : 0 ≤ (pc : Int) + dflt) (hp : ((pc : Int) + dflt).toNat = pc') (K : Go Γ n0 Q T (mkF Γ.m pc' Ls st)) : Go Γ n0 Q T (mkF Γ.m pc Ls (.int k :: st)) := by
  subst hp
  obtain ⟨hx, hZ, hown, hby, hml, hret, hnm, hlk, hR, hsH⟩ := G
  obtain ⟨L, X, e, N⟩ := X
  exact Go.of (fun t k' => X.lookupswitchMiss hx (g := mkF Γ.m pc Ls (.int k :: st)) rfl rfl (hb hby hd) hs hf ho t k') K
theorem k_tswIn {k : Int32} {dflt low high : Int} {offs : Array Int} {len : Nat} {off : Int} (G : Ctx Γ Z own bytes maxl ret nm rm hs0) (X : W Γ n0 T h C S) (hd : decode bytes pc = .ok (.tableswitch dflt low high offs, len)) (hin : low ≤ k.toInt ∧ k.toInt ≤ high) (hf : offs[(k.toInt - low).toNat]? = some off) (ho : 0 ≤ (pc : Int) + off) (hp : ((pc : Int) + off).toNat = pc') (K : Go Γ n0 Q T (mkF Γ.m pc' Ls st)) : Go Γ n0 Q T (mkF Γ.m pc Ls (.int k :: st)) := by
  subst hp
  obtain ⟨hx, hZ, hown, hby, hml, hret, hnm, hlk, hR, hsH⟩ := G
  obtain ⟨L, X, e, N⟩ := X
  exact Go.of (fun t k' => X.tableswitchIn hx (g := mkF Γ.m pc Ls (.int k :: st)) rfl rfl (hb hby hd) (by omega) hf ho t k') K
theorem k_tswOut {k : Int32} {dflt low high : Int} {offs : Array Int} {len : Nat} (G : Ctx Γ Z own bytes maxl ret nm rm hs0) (X : W Γ n0 T h C S) (hd : decode bytes pc = .ok (.tableswitch dflt low high offs, len)) (hout : k.toInt < low ∨ high < k.toInt) (ho : 0 ≤ (pc : Int) + dflt) (hp : ((pc : Int) + dflt).toNat = pc') (K : Go Γ n0 Q T (mkF Γ.m pc' Ls st)) : Go Γ n0 Q T (mkF Γ.m pc Ls (.int k :: st)) := by
  subst hp
  obtain ⟨hx, hZ, hown, hby, hml, hret, hnm, hlk, hR, hsH⟩ := G
  obtain ⟨L, X, e, N⟩ := X
  exact Go.of (fun t k' => X.tableswitchOut hx (g := mkF Γ.m pc Ls (.int k :: st)) rfl rfl (hb hby hd) hout ho t k') K
theorem k_ldcI {a0 : Array Value} {idx : Nat} {v : Int32} (G : Ctx Γ Z own bytes maxl ret nm rm hs0) (X : W Γ n0 T h C S) (w : (Cond.constant own idx v).before a0 Z = true) (hd : decode bytes pc = .ok (.ldc idx, 2)) (hp : pc + 2 = pc') (K : Go Γ n0 Q T (mkF Γ.m pc' Ls (.int v :: st))) : Go Γ n0 Q T (mkF Γ.m pc Ls st) := by
  subst hp
  obtain ⟨hx, hZ, hown, hby, hml, hret, hnm, hlk, hR, hsH⟩ := G
  obtain ⟨L, X, e, N⟩ := X
  exact Go.of (fun t k => X.ldcInt hx hown (mvT hZ w) (g := mkF Γ.m pc Ls st) rfl (hb hby hd) t k) K
theorem k_ldcwI {a0 : Array Value} {idx : Nat} {v : Int32} (G : Ctx Γ Z own bytes maxl ret nm rm hs0) (X : W Γ n0 T h C S) (w : (Cond.constant own idx v).before a0 Z = true) (hd : decode bytes pc = .ok (.ldc_w idx, 3)) (hp : pc + 3 = pc') (K : Go Γ n0 Q T (mkF Γ.m pc' Ls (.int v :: st))) : Go Γ n0 Q T (mkF Γ.m pc Ls st) := by
  subst hp
  obtain ⟨hx, hZ, hown, hby, hml, hret, hnm, hlk, hR, hsH⟩ := G
  obtain ⟨L, X, e, N⟩ := X
  exact Go.of (fun t k => X.ldcwInt hx hown (mvT hZ w) (g := mkF Γ.m pc Ls st) rfl (hb hby hd) t k) K
theorem k_ldcL {a0 : Array Value} {idx : Nat} {v : Int64} (G : Ctx Γ Z own bytes maxl ret nm rm hs0) (X : W Γ n0 T h C S) (w : (Cond.constantLong own idx v).before a0 Z = true) (hd : decode bytes pc = .ok (.ldc2_w idx, 3)) (hp : pc + 3 = pc') (K : Go Γ n0 Q T (mkF Γ.m pc' Ls (.long v :: st))) : Go Γ n0 Q T (mkF Γ.m pc Ls st) := by
  subst hp
  obtain ⟨hx, hZ, hown, hby, hml, hret, hnm, hlk, hR, hsH⟩ := G
  obtain ⟨L, X, e, N⟩ := X
  exact Go.of (fun t k => X.ldc2Long hx hown (mvT hZ w) (g := mkF Γ.m pc Ls st) rfl (hb hby hd) t k) K
theorem k_getS {a0 : Array Value} {idx : Nat} {R0 O n d host : String} {v : Value} (G : Ctx Γ Z own bytes maxl ret nm rm hs0) (X : W Γ n0 T h C S) (w : (Cond.fieldLink own idx R0 n d).before a0 Z = true ∨ (Cond.fieldLinkNest own idx R0 n d host).before a0 Z = true) (via : Via Z R0 O n d) (F : Sta Z h O n d v) (hd : decode bytes pc = .ok (.getstatic idx, 3)) (hp : pc + 3 = pc') (K : ∀ T, W Γ n0 T h C S → Go Γ n0 Q T (mkF Γ.m pc' Ls (v :: st))) : Go Γ n0 Q T (mkF Γ.m pc Ls st) := by
  subst hp
  obtain ⟨hx, hZ, hown, hby, hml, hret, hnm, hlk, hR, hsH⟩ := G
  obtain ⟨L, X, e, N⟩ := X
  obtain ⟨T', X', e', st'⟩ := getS2 X hx hZ hown w via e F (g := mkF Γ.m pc Ls st) rfl (hb hby hd)
  exact Go.of st' (K T' ⟨L, X', e', N⟩)
theorem k_getF {a0 : Array Value} {idx : Nat} {R0 O n d host : String} {v : Value} {a : Addr} (G : Ctx Γ Z own bytes maxl ret nm rm hs0) (X : W Γ n0 T h C S) (w : (Cond.fieldLink own idx R0 n d).before a0 Z = true ∨ (Cond.fieldLinkNest own idx R0 n d host).before a0 Z = true) (via : Via Z R0 O n d) (F : Fld Z h a O n d v) (hd : decode bytes pc = .ok (.getfield idx, 3)) (hp : pc + 3 = pc') (K : ∀ T, W Γ n0 T h C S → Go Γ n0 Q T (mkF Γ.m pc' Ls (v :: st))) : Go Γ n0 Q T (mkF Γ.m pc Ls (.ref a :: st)) := by
  subst hp
  obtain ⟨hx, hZ, hown, hby, hml, hret, hnm, hlk, hR, hsH⟩ := G
  obtain ⟨L, X, e, N⟩ := X
  obtain ⟨T', X', e', st'⟩ := getF X hx hZ hown w via e F (g := mkF Γ.m pc Ls (.ref a :: st)) rfl rfl (hb hby hd)
  exact Go.of st' (K T' ⟨L, X', e', N⟩)
theorem k_putF {a0 : Array Value} {idx kk : Nat} {R0 O n d host CC : String} {v old : Value} {ty : FieldType} {a : Addr} (G : Ctx Γ Z own bytes maxl ret nm rm hs0) (X : W Γ n0 T h C S) (w : (Cond.fieldLink own idx R0 n d).before a0 Z = true ∨ (Cond.fieldLinkNest own idx R0 n d host).before a0 Z = true) (via : Via Z R0 O n d) (F : Fld Z h a O n d old) (E : Exa Z h a CC) (lay : (Cond.lays CC O n d).before a0 Z = true ∨ ((Cond.laysFinal CC O n d).before a0 Z = true ∧ own = O ∧ nm = "<init>")) (wi : (Cond.instantiable CC kk).before a0 Z = true) (ht : parseFieldDescriptor d = some ty) (hn : narrow ty v = v) (hf : fits ty v = true) (ga : n0 ≤ a) (hd : decode bytes pc = .ok (.putfield idx, 3)) (hp : pc + 3 = pc') (K : ∀ T h', Wr h h' a (Jvm.RoadKit.slotOf Z O n d) v → W Γ n0 T h' C S → Go Γ n0 Q T (mkF Γ.m pc' Ls st)) : Go Γ n0 Q T (mkF Γ.m pc Ls (v :: .ref a :: st)) := by
  subst hp
  obtain ⟨hx, hZ, hown, hby, hml, hret, hnm, hlk, hR, hsH⟩ := G
  obtain ⟨L, X, e, N⟩ := X
  obtain ⟨T', h', X', e', W', st'⟩ := putF X hx hZ hown w via e F E (by rw [hnm]; exact lay) wi ht hn hf (g := mkF Γ.m pc Ls (v :: .ref a :: st)) rfl rfl (hb hby hd)
  exact Go.of st' (K T' h' W' ⟨_, X', e', Fr.snoc X' N ga⟩)
theorem k_putFN {a0 : Array Value} {idx kk : Nat} {R0 O n d CC : String} {v v' old : Value} {ty : FieldType} {a : Addr} (G : Ctx Γ Z own bytes maxl ret nm rm hs0) (X : W Γ n0 T h C S) (w : (Cond.fieldLink own idx R0 n d).before a0 Z = true) (via : Via Z R0 O n d) (F : Fld Z h a O n d old) (E : Exa Z h a CC) (lay : (Cond.lays CC O n d).before a0 Z = true ∨ ((Cond.laysFinal CC O n d).before a0 Z = true ∧ own = O ∧ nm = "<init>")) (wi : (Cond.instantiable CC kk).before a0 Z = true) (ht : parseFieldDescriptor d = some ty) (hn : narrow ty v = v') (hf : fits ty v' = true) (ga : n0 ≤ a) (hd : decode bytes pc = .ok (.putfield idx, 3)) (hp : pc + 3 = pc') (K : ∀ T h', Wr h h' a (Jvm.RoadKit.slotOf Z O n d) v' → W Γ n0 T h' C S → Go Γ n0 Q T (mkF Γ.m pc' Ls st)) : Go Γ n0 Q T (mkF Γ.m pc Ls (v :: .ref a :: st)) := by
  subst hp
  obtain ⟨hx, hZ, hown, hby, hml, hret, hnm, hlk, hR, hsH⟩ := G
  obtain ⟨L, X, e, N⟩ := X
  obtain ⟨T', h', X', e', W', st'⟩ := putFN X hx hZ hown w via e F E (by rw [hnm]; exact lay) wi ht hn hf (g := mkF Γ.m pc Ls (v :: .ref a :: st)) rfl rfl (hb hby hd)
  exact Go.of st' (K T' h' W' ⟨_, X', e', Fr.snoc X' N ga⟩)
theorem k_new {a0 : Array Value} {idx k : Nat} {CC : String} (G : Ctx Γ Z own bytes maxl ret nm rm hs0) (X : W Γ n0 T h C S) (w : (Cond.classLink own idx CC).before a0 Z = true) (wi : (Cond.instantiable CC k).before a0 Z = true) (wz : (Cond.initialized CC).before a0 Z = true) (hd : decode bytes pc = .ok (.new idx, 3)) (hp : pc + 3 = pc') (hc : C + 1 ≤ rm.cells) (hs : S + k ≤ rm.slots)
    (K : ∀ T h' a, h.size = a → Ext h h' → Exa Z h' a CC → (∀ {O nm d : String} {ty : FieldType}, Laid Z a0 CC O nm d → parseFieldDescriptor d = some ty → Fld Z h' a O nm d (defaultValue ty)) → W Γ n0 T h' (C + 1) (S + k) → Go Γ n0 Q T (mkF Γ.m pc' Ls (.ref a :: st))) : Go Γ n0 Q T (mkF Γ.m pc Ls st) := by
  subst hp
  obtain ⟨hx, hZ, hown, hby, hml, hret, hnm, hlk, hR, hsH⟩ := G
  obtain ⟨L, X, e, N⟩ := X
  obtain ⟨T', h', X', e', E', A', D', -, st'⟩ := newO X hx hZ hown w wi wz e (g := mkF Γ.m pc Ls st) rfl (hb hby hd) (hR ▸ hc) (hR ▸ hs)
  exact Go.of st' (K T' h' _ rfl E' A' D' ⟨L, X', e', N⟩)
theorem k_initO {a0 : Array Value} {idx : Nat} {a : Addr} {wd : Nat} (G : Ctx Γ Z own bytes maxl ret nm rm hs0) (X : W Γ n0 T h C S) (w1 : (Cond.methodLink own idx Lib.objectInit).before a0 Z = true) (w2 : (Cond.instanceMethod Lib.objectInit).before a0 Z = true) (w3 : (Cond.code Lib.objectInit ⟨#[0xb1]⟩ 1 none).before a0 Z = true) (hd : decode bytes pc = .ok (.invokespecial idx, 3)) (hp : pc + 3 = pc') (hL : Ls.size = maxl) (hf : 1 ≤ rm.frames) (hwd : (st.map fun v => v.category).sum = wd) (hl : wd + 12 ≤ rm.locals) (K : ∀ T, W Γ n0 T h C S → Go Γ n0 Q T (mkF Γ.m pc' Ls st)) : Go Γ n0 Q T (mkF Γ.m pc Ls (.ref a :: st)) := by
  subst hp
  obtain ⟨hx, hZ, hown, hby, hml, hret, hnm, hlk, hR, hsH⟩ := G
  obtain ⟨L, X, e, N⟩ := X
  obtain ⟨T', X', e', st'⟩ := initO X hx hZ hown w1 w2 w3 e (g := mkF Γ.m pc Ls (.ref a :: st)) rfl (by rw [hml]; exact hL) rfl (hb hby hd) (hR ▸ hf) (W := wd) (by show 2 * 0 + _ ≤ _; omega) (hR ▸ hl)
  exact Go.of st' (K T' ⟨L, X', e', N⟩)
theorem k_castY {a0 : Array Value} {idx : Nat} {KK : String} {a : Addr} (G : Ctx Γ Z own bytes maxl ret nm rm hs0) (X : W Γ n0 T h C S) (w : (Cond.classLink own idx KK).before a0 Z = true) (F : Ins Z h a KK true) (hd : decode bytes pc = .ok (.checkcast idx, 3)) (hp : pc + 3 = pc') (K : ∀ T, W Γ n0 T h C S → Go Γ n0 Q T (mkF Γ.m pc' Ls (.ref a :: st))) : Go Γ n0 Q T (mkF Γ.m pc Ls (.ref a :: st)) := by
  subst hp
  obtain ⟨hx, hZ, hown, hby, hml, hret, hnm, hlk, hR, hsH⟩ := G
  obtain ⟨L, X, e, N⟩ := X
  obtain ⟨T', X', e', st'⟩ := castY X hx hZ hown w e F (g := mkF Γ.m pc Ls (.ref a :: st)) rfl rfl (hb hby hd)
  exact Go.of st' (K T' ⟨L, X', e', N⟩)
theorem k_instY {a0 : Array Value} {idx : Nat} {KK : String} {a : Addr} (G : Ctx Γ Z own bytes maxl ret nm rm hs0) (X : W Γ n0 T h C S) (w : (Cond.classLink own idx KK).before a0 Z = true) (F : Ins Z h a KK true) (hd : decode bytes pc = .ok (.instanceof idx, 3)) (hp : pc + 3 = pc') (K : ∀ T, W Γ n0 T h C S → Go Γ n0 Q T (mkF Γ.m pc' Ls (.int 1 :: st))) : Go Γ n0 Q T (mkF Γ.m pc Ls (.ref a :: st)) := by
  subst hp
  obtain ⟨hx, hZ, hown, hby, hml, hret, hnm, hlk, hR, hsH⟩ := G
  obtain ⟨L, X, e, N⟩ := X
  obtain ⟨T', X', e', st'⟩ := instY X hx hZ hown w e F (g := mkF Γ.m pc Ls (.ref a :: st)) rfl rfl (hb hby hd)
  exact Go.of st' (K T' ⟨L, X', e', N⟩)
theorem k_callS {a0 : Array Value} {idx : Nat} {y : MethodName} {by' : ByteArray} {maxL' : Nat} {ret' : Option FieldType} {rm' : Room} {ps : List FieldType} {rt : Option FieldType} {wd : Nat} {QY : Option Value → Heap → Prop} {argsL rest : List Value} (G : Ctx Γ Z own bytes maxl ret nm rm hs0) (X : W Γ n0 T h C S) (hst : st = argsL.reverse ++ rest) (w1 : (Cond.methodLink own idx y).before a0 Z = true) (w2 : (Cond.static y).before a0 Z = true) (wz : (Cond.initialized y.cls).before a0 Z = true) (wc : (Cond.code y by' maxL' ret').before a0 Z = true) (hy : y.cls ≠ "java/lang/invoke/MethodHandle" ∧ y.cls ≠ "java/lang/invoke/VarHandle") (M : Met Z y by' maxL' ret' rm' argsL.toArray h n0 QY) (hd : decode bytes pc = .ok (.invokestatic idx, 3)) (pd : parseMethodDescriptor y.desc = some ⟨ps, rt⟩) (hn : argsL.length = ps.length) (hp : pc + 3 = pc') (hL : Ls.size = maxl) (hwd : (rest.map fun v => v.category).sum = wd) (hf : rm'.frames + 1 ≤ rm.frames) (hlo : wd + (maxL' + 11) + rm'.locals ≤ rm.locals) (hc : C + rm'.cells ≤ rm.cells) (hs : S + rm'.slots ≤ rm.slots) (K : ∀ T h' v, W Γ n0 T h' (C + rm'.cells) (S + rm'.slots) → QY v h' → Go Γ n0 Q T (mkF Γ.m pc' Ls (v.toList ++ rest))) : Go Γ n0 Q T (mkF Γ.m pc Ls st) := by
  subst hp hst
  obtain ⟨hx, hZ, hown, hby, hml, hret, hnm, hlk, hR, hsH⟩ := G
  obtain ⟨L, X, e, N⟩ := X
  obtain ⟨v1, _, ⟨T1, L1, k1, n1⟩, -, X1, ⟨Lc1, q1, l1, y1, z1⟩, s1⟩ := Jvm.LawKit.callS X hx hown (mvT hZ w1) (mvT hZ w2) (mvT hZ wz) (mvT hZ wc) hy (backOf (W := wd) (Q := fun v h L => QY v h ∧ Fr n0 L) (M Γ.l) hZ wc wz (hR ▸ hf) (hR ▸ hlo)) (g := mkF Γ.m pc Ls (argsL.reverse ++ rest)) rfl (by rw [hml]; exact hL) (argsL := argsL) (rest := rest) (lenOf pd hn) rfl (by show 2 * 0 + _ ≤ _; omega) (hb hby hd) (fun _ _ => ⟨rfl, e, hR ▸ hc, hR ▸ hs⟩)
  dsimp only [Pt.U, Pt.locs, Pt.cells, Pt.slots] at X1 l1 y1 z1 s1 q1
  subst l1 y1 z1
  exact Go.of s1 (K T1 _ v1 ⟨_, X1, rfl, Fr.app N q1.2⟩ q1.1)
theorem k_callI {a0 : Array Value} {idx : Nat} {y : MethodName} {by' : ByteArray} {maxL' : Nat} {rm' : Room} {ps : List FieldType} {rt : Option FieldType} {wd : Nat} {QY : Option Value → Heap → Prop} {argsL rest : List Value} {a : Addr} (G : Ctx Γ Z own bytes maxl ret nm rm hs0) (X : W Γ n0 T h C S) (hst : st = argsL.reverse ++ .ref a :: rest) (hy1 : y.name = "<init>") (w1 : (Cond.methodLink own idx y).before a0 Z = true) (w2 : (Cond.instanceMethod y).before a0 Z = true) (wz : (Cond.initialized y.cls).before a0 Z = true) (wc : (Cond.code y by' maxL' none).before a0 Z = true) (hy : y.cls ≠ "java/lang/invoke/MethodHandle" ∧ y.cls ≠ "java/lang/invoke/VarHandle") (M : Met Z y by' maxL' none rm' (.ref a :: argsL).toArray h n0 QY) (hd : decode bytes pc = .ok (.invokespecial idx, 3)) (pd : parseMethodDescriptor y.desc = some ⟨ps, rt⟩) (hn : argsL.length = ps.length) (hp : pc + 3 = pc') (hL : Ls.size = maxl) (hwd : (rest.map fun v => v.category).sum = wd) (hf : rm'.frames + 1 ≤ rm.frames) (hlo : wd + (maxL' + 11) + rm'.locals ≤ rm.locals) (hc : C + rm'.cells ≤ rm.cells) (hs : S + rm'.slots ≤ rm.slots) (K : ∀ T h' v, W Γ n0 T h' (C + rm'.cells) (S + rm'.slots) → QY v h' → Go Γ n0 Q T (mkF Γ.m pc' Ls (v.toList ++ rest))) : Go Γ n0 Q T (mkF Γ.m pc Ls st) := by
  subst hp hst
  obtain ⟨hx, hZ, hown, hby, hml, hret, hnm, hlk, hR, hsH⟩ := G
  obtain ⟨L, X, e, N⟩ := X
  obtain ⟨v1, _, ⟨T1, L1, k1, n1⟩, -, X1, ⟨Lc1, q1, l1, y1, z1⟩, s1⟩ := X.specialBack hx hy1 hown (mvT hZ w1) (mvT hZ w2) (mvT hZ wc) hy (backOf (W := wd) (Q := fun v h L => QY v h ∧ Fr n0 L) (M Γ.l) hZ wc wz (hR ▸ hf) (hR ▸ hlo)) (g := mkF Γ.m pc Ls (argsL.reverse ++ .ref a :: rest)) rfl (by rw [hml]; exact hL) (Steps.refl _) (a := a) (argsL := argsL) (rest := rest) (lenOf pd hn) rfl (by show 2 * 0 + _ ≤ _; omega) (hb hby hd) (fun _ _ => ⟨rfl, e, hR ▸ hc, hR ▸ hs⟩)
  dsimp only [Pt.U, Pt.locs, Pt.cells, Pt.slots] at X1 l1 y1 z1 s1 q1
  subst l1 y1 z1
  exact Go.of (fun t k => s1.trans k) (K T1 _ v1 ⟨_, X1, rfl, Fr.app N q1.2⟩ q1.1)
theorem k_callV {a0 : Array Value} {idx : Nat} {y : MethodName} {by' : ByteArray} {maxL' : Nat} {ret' : Option FieldType} {rm' : Room} {ps : List FieldType} {rt : Option FieldType} {wd : Nat} {QY : Option Value → Heap → Prop} {argsL rest : List Value} {a : Addr} {CC : String} {z : MethodName} (G : Ctx Γ Z own bytes maxl ret nm rm hs0) (X : W Γ n0 T h C S) (hst : st = argsL.reverse ++ .ref a :: rest) (E : Exa Z h a CC) (w1 : (Cond.methodLink own idx y).before a0 Z = true) (w2 : (Cond.declares y).before a0 Z = true) (nf : ∀ s : State, Z.Warmed39 s.vm → NotFace s y) (w3 : (Cond.selects CC y z).before a0 Z = true) (w4 : (Cond.instanceMethod z).before a0 Z = true) (wz : (Cond.initialized z.cls).before a0 Z = true) (wc : (Cond.code z by' maxL' ret').before a0 Z = true) (hy : y.cls ≠ "java/lang/invoke/MethodHandle" ∧ y.cls ≠ "java/lang/invoke/VarHandle") (M : Met Z z by' maxL' ret' rm' (.ref a :: argsL).toArray h n0 QY) (hd : decode bytes pc = .ok (.invokevirtual idx, 3)) (pd : parseMethodDescriptor y.desc = some ⟨ps, rt⟩) (hn : argsL.length = ps.length) (hp : pc + 3 = pc') (hL : Ls.size = maxl) (hwd : (rest.map fun v => v.category).sum = wd) (hf : rm'.frames + 1 ≤ rm.frames) (hlo : wd + (maxL' + 11) + rm'.locals ≤ rm.locals) (hc : C + rm'.cells ≤ rm.cells) (hs : S + rm'.slots ≤ rm.slots) (K : ∀ T h' v, W Γ n0 T h' (C + rm'.cells) (S + rm'.slots) → QY v h' → Go Γ n0 Q T (mkF Γ.m pc' Ls (v.toList ++ rest))) : Go Γ n0 Q T (mkF Γ.m pc Ls st) := by
  subst hp hst
  obtain ⟨hx, hZ, hown, hby, hml, hret, hnm, hlk, hR, hsH⟩ := G
  obtain ⟨L, X, e, N⟩ := X
  obtain ⟨cq, kq, qa, qb, qc⟩ := isOf hZ e E
  obtain ⟨v1, _, ⟨T1, L1, k1, n1⟩, -, X1, ⟨Lc1, q1, l1, y1, z1⟩, s1⟩ := X.virtualBack hx hown (mvT hZ w1) (mvT hZ w2) (nf _ hZ) (mvT hZ w3) (mvT hZ w4) hy (backOf (W := wd) (Q := fun v h L => QY v h ∧ Fr n0 L) (M Γ.l) hZ wc wz (hR ▸ hf) (hR ▸ hlo)) qa qc (g := mkF Γ.m pc Ls (argsL.reverse ++ .ref a :: rest)) rfl (by rw [hml]; exact hL) (Steps.refl _) (argsL := argsL) (rest := rest) (lenOf pd hn) rfl (by show 2 * 0 + _ ≤ _; omega) (hb hby hd) (fun _ _ => ⟨rfl, e, hR ▸ hc, hR ▸ hs⟩)
  dsimp only [Pt.U, Pt.locs, Pt.cells, Pt.slots] at X1 l1 y1 z1 s1 q1
  subst l1 y1 z1
  exact Go.of (fun t k => s1.trans k) (K T1 _ v1 ⟨_, X1, rfl, Fr.app N q1.2⟩ q1.1)
theorem nf_sel {a0 : Array Value} {CC : String} {y : MethodName} (w3 : (Cond.selects CC y y).before a0 Z = true) : ∀ s : State, Z.Warmed39 s.vm → NotFace s y := fun s hZ => notFace_of_selects (args := #[]) (mvT hZ w3)
theorem k_callVU {a0 : Array Value} {idx : Nat} {y : MethodName} {by' : ByteArray} {maxL' : Nat} {ret' : Option FieldType} {rm' : Room} {ps : List FieldType} {rt : Option FieldType} {wd : Nat} {QY : Option Value → Heap → Prop} {argsL rest : List Value} {a : Addr} {CC owner : String} {z : MethodName} (G : Ctx Γ Z own bytes maxl ret nm rm hs0) (X : W Γ n0 T h C S) (hst : st = argsL.reverse ++ .ref a :: rest) (E : Exa Z h a CC) (w1 : (Cond.methodLink own idx y).before a0 Z = true) (ws : (Cond.sameMethod y.cls owner y.name y.desc).before a0 Z = true) (w2 : (Cond.declares ⟨owner, y.name, y.desc⟩).before a0 Z = true) (w3 : (Cond.selects CC y z).before a0 Z = true) (w4 : (Cond.instanceMethod z).before a0 Z = true) (wz : (Cond.initialized z.cls).before a0 Z = true) (wc : (Cond.code z by' maxL' ret').before a0 Z = true) (hy : owner ≠ "java/lang/invoke/MethodHandle" ∧ owner ≠ "java/lang/invoke/VarHandle") (M : Met Z z by' maxL' ret' rm' (.ref a :: argsL).toArray h n0 QY) (hd : decode bytes pc = .ok (.invokevirtual idx, 3)) (pd : parseMethodDescriptor y.desc = some ⟨ps, rt⟩) (hn : argsL.length = ps.length) (hp : pc + 3 = pc') (hL : Ls.size = maxl) (hwd : (rest.map fun v => v.category).sum = wd) (hf : rm'.frames + 1 ≤ rm.frames) (hlo : wd + (maxL' + 11) + rm'.locals ≤ rm.locals) (hc : C + rm'.cells ≤ rm.cells) (hs : S + rm'.slots ≤ rm.slots) (K : ∀ T h' v, W Γ n0 T h' (C + rm'.cells) (S + rm'.slots) → QY v h' → Go Γ n0 Q T (mkF Γ.m pc' Ls (v.toList ++ rest))) : Go Γ n0 Q T (mkF Γ.m pc Ls st) := by
  subst hp hst
  obtain ⟨hx, hZ, hown, hby, hml, hret, hnm, hlk, hR, hsH⟩ := G
  obtain ⟨L, X, e, N⟩ := X
  obtain ⟨cq, kq, qa, qb, qc⟩ := isOf hZ e E
  obtain ⟨v1, _, ⟨T1, L1, k1, n1⟩, -, X1, ⟨Lc1, q1, l1, y1, z1⟩, s1⟩ := X.virtualBackUp hx hown (mvT hZ w1) (mvT hZ ws) (mvT hZ w2) hy (mvT hZ w3) (mvT hZ w4) (backOf (W := wd) (Q := fun v h L => QY v h ∧ Fr n0 L) (M Γ.l) hZ wc wz (hR ▸ hf) (hR ▸ hlo)) qa qc (g := mkF Γ.m pc Ls (argsL.reverse ++ .ref a :: rest)) rfl (by rw [hml]; exact hL) (Steps.refl _) (argsL := argsL) (rest := rest) (lenOf pd hn) rfl (by show 2 * 0 + _ ≤ _; omega) (hb hby hd) (fun _ _ => ⟨rfl, e, hR ▸ hc, hR ▸ hs⟩)
  dsimp only [Pt.U, Pt.locs, Pt.cells, Pt.slots] at X1 l1 y1 z1 s1 q1
  subst l1 y1 z1
  exact Go.of (fun t k => s1.trans k) (K T1 _ v1 ⟨_, X1, rfl, Fr.app N q1.2⟩ q1.1)
theorem k_callF {a0 : Array Value} {idx : Nat} {y : MethodName} {by' : ByteArray} {maxL' : Nat} {ret' : Option FieldType} {rm' : Room} {ps : List FieldType} {rt : Option FieldType} {wd : Nat} {QY : Option Value → Heap → Prop} {argsL rest : List Value} {a : Addr} {CC : String} {z : MethodName} {cnt : Nat} (G : Ctx Γ Z own bytes maxl ret nm rm hs0) (X : W Γ n0 T h C S) (hst : st = argsL.reverse ++ .ref a :: rest) (E : Exa Z h a CC) (w1 : (Cond.methodLink own idx y).before a0 Z = true) (w2 : (Cond.declares y).before a0 Z = true) (wf : (Cond.interfaceMethod y.cls y.cls y.name y.desc).before a0 Z = true) (hwf : ((Cond.interfaceMethod y.cls y.cls y.name y.desc).onTables && (Cond.interfaceMethod y.cls y.cls y.name y.desc).keepsFace) = true) (w3 : (Cond.selects CC y z).before a0 Z = true) (w4 : (Cond.instanceMethod z).before a0 Z = true) (wp : (Cond.publicMethod z).before a0 Z = true) (wu : (Cond.unhidden CC y.name y.desc).before a0 Z = true) (wk : (Cond.castable CC y.cls).before a0 Z = true) (wz : (Cond.initialized z.cls).before a0 Z = true) (wc : (Cond.code z by' maxL' ret').before a0 Z = true) (hy : y.cls ≠ "java/lang/invoke/MethodHandle" ∧ y.cls ≠ "java/lang/invoke/VarHandle") (M : Met Z z by' maxL' ret' rm' (.ref a :: argsL).toArray h n0 QY) (hd : decode bytes pc = .ok (.invokeinterface idx cnt, 5)) (pd : parseMethodDescriptor y.desc = some ⟨ps, rt⟩) (hn : argsL.length = ps.length) (hp : pc + 5 = pc') (hL : Ls.size = maxl) (hwd : (rest.map fun v => v.category).sum = wd) (hf : rm'.frames + 1 ≤ rm.frames) (hlo : wd + (maxL' + 11) + rm'.locals ≤ rm.locals) (hc : C + rm'.cells ≤ rm.cells) (hs : S + rm'.slots ≤ rm.slots) (K : ∀ T h' v, W Γ n0 T h' (C + rm'.cells) (S + rm'.slots) → QY v h' → Go Γ n0 Q T (mkF Γ.m pc' Ls (v.toList ++ rest))) : Go Γ n0 Q T (mkF Γ.m pc Ls st) := by
  subst hp hst
  obtain ⟨hx, hZ, hown, hby, hml, hret, hnm, hlk, hR, hsH⟩ := G
  obtain ⟨L, X, e, N⟩ := X
  obtain ⟨cq, kq, qa, qb, qc⟩ := isOf hZ e E
  obtain ⟨v1, _, ⟨T1, L1, k1, n1⟩, -, X1, ⟨Lc1, q1, l1, y1, z1⟩, s1⟩ := X.interfaceBack hx hown (mvT hZ w1) (mvT hZ w2) (mvT hZ wf hwf) (mvT hZ w3) (mvT hZ w4) (mvT hZ wp) (mvT hZ wu) (mvT hZ wk) hy (backOf (W := wd) (Q := fun v h L => QY v h ∧ Fr n0 L) (M Γ.l) hZ wc wz (hR ▸ hf) (hR ▸ hlo)) qa qb qc (g := mkF Γ.m pc Ls (argsL.reverse ++ .ref a :: rest)) rfl (by rw [hml]; exact hL) (Steps.refl _) (argsL := argsL) (rest := rest) (lenOf pd hn) rfl (by show 2 * 0 + _ ≤ _; omega) (hb hby hd) (fun _ _ => ⟨rfl, e, hR ▸ hc, hR ▸ hs⟩)
  dsimp only [Pt.U, Pt.locs, Pt.cells, Pt.slots] at X1 l1 y1 z1 s1 q1
  subst l1 y1 z1
  exact Go.of (fun t k => s1.trans k) (K T1 _ v1 ⟨_, X1, rfl, Fr.app N q1.2⟩ q1.1)
theorem k_callP {a0 : Array Value} {idx : Nat} {y : MethodName} {by' : ByteArray} {maxL' : Nat} {ret' : Option FieldType} {rm' : Room} {ps : List FieldType} {rt : Option FieldType} {wd : Nat} {QY : Option Value → Heap → Prop} {argsL rest : List Value} {a : Addr} {CC : String} (G : Ctx Γ Z own bytes maxl ret nm rm hs0) (X : W Γ n0 T h C S) (hst : st = argsL.reverse ++ .ref a :: rest) (E : Exa Z h a CC) (w1 : (Cond.methodLink own idx y).before a0 Z = true) (w2 : (Cond.instanceMethod y).before a0 Z = true) (w3 : (Cond.selects y.cls y y).before a0 Z = true) (wp : (Cond.privateMethod y).before a0 Z = true) (wz : (Cond.initialized y.cls).before a0 Z = true) (wc : (Cond.code y by' maxL' ret').before a0 Z = true) (hy : y.cls ≠ "java/lang/invoke/MethodHandle" ∧ y.cls ≠ "java/lang/invoke/VarHandle") (M : Met Z y by' maxL' ret' rm' (.ref a :: argsL).toArray h n0 QY) (hd : decode bytes pc = .ok (.invokevirtual idx, 3)) (pd : parseMethodDescriptor y.desc = some ⟨ps, rt⟩) (hn : argsL.length = ps.length) (hp : pc + 3 = pc') (hL : Ls.size = maxl) (hwd : (rest.map fun v => v.category).sum = wd) (hf : rm'.frames + 1 ≤ rm.frames) (hlo : wd + (maxL' + 11) + rm'.locals ≤ rm.locals) (hc : C + rm'.cells ≤ rm.cells) (hs : S + rm'.slots ≤ rm.slots) (K : ∀ T h' v, W Γ n0 T h' (C + rm'.cells) (S + rm'.slots) → QY v h' → Go Γ n0 Q T (mkF Γ.m pc' Ls (v.toList ++ rest))) : Go Γ n0 Q T (mkF Γ.m pc Ls st) := by
  subst hp hst
  obtain ⟨hx, hZ, hown, hby, hml, hret, hnm, hlk, hR, hsH⟩ := G
  obtain ⟨L, X, e, N⟩ := X
  obtain ⟨cq, qa, qb⟩ := E.cell
  obtain ⟨v1, _, ⟨T1, L1, k1, n1⟩, -, X1, ⟨Lc1, q1, l1, y1, z1⟩, s1⟩ := X.privateBack hx hown (mvT hZ w1) (mvT hZ w2) (mvT hZ w3) (Cond.privateMethod_at (mvP hZ wp (args := #[]))) (mvT hZ wc) hy (backOf (W := wd) (Q := fun v h L => QY v h ∧ Fr n0 L) (M Γ.l) hZ wc wz (hR ▸ hf) (hR ▸ hlo)) (g := mkF Γ.m pc Ls (argsL.reverse ++ .ref a :: rest)) rfl (by rw [hml]; exact hL) (Steps.refl _) (a := a) (by rw [e]; exact qa) qb (argsL := argsL) (rest := rest) (lenOf pd hn) rfl (by show 2 * 0 + _ ≤ _; omega) (hb hby hd) (fun _ _ => ⟨rfl, e, hR ▸ hc, hR ▸ hs⟩)
  dsimp only [Pt.U, Pt.locs, Pt.cells, Pt.slots] at X1 l1 y1 z1 s1 q1
  subst l1 y1 z1
  exact Go.of (fun t k => s1.trans k) (K T1 _ v1 ⟨_, X1, rfl, Fr.app N q1.2⟩ q1.1)
theorem k_callU {a0 : Array Value} {idx : Nat} {y : MethodName} {by' : ByteArray} {maxL' : Nat} {ret' : Option FieldType} {rm' : Room} {ps : List FieldType} {rt : Option FieldType} {wd : Nat} {QY : Option Value → Heap → Prop} {argsL rest : List Value} {a : Addr} {KS : String} (G : Ctx Γ Z own bytes maxl ret nm rm hs0) (X : W Γ n0 T h C S) (hst : st = argsL.reverse ++ .ref a :: rest) (I : Ins Z h a KS true) (w1 : (Cond.methodLink own idx y).before a0 Z = true) (w2 : (Cond.sameMethod y.cls y.cls y.name y.desc).before a0 Z = true) (w3 : (Cond.instanceMethod y).before a0 Z = true) (w4 : (Cond.superclass own y.cls).before a0 Z = true) (hni : y.name ≠ "<init>") (wz : (Cond.initialized y.cls).before a0 Z = true) (wc : (Cond.code y by' maxL' ret').before a0 Z = true) (M : Met Z y by' maxL' ret' rm' (.ref a :: argsL).toArray h n0 QY) (hd : decode bytes pc = .ok (.invokespecial idx, 3)) (pd : parseMethodDescriptor y.desc = some ⟨ps, rt⟩) (hn : argsL.length = ps.length) (hp : pc + 3 = pc') (hL : Ls.size = maxl) (hwd : (rest.map fun v => v.category).sum = wd) (hf : rm'.frames + 1 ≤ rm.frames) (hlo : wd + (maxL' + 11) + rm'.locals ≤ rm.locals) (hc : C + rm'.cells ≤ rm.cells) (hs : S + rm'.slots ≤ rm.slots) (K : ∀ T h' v, W Γ n0 T h' (C + rm'.cells) (S + rm'.slots) → QY v h' → Go Γ n0 Q T (mkF Γ.m pc' Ls (v.toList ++ rest))) : Go Γ n0 Q T (mkF Γ.m pc Ls st) := by
  subst hp hst
  obtain ⟨hx, hZ, hown, hby, hml, hret, hnm, hlk, hR, hsH⟩ := G
  obtain ⟨L, X, e, N⟩ := X
  obtain ⟨v1, _, ⟨T1, L1, k1, n1⟩, -, X1, ⟨Lc1, q1, l1, y1, z1⟩, s1⟩ := superBack X hx hZ hown w1 w2 w3 w4 hni (backOf (W := wd) (Q := fun v h L => QY v h ∧ Fr n0 L) (M Γ.l) hZ wc wz (hR ▸ hf) (hR ▸ hlo)) e I (g := mkF Γ.m pc Ls (argsL.reverse ++ .ref a :: rest)) rfl (by rw [hml]; exact hL) wc (argsL := argsL) (rest := rest) (lenOf pd hn) rfl (by show 2 * 0 + _ ≤ _; omega) (hb hby hd) (fun _ _ => ⟨rfl, e, hR ▸ hc, hR ▸ hs⟩)
  dsimp only [Pt.U, Pt.locs, Pt.cells, Pt.slots] at X1 l1 y1 z1 s1 q1
  subst l1 y1 z1
  exact Go.of (fun t k => s1.trans k) (K T1 _ v1 ⟨_, X1, rfl, Fr.app N q1.2⟩ q1.1)
/-! ### arrays: the components by a function of their place -/
def Arf (Z : State) (h : Heap) (a : Addr) (k : ClassId) (ty : FieldType) (n : Nat) (f : Nat → Value) : Prop := ∃ c : Cell, Arr Z h a c ty ∧ c.cls = k ∧ c.slots.size = n ∧ n < 2147483648 ∧ ∀ i, i < n → c.slots[i]? = some (f i) ∧ fits ty (f i) = true
section A
variable {h' : Heap} {a b : Addr} {k : ClassId} {ty : FieldType} {n : Nat} {f g : Nat → Value} {v : Value} {sl : Nat} {ws : List Addr}
theorem Arf.lt (F : Arf Z h a k ty n f) : a < h.size := by obtain ⟨c, A, -⟩ := F; exact A.lt
theorem Arf.ext (F : Arf Z h a k ty n f) (E : Ext h h') : Arf Z h' a k ty n f := by obtain ⟨c, A, r⟩ := F; exact ⟨c, A.ext E, r⟩
theorem Arf.other (F : Arf Z h b k ty n f) (W : Wr h h' a sl v) (q : b ≠ a) : Arf Z h' b k ty n f := by obtain ⟨c, A, r⟩ := F; exact ⟨c, A.other W q, r⟩
theorem Arf.keep (F : Arf Z h a k ty n f) (K : Keep h h' ws) (q : a ∉ ws) : Arf Z h' a k ty n f := by obtain ⟨c, A, r⟩ := F; exact ⟨c, ⟨K.2.1 a c A.1 q, A.2⟩, r⟩
theorem Arf.congr (F : Arf Z h a k ty n f) (q : ∀ i, i < n → f i = g i) : Arf Z h a k ty n g := by
  obtain ⟨c, A, r1, r2, r3, H⟩ := F
  exact ⟨c, A, r1, r2, r3, fun i hi => by rw [← q i hi]; exact H i hi⟩
theorem Arf.size_lt (F : Arf Z h a k ty n f) : n < 2147483648 := by obtain ⟨c, A, r1, r2, r3, H⟩ := F; exact r3
theorem Arf.fits (F : Arf Z h a k ty n f) {i : Nat} (hi : i < n) : fits ty (f i) = true := by obtain ⟨c, A, r1, r2, r3, H⟩ := F; exact (H i hi).2
theorem idx_of {j : Int32} {i : Nat} (hj : j.toInt = i) : ¬ j < 0 ∧ j.toNatClampNeg = i := by
  rw [Int32.lt_iff_toInt_lt, show (0 : Int32).toInt = 0 from rfl, hj]
  exact ⟨by omega, by simp only [Int32.toNatClampNeg, hj]; omega⟩
theorem Arf.set (F : Arf Z h a k ty n f) {i : Nat} (W : Wr h h' a i v) (hi : i < n) (hv : Jvm.fits ty v = true) : Arf Z h' a k ty n (fun x => if x = i then v else f x) := by
  obtain ⟨c, A, r1, r2, r3, H⟩ := F
  refine ⟨_, A.same W, r1, by rw [sz_set]; exact r2, r3, fun x hx => ?_⟩
  by_cases q : x = i
  · subst q
    refine ⟨?_, by simpa using hv⟩
    simp [Cell.setSlot, r2, hx]
  · refine ⟨?_, by simpa [q] using (H x hx).2⟩
    simp only [Cell.setSlot, if_neg q]
    rw [Array.getElem?_setIfInBounds_ne (fun e => q e.symm)]; exact (H x hx).1
theorem Arf.new {z : Int32} (A : Arr Z h a (newA k ty z) ty) (hz : z.toInt = n) : Arf Z h a k ty n (fun _ => defaultValue ty) := by
  have q := idx_of hz
  refine ⟨_, A, rfl, by rw [sz_new, q.2], by have := Int32.toInt_lt z; omega, fun i hi => ⟨?_, by cases ty <;> rfl⟩⟩
  simp [newA, q.2, hi]
theorem Arf.arv (F : Arf Z h a k ty n f) {z : Int32} (hz : z.toInt = n) (dv : Value) : Arv Z h a k ty z ((List.range n).map f) dv := by
  obtain ⟨c, A, r1, r2, r3, H⟩ := F
  have q := idx_of hz
  refine ⟨c, A, r1, by rw [r2, q.2], q.1, fun i hi => ?_, fun i hi => ?_⟩
  · rw [r2] at hi; rw [(H i hi).1]; simp [List.getD_eq_getElem?_getD, hi]
  · rw [r2] at hi; have := (H i hi).2; simpa [List.getD_eq_getElem?_getD, hi] using this
theorem Arf.of_arv {z : Int32} {vs : List Value} {dv : Value} (F : Arv Z h a k ty z vs dv) (hz : z.toInt = n) (q : ∀ i, i < n → vs.getD i dv = f i) : Arf Z h a k ty n f := by
  obtain ⟨c, A, r1, r2, r3, H, G⟩ := F
  have q' := idx_of hz
  refine ⟨c, A, r1, by rw [r2, q'.2], by have := Int32.toInt_lt z; omega, fun i hi => ?_⟩
  have hi' : i < c.slots.size := by rw [r2, q'.2]; exact hi
  rw [← q i hi]; exact ⟨H i hi', G i hi'⟩
theorem Pln_arf (F : Arf Z h a k ty n f) : ∀ cell : Cell, h[a]? = some cell → cell.vm.isStatics = false := fun cell hc => by obtain ⟨c, A, -⟩ := F; cases A.1.symm.trans hc; exact A.plain
theorem Arf.sto (F : Arf Z h a k ty n f) {CC : String} {y : Addr} (O : Ovr Z k CC) (I : Ins Z h y CC true) : Sto Z h a (.ref y) := by
  obtain ⟨c, A, r1, -⟩ := F; exact Sto.ofV A r1 O I
end A

theorem k_newP {a0 : Array Value} {aty : ArrayType} {z : Int32} {n cap : Nat} (G : Ctx Γ Z own bytes maxl ret nm rm hs0) (X : W Γ n0 T h C S) (w : (Cond.arrayClass (newarray.typeOf aty)).before a0 Z = true) (hd : decode bytes pc = .ok (.newarray aty, 2)) (hp : pc + 2 = pc') (hz : z.toInt = n) (hcap : n ≤ cap) (hbig : cap * 8 ≤ 536870912) (hc : C + 1 ≤ rm.cells) (hs : S + cap ≤ rm.slots) (K : ∀ T h' a k, h.size = a → Ext h h' → Arf Z h' a k (newarray.typeOf aty) n (fun _ => defaultValue (newarray.typeOf aty)) → W Γ n0 T h' (C + 1) (S + cap) → Go Γ n0 Q T (mkF Γ.m pc' Ls (.ref a :: st))) : Go Γ n0 Q T (mkF Γ.m pc Ls (.int z :: st)) := by
  subst hp
  obtain ⟨hx, hZ, hown, hby, hml, hret, hnm, hlk, hR, hsH⟩ := G
  obtain ⟨L, X, e, N⟩ := X
  obtain ⟨T', h', k', X', e', E', A', st'⟩ := newP X hx hZ w e (g := mkF Γ.m pc Ls (.int z :: st)) rfl (hb hby hd) rfl (idx_of hz).1 (cap := cap) (by rw [(idx_of hz).2]; exact hcap) hbig (hR ▸ hc) (hR ▸ hs)
  exact Go.of st' (K T' h' _ k' rfl E' (Arf.new A' hz) ⟨L, X', e', N⟩)
theorem k_newR {a0 : Array Value} {idx : Nat} {CC : String} {z : Int32} {n cap : Nat} (G : Ctx Γ Z own bytes maxl ret nm rm hs0) (X : W Γ n0 T h C S) (w1 : (Cond.classLink own idx CC).before a0 Z = true) (w2 : (Cond.arrayOver (.object CC)).before a0 Z = true) (hd : decode bytes pc = .ok (.anewarray idx, 3)) (hp : pc + 3 = pc') (hz : z.toInt = n) (hcap : n ≤ cap) (hbig : cap * 8 ≤ 536870912) (hc : C + 1 ≤ rm.cells) (hs : S + cap ≤ rm.slots) (K : ∀ T h' a k, h.size = a → Ext h h' → Arf Z h' a k (.object CC) n (fun _ => .null) → Ovr Z k CC → W Γ n0 T h' (C + 1) (S + cap) → Go Γ n0 Q T (mkF Γ.m pc' Ls (.ref a :: st))) : Go Γ n0 Q T (mkF Γ.m pc Ls (.int z :: st)) := by
  subst hp
  obtain ⟨hx, hZ, hown, hby, hml, hret, hnm, hlk, hR, hsH⟩ := G
  obtain ⟨L, X, e, N⟩ := X
  obtain ⟨T', h', k', X', e', E', A', O', st'⟩ := newR X hx hZ hown w1 w2 e (g := mkF Γ.m pc Ls (.int z :: st)) rfl (hb hby hd) rfl (idx_of hz).1 (cap := cap) (by rw [(idx_of hz).2]; exact hcap) hbig (hR ▸ hc) (hR ▸ hs)
  exact Go.of st' (K T' h' _ k' rfl E' (Arf.new A' hz) O' ⟨L, X', e', N⟩)
theorem k_alen {a : Addr} {k : ClassId} {ty : FieldType} {n : Nat} {f : Nat → Value} {z : Int32} (G : Ctx Γ Z own bytes maxl ret nm rm hs0) (X : W Γ n0 T h C S) (F : Arf Z h a k ty n f) (hz : z.toInt = n) (hd : decode bytes pc = .ok (.arraylength, 1)) (hp : pc + 1 = pc') (K : Go Γ n0 Q T (mkF Γ.m pc' Ls (.int z :: st))) : Go Γ n0 Q T (mkF Γ.m pc Ls (.ref a :: st)) := by
  subst hp
  obtain ⟨hx, hZ, hown, hby, hml, hret, hnm, hlk, hR, hsH⟩ := G
  obtain ⟨L, X, e, N⟩ := X
  obtain ⟨cl, A, r1, r2, r3, H⟩ := F
  have q : cl.slots.size.toInt32 = z := by rw [r2]; exact Int32.toInt_inj.mp (by rw [len_toInt r3, hz])
  rw [← q] at K
  exact Go.of (fun t k' => X.arraylength hx (by rw [e]; exact A.1) (State.isArrayOf_alike hZ.alike A.2.1) (g := mkF Γ.m pc Ls (.ref a :: st)) rfl rfl (hb hby hd) t k') K
theorem k_iaload {a : Addr} {k : ClassId} {n i : Nat} {f : Nat → Value} {j : Int32} {v : Value} (G : Ctx Γ Z own bytes maxl ret nm rm hs0) (X : W Γ n0 T h C S) (F : Arf Z h a k .int n f) (hj : j.toInt = i) (hi : i < n) (hv : f i = v) (hd : decode bytes pc = .ok (.iaload, 1)) (hp : pc + 1 = pc') (K : Go Γ n0 Q T (mkF Γ.m pc' Ls (v :: st))) : Go Γ n0 Q T (mkF Γ.m pc Ls (.int j :: .ref a :: st)) := by
  subst hp hv
  obtain ⟨hx, hZ, hown, hby, hml, hret, hnm, hlk, hR, hsH⟩ := G
  obtain ⟨L, X, e, N⟩ := X
  obtain ⟨cl, A, r1, r2, r3, H⟩ := F
  have q := idx_of hj
  exact Go.of (fun t k' => X.iaload hx (by rw [e]; exact A.1) (State.isArrayOf_alike hZ.alike A.2.1) A.2.2 (by rw [r2, q.2]; exact fun u => u.elim q.1 (Nat.not_le.mpr hi)) (by rw [q.2]; exact (H i hi).1) (g := mkF Γ.m pc Ls (.int j :: .ref a :: st)) rfl rfl (hb hby hd) t k') K
theorem k_caload {a : Addr} {k : ClassId} {n i : Nat} {f : Nat → Value} {j : Int32} {v : Value} (G : Ctx Γ Z own bytes maxl ret nm rm hs0) (X : W Γ n0 T h C S) (F : Arf Z h a k .char n f) (hj : j.toInt = i) (hi : i < n) (hv : f i = v) (hd : decode bytes pc = .ok (.caload, 1)) (hp : pc + 1 = pc') (K : Go Γ n0 Q T (mkF Γ.m pc' Ls (v :: st))) : Go Γ n0 Q T (mkF Γ.m pc Ls (.int j :: .ref a :: st)) := by
  subst hp hv
  obtain ⟨hx, hZ, hown, hby, hml, hret, hnm, hlk, hR, hsH⟩ := G
  obtain ⟨L, X, e, N⟩ := X
  obtain ⟨cl, A, r1, r2, r3, H⟩ := F
  have q := idx_of hj
  exact Go.of (fun t k' => X.caload hx (by rw [e]; exact A.1) (State.isArrayOf_alike hZ.alike A.2.1) A.2.2 (by rw [r2, q.2]; exact fun u => u.elim q.1 (Nat.not_le.mpr hi)) (by rw [q.2]; exact (H i hi).1) (g := mkF Γ.m pc Ls (.int j :: .ref a :: st)) rfl rfl (hb hby hd) t k') K
theorem k_saload {a : Addr} {k : ClassId} {n i : Nat} {f : Nat → Value} {j : Int32} {v : Value} (G : Ctx Γ Z own bytes maxl ret nm rm hs0) (X : W Γ n0 T h C S) (F : Arf Z h a k .short n f) (hj : j.toInt = i) (hi : i < n) (hv : f i = v) (hd : decode bytes pc = .ok (.saload, 1)) (hp : pc + 1 = pc') (K : Go Γ n0 Q T (mkF Γ.m pc' Ls (v :: st))) : Go Γ n0 Q T (mkF Γ.m pc Ls (.int j :: .ref a :: st)) := by
  subst hp hv
  obtain ⟨hx, hZ, hown, hby, hml, hret, hnm, hlk, hR, hsH⟩ := G
  obtain ⟨L, X, e, N⟩ := X
  obtain ⟨cl, A, r1, r2, r3, H⟩ := F
  have q := idx_of hj
  exact Go.of (fun t k' => X.saload hx (by rw [e]; exact A.1) (State.isArrayOf_alike hZ.alike A.2.1) A.2.2 (by rw [r2, q.2]; exact fun u => u.elim q.1 (Nat.not_le.mpr hi)) (by rw [q.2]; exact (H i hi).1) (g := mkF Γ.m pc Ls (.int j :: .ref a :: st)) rfl rfl (hb hby hd) t k') K
theorem k_laload {a : Addr} {k : ClassId} {n i : Nat} {f : Nat → Value} {j : Int32} {v : Value} (G : Ctx Γ Z own bytes maxl ret nm rm hs0) (X : W Γ n0 T h C S) (F : Arf Z h a k .long n f) (hj : j.toInt = i) (hi : i < n) (hv : f i = v) (hd : decode bytes pc = .ok (.laload, 1)) (hp : pc + 1 = pc') (K : Go Γ n0 Q T (mkF Γ.m pc' Ls (v :: st))) : Go Γ n0 Q T (mkF Γ.m pc Ls (.int j :: .ref a :: st)) := by
  subst hp hv
  obtain ⟨hx, hZ, hown, hby, hml, hret, hnm, hlk, hR, hsH⟩ := G
  obtain ⟨L, X, e, N⟩ := X
  obtain ⟨cl, A, r1, r2, r3, H⟩ := F
  have q := idx_of hj
  exact Go.of (fun t k' => X.laload hx (by rw [e]; exact A.1) (State.isArrayOf_alike hZ.alike A.2.1) A.2.2 (by rw [r2, q.2]; exact fun u => u.elim q.1 (Nat.not_le.mpr hi)) (by rw [q.2]; exact (H i hi).1) (g := mkF Γ.m pc Ls (.int j :: .ref a :: st)) rfl rfl (hb hby hd) t k') K
theorem k_baload {a : Addr} {k : ClassId} {n i : Nat} {f : Nat → Value} {j : Int32} {v : Value} (G : Ctx Γ Z own bytes maxl ret nm rm hs0) (X : W Γ n0 T h C S) (F : Arf Z h a k .byte n f) (hj : j.toInt = i) (hi : i < n) (hv : f i = v) (hd : decode bytes pc = .ok (.baload, 1)) (hp : pc + 1 = pc') (K : Go Γ n0 Q T (mkF Γ.m pc' Ls (v :: st))) : Go Γ n0 Q T (mkF Γ.m pc Ls (.int j :: .ref a :: st)) := by
  subst hp hv
  obtain ⟨hx, hZ, hown, hby, hml, hret, hnm, hlk, hR, hsH⟩ := G
  obtain ⟨L, X, e, N⟩ := X
  obtain ⟨cl, A, r1, r2, r3, H⟩ := F
  have q := idx_of hj
  exact Go.of (fun t k' => X.baloadBytes hx (by rw [e]; exact A.1) (State.isArrayOf_alike hZ.alike A.2.1) A.2.2 (by rw [r2, q.2]; exact fun u => u.elim q.1 (Nat.not_le.mpr hi)) (by rw [q.2]; exact (H i hi).1) (g := mkF Γ.m pc Ls (.int j :: .ref a :: st)) rfl rfl (hb hby hd) t k') K
theorem k_aaload {a : Addr} {k : ClassId} {ty : FieldType} {n i : Nat} {f : Nat → Value} {j : Int32} {v : Value} (G : Ctx Γ Z own bytes maxl ret nm rm hs0) (X : W Γ n0 T h C S) (F : Arf Z h a k ty n f) (hty : ty.isReference = true) (hj : j.toInt = i) (hi : i < n) (hv : f i = v) (hd : decode bytes pc = .ok (.aaload, 1)) (hp : pc + 1 = pc') (K : Go Γ n0 Q T (mkF Γ.m pc' Ls (v :: st))) : Go Γ n0 Q T (mkF Γ.m pc Ls (.int j :: .ref a :: st)) := by
  subst hp hv
  obtain ⟨hx, hZ, hown, hby, hml, hret, hnm, hlk, hR, hsH⟩ := G
  obtain ⟨L, X, e, N⟩ := X
  obtain ⟨cl, A, r1, r2, r3, H⟩ := F
  have q := idx_of hj
  exact Go.of (fun t k' => X.aaload hx (by rw [e]; exact A.1) (State.isArrayOf_alike hZ.alike A.2.1) hty A.2.2 (by rw [r2, q.2]; exact fun u => u.elim q.1 (Nat.not_le.mpr hi)) (by rw [q.2]; exact (H i hi).1) (g := mkF Γ.m pc Ls (.int j :: .ref a :: st)) rfl rfl (hb hby hd) t k') K
theorem k_iastore {a : Addr} {k : ClassId} {n i : Nat} {f : Nat → Value} {j x z : Int32} (G : Ctx Γ Z own bytes maxl ret nm rm hs0) (X : W Γ n0 T h C S) (F : Arf Z h a k .int n f) (hj : j.toInt = i) (hi : i < n) (hz : x = z) (ga : n0 ≤ a) (hd : decode bytes pc = .ok (.iastore, 1)) (hp : pc + 1 = pc') (K : ∀ T h', Wr h h' a i (.int z) → Arf Z h' a k .int n (fun x => if x = i then (.int z) else f x) → W Γ n0 T h' C S → Go Γ n0 Q T (mkF Γ.m pc' Ls st)) : Go Γ n0 Q T (mkF Γ.m pc Ls (.int x :: .int j :: .ref a :: st)) := by
  subst hp hz
  obtain ⟨hx, hZ, hown, hby, hml, hret, hnm, hlk, hR, hsH⟩ := G
  obtain ⟨L, X, e, N⟩ := X
  have F0 := F
  obtain ⟨cl, A, r1, r2, r3, H⟩ := F
  have q := idx_of hj
  obtain ⟨T', h', X', e', W', st'⟩ := stI X hx hZ e A (j := j) (x := x) (by rw [r2, q.2]; exact fun u => u.elim q.1 (Nat.not_le.mpr hi)) (g := mkF Γ.m pc Ls (.int x :: .int j :: .ref a :: st)) rfl rfl (hb hby hd)
  rw [q.2] at W' X'
  exact Go.of st' (K T' h' W' (F0.set W' hi (rfl)) ⟨_, X', e', Fr.snoc X' N ga⟩)
theorem k_castore {a : Addr} {k : ClassId} {n i : Nat} {f : Nat → Value} {j x z : Int32} (G : Ctx Γ Z own bytes maxl ret nm rm hs0) (X : W Γ n0 T h C S) (F : Arf Z h a k .char n f) (hj : j.toInt = i) (hi : i < n) (hz : nar .char x = z) (ga : n0 ≤ a) (hd : decode bytes pc = .ok (.castore, 1)) (hp : pc + 1 = pc') (K : ∀ T h', Wr h h' a i (.int z) → Arf Z h' a k .char n (fun x => if x = i then (.int z) else f x) → W Γ n0 T h' C S → Go Γ n0 Q T (mkF Γ.m pc' Ls st)) : Go Γ n0 Q T (mkF Γ.m pc Ls (.int x :: .int j :: .ref a :: st)) := by
  subst hp hz
  obtain ⟨hx, hZ, hown, hby, hml, hret, hnm, hlk, hR, hsH⟩ := G
  obtain ⟨L, X, e, N⟩ := X
  have F0 := F
  obtain ⟨cl, A, r1, r2, r3, H⟩ := F
  have q := idx_of hj
  obtain ⟨T', h', X', e', W', st'⟩ := stC X hx hZ e A (j := j) (x := x) (by rw [r2, q.2]; exact fun u => u.elim q.1 (Nat.not_le.mpr hi)) (g := mkF Γ.m pc Ls (.int x :: .int j :: .ref a :: st)) rfl rfl (hb hby hd)
  rw [q.2] at W' X'
  exact Go.of st' (K T' h' W' (F0.set W' hi (fits_nar_char _)) ⟨_, X', e', Fr.snoc X' N ga⟩)
theorem k_sastore {a : Addr} {k : ClassId} {n i : Nat} {f : Nat → Value} {j x z : Int32} (G : Ctx Γ Z own bytes maxl ret nm rm hs0) (X : W Γ n0 T h C S) (F : Arf Z h a k .short n f) (hj : j.toInt = i) (hi : i < n) (hz : nar .short x = z) (ga : n0 ≤ a) (hd : decode bytes pc = .ok (.sastore, 1)) (hp : pc + 1 = pc') (K : ∀ T h', Wr h h' a i (.int z) → Arf Z h' a k .short n (fun x => if x = i then (.int z) else f x) → W Γ n0 T h' C S → Go Γ n0 Q T (mkF Γ.m pc' Ls st)) : Go Γ n0 Q T (mkF Γ.m pc Ls (.int x :: .int j :: .ref a :: st)) := by
  subst hp hz
  obtain ⟨hx, hZ, hown, hby, hml, hret, hnm, hlk, hR, hsH⟩ := G
  obtain ⟨L, X, e, N⟩ := X
  have F0 := F
  obtain ⟨cl, A, r1, r2, r3, H⟩ := F
  have q := idx_of hj
  obtain ⟨T', h', X', e', W', st'⟩ := stS X hx hZ e A (j := j) (x := x) (by rw [r2, q.2]; exact fun u => u.elim q.1 (Nat.not_le.mpr hi)) (g := mkF Γ.m pc Ls (.int x :: .int j :: .ref a :: st)) rfl rfl (hb hby hd)
  rw [q.2] at W' X'
  exact Go.of st' (K T' h' W' (F0.set W' hi (fits_nar_short _)) ⟨_, X', e', Fr.snoc X' N ga⟩)
theorem k_bastore {a : Addr} {k : ClassId} {n i : Nat} {f : Nat → Value} {j x z : Int32} (G : Ctx Γ Z own bytes maxl ret nm rm hs0) (X : W Γ n0 T h C S) (F : Arf Z h a k .byte n f) (hj : j.toInt = i) (hi : i < n) (hz : nar .byte x = z) (ga : n0 ≤ a) (hd : decode bytes pc = .ok (.bastore, 1)) (hp : pc + 1 = pc') (K : ∀ T h', Wr h h' a i (.int z) → Arf Z h' a k .byte n (fun x => if x = i then (.int z) else f x) → W Γ n0 T h' C S → Go Γ n0 Q T (mkF Γ.m pc' Ls st)) : Go Γ n0 Q T (mkF Γ.m pc Ls (.int x :: .int j :: .ref a :: st)) := by
  subst hp hz
  obtain ⟨hx, hZ, hown, hby, hml, hret, hnm, hlk, hR, hsH⟩ := G
  obtain ⟨L, X, e, N⟩ := X
  have F0 := F
  obtain ⟨cl, A, r1, r2, r3, H⟩ := F
  have q := idx_of hj
  obtain ⟨T', h', X', e', W', st'⟩ := stB X hx hZ e A (j := j) (x := x) (by rw [r2, q.2]; exact fun u => u.elim q.1 (Nat.not_le.mpr hi)) (g := mkF Γ.m pc Ls (.int x :: .int j :: .ref a :: st)) rfl rfl (hb hby hd)
  rw [q.2] at W' X'
  exact Go.of st' (K T' h' W' (F0.set W' hi (fits_nar_byte _)) ⟨_, X', e', Fr.snoc X' N ga⟩)
theorem k_lastore {a : Addr} {k : ClassId} {n i : Nat} {f : Nat → Value} {j : Int32} {y : Int64} (G : Ctx Γ Z own bytes maxl ret nm rm hs0) (X : W Γ n0 T h C S) (F : Arf Z h a k .long n f) (hj : j.toInt = i) (hi : i < n) (ga : n0 ≤ a) (hd : decode bytes pc = .ok (.lastore, 1)) (hp : pc + 1 = pc') (K : ∀ T h', Wr h h' a i (.long y) → Arf Z h' a k .long n (fun x => if x = i then (.long y) else f x) → W Γ n0 T h' C S → Go Γ n0 Q T (mkF Γ.m pc' Ls st)) : Go Γ n0 Q T (mkF Γ.m pc Ls (.long y :: .int j :: .ref a :: st)) := by
  subst hp
  obtain ⟨hx, hZ, hown, hby, hml, hret, hnm, hlk, hR, hsH⟩ := G
  obtain ⟨L, X, e, N⟩ := X
  have F0 := F
  obtain ⟨cl, A, r1, r2, r3, H⟩ := F
  have q := idx_of hj
  obtain ⟨T', h', X', e', W', st'⟩ := stJ X hx hZ e A (j := j) (x := y) (by rw [r2, q.2]; exact fun u => u.elim q.1 (Nat.not_le.mpr hi)) (g := mkF Γ.m pc Ls (.long y :: .int j :: .ref a :: st)) rfl rfl (hb hby hd)
  rw [q.2] at W' X'
  exact Go.of st' (K T' h' W' (F0.set W' hi rfl) ⟨_, X', e', Fr.snoc X' N ga⟩)
theorem k_aastore {a : Addr} {k : ClassId} {ty : FieldType} {n i : Nat} {f : Nat → Value} {j : Int32} {v : Value} (G : Ctx Γ Z own bytes maxl ret nm rm hs0) (X : W Γ n0 T h C S) (F : Arf Z h a k ty n f) (hty : ty.isReference = true) (hj : j.toInt = i) (hi : i < n) (O : Sto Z h a v) (hv : fits ty v = true) (ga : n0 ≤ a) (hd : decode bytes pc = .ok (.aastore, 1)) (hp : pc + 1 = pc') (K : ∀ T h', Wr h h' a i v → Arf Z h' a k ty n (fun x => if x = i then v else f x) → W Γ n0 T h' C S → Go Γ n0 Q T (mkF Γ.m pc' Ls st)) : Go Γ n0 Q T (mkF Γ.m pc Ls (v :: .int j :: .ref a :: st)) := by
  subst hp
  obtain ⟨hx, hZ, hown, hby, hml, hret, hnm, hlk, hR, hsH⟩ := G
  obtain ⟨L, X, e, N⟩ := X
  have F0 := F
  obtain ⟨cl, A, r1, r2, r3, H⟩ := F
  have q := idx_of hj
  obtain ⟨T', h', X', e', W', st'⟩ := stR X hx hZ e A (j := j) (v := v) (by rw [r2, q.2]; exact fun u => u.elim q.1 (Nat.not_le.mpr hi)) hty O (g := mkF Γ.m pc Ls (v :: .int j :: .ref a :: st)) rfl rfl (hb hby hd)
  rw [q.2] at W' X'
  exact Go.of st' (K T' h' W' (F0.set W' hi hv) ⟨_, X', e', Fr.snoc X' N ga⟩)
theorem k_copy {a0 : Array Value} {idx : Nat} {a b : Addr} {k k' : ClassId} {ty : FieldType} {n n' sp dp nn wd : Nat} {f g : Nat → Value} {js jd jn : Int32} (G : Ctx Γ Z own bytes maxl ret nm rm hs0) (X : W Γ n0 T h C S) (F : Arf Z h a k ty n f) (F' : Arf Z h b k' ty n' g) (hty : refKind ty = false)
    (w1 : (Cond.methodLink own idx Jvm.Stand.acN).before a0 Z = true) (w2 : (Cond.native Jvm.Stand.acN).before a0 Z = true) (w3 : (Cond.static Jvm.Stand.acN).before a0 Z = true) (w4 : (Cond.initialized "java/lang/System").before a0 Z = true)
    (hjs : js.toInt = sp) (hjd : jd.toInt = dp) (hjn : jn.toInt = nn) (h1 : sp + nn ≤ n) (h2 : dp + nn ≤ n') (gb : n0 ≤ b) (hd : decode bytes pc = .ok (.invokestatic idx, 3)) (hp : pc + 3 = pc') (hL : Ls.size = maxl) (hf : 1 ≤ rm.frames) (hwd : (st.map fun v => v.category).sum = wd) (hlo : wd + (nativeFrameWords "java/lang/System" "arraycopy" 5 + 11) ≤ rm.locals)
    (K : ∀ T h', Keep h h' [b] → Arf Z h' b k' ty n' (fun i => if dp ≤ i ∧ i < dp + nn then f (sp + (i - dp)) else g i) → W Γ n0 T h' C S → Go Γ n0 Q T (mkF Γ.m pc' Ls st)) : Go Γ n0 Q T (mkF Γ.m pc Ls (.int jn :: .int jd :: .ref b :: .int js :: .ref a :: st)) := by
  subst hp
  obtain ⟨hx, hZ, hown, hby, hml, hret, hnm, hlk, hR, hsH⟩ := G
  obtain ⟨L, X, e, N⟩ := X
  obtain ⟨z, hz⟩ : ∃ z : Int32, z.toInt = n := ⟨n.toInt32, len_toInt F.size_lt⟩
  obtain ⟨z', hz'⟩ : ∃ z : Int32, z.toInt = n' := ⟨n'.toInt32, len_toInt F'.size_lt⟩
  have A := F.arv hz .null
  have B := F'.arv hz' .null
  obtain ⟨qs1, qs2⟩ := idx_of hjs
  obtain ⟨qd1, qd2⟩ := idx_of hjd
  obtain ⟨qn1, qn2⟩ := idx_of hjn
  obtain ⟨T', h', L', X', e', N', K', A', st'⟩ := cpA X hx hZ hown w1 w2 w3 w4 e A B (Or.inl ⟨rfl, hty⟩) qs1 qd1 qn1 (by rw [qs2, qn2, (idx_of hz).2]; exact h1) (by rw [qd2, qn2, (idx_of hz').2]; exact h2) rfl (by rw [qd2, qn2]; simpa using h2) N gb (g := mkF Γ.m pc Ls (.int jn :: .int jd :: .ref b :: .int js :: .ref a :: st)) rfl (by rw [hml]; exact hL) rfl (hb hby hd) (hR ▸ hf) (W := wd) (by show 2 * 0 + _ ≤ _; omega) (hR ▸ hlo)
  refine Go.of st' (K T' h' K' (Arf.of_arv A' hz' fun i hi => ?_) ⟨L', X', e', N'⟩)
  rw [qs2, qd2, qn2]
  simp only [List.getD_eq_getElem?_getD]
  have lt : (((List.range n').map g).take dp).length = dp := by simp; omega
  by_cases c1 : i < dp
  · rw [List.append_assoc, List.getElem?_append_left (by rw [lt]; exact c1), List.getElem?_take_of_lt c1, if_neg (by omega)]
    simp [hi]
  · by_cases c2 : i < dp + nn
    · rw [List.getElem?_append_left (by rw [List.length_append, lt]; simp; omega), List.getElem?_append_right (by omega), lt, if_pos (by omega)]
      have q1 : i - dp < nn := by omega
      have q2 : sp + (i - dp) < n := by omega
      simp [q1, q2]
    · rw [List.getElem?_append_right (by rw [List.length_append, lt]; simp; omega), if_neg (by omega), List.getElem?_drop]
      have q3 : dp + nn + (i - (((List.range n').map g).take dp ++ (List.range nn).map fun i => (((List.range n).map f)[sp + i]?).getD .null).length) = i := by rw [List.length_append, lt]; simp; omega
      rw [q3]; simp [hi]
theorem k_instNull {idx : Nat} (G : Ctx Γ Z own bytes maxl ret nm rm hs0) (X : W Γ n0 T h C S) (hd : decode bytes pc = .ok (.instanceof idx, 3)) (hp : pc + 3 = pc') (K : Go Γ n0 Q T (mkF Γ.m pc' Ls (.int 0 :: st))) : Go Γ n0 Q T (mkF Γ.m pc Ls (.null :: st)) := by
  subst hp
  obtain ⟨hx, hZ, hown, hby, hml, hret, hnm, hlk, hR, hsH⟩ := G
  obtain ⟨L, X, e, N⟩ := X
  exact Go.of (fun t k => X.instanceofNull hx (g := mkF Γ.m pc Ls (.null :: st)) rfl rfl (hb hby hd) t k) K
theorem k_castNull {idx : Nat} (G : Ctx Γ Z own bytes maxl ret nm rm hs0) (X : W Γ n0 T h C S) (hd : decode bytes pc = .ok (.checkcast idx, 3)) (hp : pc + 3 = pc') (K : Go Γ n0 Q T (mkF Γ.m pc' Ls (.null :: st))) : Go Γ n0 Q T (mkF Γ.m pc Ls (.null :: st)) := by
  subst hp
  obtain ⟨hx, hZ, hown, hby, hml, hret, hnm, hlk, hR, hsH⟩ := G
  obtain ⟨L, X, e, N⟩ := X
  exact Go.of (fun t k => X.checkcastNull hx (g := mkF Γ.m pc Ls (.null :: st)) rfl rfl (hb hby hd) t k) K
theorem k_instN {a0 : Array Value} {idx : Nat} {KK CC : String} {a : Addr} (G : Ctx Γ Z own bytes maxl ret nm rm hs0) (X : W Γ n0 T h C S) (w : (Cond.classLink own idx KK).before a0 Z = true) (F : Ins Z hs0 a KK false) (E : Exa Z hs0 a CC) (hd : decode bytes pc = .ok (.instanceof idx, 3)) (hp : pc + 3 = pc') (K : ∀ T, W Γ n0 T h C S → Go Γ n0 Q T (mkF Γ.m pc' Ls (.int 0 :: st))) : Go Γ n0 Q T (mkF Γ.m pc Ls (.ref a :: st)) := by
  subst hp
  obtain ⟨hx, hZ, hown, hby, hml, hret, hnm, hlk, hR, hsH⟩ := G
  obtain ⟨L, X, e, N⟩ := X
  obtain ⟨T', X', e', st'⟩ := instN X hx hZ hown w e (show Ins Z Γ.s.heap a KK false by rw [hsH]; exact F) (show Exa Z Γ.s.heap a CC by rw [hsH]; exact E) (g := mkF Γ.m pc Ls (.ref a :: st)) rfl rfl (hb hby hd)
  exact Go.of st' (K T' ⟨L, X', e', N⟩)
theorem k_instNo {a0 : Array Value} {idx : Nat} {KK CC : String} {a : Addr} (G : Ctx Γ Z own bytes maxl ret nm rm hs0) (X : W Γ n0 T h C S) (w : (Cond.classLink own idx KK).before a0 Z = true) (E : Exa Z h a CC) (F : ∃ c t, Z.vm.findClass CC = some c ∧ Z.vm.findClass KK = some t ∧ Z.vm.assignable c t = false) (hd : decode bytes pc = .ok (.instanceof idx, 3)) (hp : pc + 3 = pc') (K : ∀ T, W Γ n0 T h C S → Go Γ n0 Q T (mkF Γ.m pc' Ls (.int 0 :: st))) : Go Γ n0 Q T (mkF Γ.m pc Ls (.ref a :: st)) := by
  subst hp
  obtain ⟨hx, hZ, hown, hby, hml, hret, hnm, hlk, hR, hsH⟩ := G
  obtain ⟨L, X, e, N⟩ := X
  obtain ⟨T', X', e', st'⟩ := instNo X hx hZ hown w e E F (g := mkF Γ.m pc Ls (.ref a :: st)) rfl rfl (hb hby hd)
  exact Go.of st' (K T' ⟨L, X', e', N⟩)
theorem noInst {a0 : Array Value} {CC KK : String} {n : Nat} (w : (Cond.superclass CC "java/lang/Object").before a0 Z = true) (wo : (Cond.noSuperclass "java/lang/Object").before a0 Z = true) (wi : (Cond.instantiable KK n).before a0 Z = true) (h1 : CC ≠ KK) (h2 : "java/lang/Object" ≠ KK) : ∃ c t, Z.vm.findClass CC = some c ∧ Z.vm.findClass KK = some t ∧ Z.vm.assignable c t = false := by
  obtain ⟨t, kt, g0, g1, g2, gr⟩ := Cond.instantiable_spec wi
  have gi : kt.isInterface = false := by have := gr.1; simp at this; exact this.1
  obtain ⟨o, ko, o1, o2, o3, -⟩ := Cond.noSuperclass_spec wo
  obtain ⟨c, h0⟩ := found_sup w
  obtain ⟨p, k, kp, q1, q2, q3, q4, q5, -, q7⟩ := Cond.superclass_spec h0 w
  cases o1.symm.trans q1
  have ne1 := ids_ne h0 g0 h1
  have ne2 := ids_ne o1 g0 h2
  have n3 : ∀ fuel, Z.vm.isSubclassAux fuel c t = false := fun fuel => by
    cases fuel with
    | zero => rfl
    | succ f =>
      have n2 : Z.vm.isSubclassAux f o t = false := by
        cases f with
        | zero => rfl
        | succ f => simp [Vm.isSubclassAux, ne2, o2, o3]
      simp [Vm.isSubclassAux, ne1, q2, q4, n2]
  refine ⟨c, t, h0, g0, ?_⟩
  show Z.vm.assignableAux (255 + 1) c t = false
  simp [Vm.assignableAux, ne1, q2, g1, q5, g2, gi, Vm.isSubclass, n3]
/-! ### facts -/
theorem W.eq {h' : Heap} (X : W Γ n0 T h' C S) (e : h' = h) : W Γ n0 T h C S := e ▸ X
theorem Old_le (O : Old Z n0 h) : n0 ≤ h.size := by rw [← O.1]; exact O.2.1
theorem Sta_old {CC n d : String} {v : Value} (O : Old Z n0 h) (F : Sta Z Z.heap CC n d v) : Sta Z h CC n d v := F.ext O.2
theorem Fld_old {CC n d : String} {v : Value} {a : Addr} (O : Old Z n0 h) (F : Fld Z Z.heap a CC n d v) : Fld Z h a CC n d v := F.ext O.2
theorem Exa_old {CC : String} {a : Addr} (O : Old Z n0 h) (F : Exa Z Z.heap a CC) : Exa Z h a CC := F.ext O.2
theorem Sta_keep {h' : Heap} {CC n d : String} {v : Value} (F : Sta Z h CC n d v) (K : Keep h h' []) : Sta Z h' CC n d v := by
  obtain ⟨cf, i, k, f, st, cell, h1, h2, h3, h4, h5, h6, h7⟩ := F
  exact ⟨cf, i, k, f, st, cell, h1, h2, h3, h4, K.2.1 _ _ h5 nin0, h6, h7⟩
def Pln (h : Heap) (a : Addr) : Prop := ∀ cell : Cell, h[a]? = some cell → cell.vm.isStatics = false
theorem Pln_exa {a : Addr} {CC : String} (E : Exa Z h a CC) : Pln h a := fun cell hc => by obtain ⟨c1, _, h1, -, -, h4, -⟩ := E; cases h1.symm.trans hc; exact h4
theorem Pln_fld {a : Addr} {CC n d : String} {v : Value} (F : Fld Z h a CC n d v) : Pln h a := old_plain F
theorem Sta_keepL {h' : Heap} {CC n d : String} {v : Value} {ws : List Addr} (F : Sta Z h CC n d v) (K : Keep h h' ws) (q : ∀ w ∈ ws, Pln h w) : Sta Z h' CC n d v := by
  obtain ⟨cf, i, k, f, st, cell, h1, h2, h3, h4, h5, h6, h7⟩ := F
  exact ⟨cf, i, k, f, st, cell, h1, h2, h3, h4, K.2.1 _ _ h5 (fun hm => by have := q _ hm _ h5; rw [h6] at this; cases this), h6, h7⟩
end K
section Words
variable {s : State} {args : Array Value}
theorem s_exa {CC K n d : String} (hx : (Cond.exactly (Term.static CC n d) K).value args s none s [] = some true) (hi : (Cond.initialized CC).before args s = true) (hl : (Cond.laysStatic CC n d).before args s = true) : ∃ a, Sta s s.heap CC n d (.ref a) ∧ Exa s s.heap a K ∧ (Term.static CC n d).eval args s none [] s = some (.ref a) := by
  obtain ⟨a, ev⟩ := exa_v hx
  exact ⟨a, Sta.start ev (Or.inr ⟨hi, hl⟩), Exa.start ev hx, ev⟩
theorem s_fldI {t : Term} {a : Addr} {O n d : String} {z : Int32} (ev : t.eval args s none [] s = some (.ref a)) (hx : (Cond.eq (Term.field t O n d) (Term.int z)).value args s none s [] = some true) : Fld s s.heap a O n d (.int z) := by
  refine Fld.start ?_
  rw [← fld_at (args := args) (first := s) (o := none) (idx := []) ev]
  simp only [Cond.value, Term.int_eval] at hx
  cases hf : (Term.field t O n d).eval args s none [] s with
  | none => simp [hf] at hx
  | some v => cases v <;> simp [hf] at hx; rw [hx]
theorem s_fldN {t : Term} {a : Addr} {O n d : String} (ev : t.eval args s none [] s = some (.ref a)) (hx : (Cond.eq (Term.field t O n d) Term.null).value args s none s [] = some true) : Fld s s.heap a O n d .null := by
  refine Fld.start ?_
  rw [← fld_at (args := args) (first := s) (o := none) (idx := []) ev]
  exact null_v hx
theorem s_fldX {t : Term} {a : Addr} {O n d K : String} (ev : t.eval args s none [] s = some (.ref a)) (hx : (Cond.exactly (Term.field t O n d) K).value args s none s [] = some true) : ∃ b, Fld s s.heap a O n d (.ref b) ∧ Exa s s.heap b K := by
  obtain ⟨b, eb⟩ := exa_v hx
  refine ⟨b, Fld.start ?_, Exa.start eb hx⟩
  rw [← fld_at (args := args) (first := s) (o := none) (idx := []) ev]; exact eb
theorem s_cs {CC n d : String} (h0 : (Cond.initializedFor CC n d).before args s = true) (h1 : (Cond.isInt (Term.static CC n d)).before args s = true) (h2 : (Cond.not (Cond.eq (Term.static CC n d) (Term.int 0))).before args s = true) : ∃ cs : Int32, Sta s s.heap CC n d (.int cs) ∧ cs ≠ 0 := by
  obtain ⟨x, ev⟩ := is_v (Cond.before_iff.mp h1)
  refine ⟨x, Sta.start ev (Or.inl h0), fun q => ?_⟩
  have := not_v (Cond.before_iff.mp h2)
  subst q
  rw [eq_i ev (Term.int_eval 0) rfl] at this
  cases this
end Words
theorem of_toInt {z w : Int32} (h : z.toInt = w.toInt) : z = w := Int32.toInt_inj.mp h
theorem of_toInt64 {z w : Int64} (h : z.toInt = w.toInt) : z = w := Int64.toInt_inj.mp h
theorem rgI (x : Int32) : -2147483648 ≤ x.toInt ∧ x.toInt < 2147483648 := ⟨Int32.le_toInt x, Int32.toInt_lt x⟩
theorem rgL (x : Int64) : -9223372036854775808 ≤ x.toInt ∧ x.toInt < 9223372036854775808 := ⟨Int64.le_toInt x, Int64.toInt_lt x⟩
theorem and_rng (x : Int32) {m : Int32} (k : Int) (hk : m.toInt = k) (h : 0 ≤ k) : 0 ≤ (x &&& m).toInt ∧ (x &&& m).toInt ≤ k := by subst hk; exact c_and x m h
theorem rem_rng (x : Int32) {y : Int32} (d : Int) (hy : y.toInt = d) (hd : 0 < d) (hx : 0 ≤ x.toInt) : 0 ≤ (x % y).toInt ∧ (x % y).toInt < d := by
  rw [(c_irem x y d hy).1 hx]; exact ⟨Int.emod_nonneg _ (by omega), Int.emod_lt_of_pos _ hd⟩
theorem iadd_toInt {x y : Int32} (h1 : -2147483648 ≤ x.toInt + y.toInt) (h2 : x.toInt + y.toInt < 2147483648) : (x + y).toInt = x.toInt + y.toInt := by
  have := c_iadd x y; have := rgI (x + y); omega
theorem isub_toInt {x y : Int32} (h1 : -2147483648 ≤ x.toInt - y.toInt) (h2 : x.toInt - y.toInt < 2147483648) : (x - y).toInt = x.toInt - y.toInt := by
  have := c_isub x y; have := rgI (x - y); omega
theorem ladd_toInt {x y : Int64} (h1 : -9223372036854775808 ≤ x.toInt + y.toInt) (h2 : x.toInt + y.toInt < 9223372036854775808) : (x + y).toInt = x.toInt + y.toInt := by
  have := c_ladd x y; have := rgL (x + y); omega
theorem lcmp_toInt {x y : Int64} {z : Int32} (q : (if x > y then (1 : Int32) else if x = y then 0 else -1) = z) : (x.toInt < y.toInt → z.toInt = -1) ∧ (x.toInt = y.toInt → z.toInt = 0) ∧ (y.toInt < x.toInt → z.toInt = 1) := by
  subst q; exact c_lcmp x y
theorem and3 (x : Int32) : x &&& 3 = 0 ∨ x &&& 3 = 1 ∨ x &&& 3 = 2 ∨ x &&& 3 = 3 := by
  have h : ∀ b : BitVec 32, b &&& 3#32 = 0#32 ∨ b &&& 3#32 = 1#32 ∨ b &&& 3#32 = 2#32 ∨ b &&& 3#32 = 3#32 := fun b => by
    have e : (b &&& 3#32).toNat < 4 := by rw [BitVec.toNat_and]; exact Nat.lt_of_le_of_lt Nat.and_le_right (by decide)
    have : (b &&& 3#32).toNat = 0 ∨ (b &&& 3#32).toNat = 1 ∨ (b &&& 3#32).toNat = 2 ∨ (b &&& 3#32).toNat = 3 := by omega
    rcases this with q | q | q | q
    · exact Or.inl (BitVec.eq_of_toNat_eq q)
    · exact Or.inr (Or.inl (BitVec.eq_of_toNat_eq q))
    · exact Or.inr (Or.inr (Or.inl (BitVec.eq_of_toNat_eq q)))
    · exact Or.inr (Or.inr (Or.inr (BitVec.eq_of_toNat_eq q)))
  rcases h x.toBitVec with q | q | q | q
  · exact Or.inl (Int32.toBitVec_inj.mp q)
  · exact Or.inr (Or.inl (Int32.toBitVec_inj.mp q))
  · exact Or.inr (Or.inr (Or.inl (Int32.toBitVec_inj.mp q)))
  · exact Or.inr (Or.inr (Or.inr (Int32.toBitVec_inj.mp q)))
end Jvm.OwnK
namespace Jvm.Pilot.@@N@@
open Jvm Jvm.ClassFile Sem Op Lib Jvm.Free Jvm.Stand Jvm.LawKit Jvm.RoadKit Jvm.OwnK Bundle Jvm.Pilot.@@N@@.Jvm.D
abbrev HW (a0 : Array Value) (Z : State) : Prop := ∀ d ∈ tables_1, d.before a0 Z = true
section Wds
variable {a0 : Array Value} {Z : State}
theorem w0 (hw : HW a0 Z) : Jvm.Cond.before (Jvm.Cond.fieldLink "com/example/tariffwright/tariffwright/core/AreaEqualsPinLaw" (18 : Nat) "com/example/tariffwright/tariffwright/core/AreaKind" "SUBZONE" "Lcom/example/tariffwright/tariffwright/core/AreaKind;") a0 Z = true := hw _ (List.mem_of_getElem? (i := 0) rfl)
theorem w1 (hw : HW a0 Z) : Jvm.Cond.before (Jvm.Cond.initialized "com/example/tariffwright/tariffwright/core/AreaKind") a0 Z = true := hw _ (List.mem_of_getElem? (i := 1) rfl)
theorem w2 (hw : HW a0 Z) : Jvm.Cond.before (Jvm.Cond.laysStatic "com/example/tariffwright/tariffwright/core/AreaKind" "SUBZONE" "Lcom/example/tariffwright/tariffwright/core/AreaKind;") a0 Z = true := hw _ (List.mem_of_getElem? (i := 2) rfl)
theorem w3 (hw : HW a0 Z) : Jvm.Cond.before (Jvm.Cond.methodLink "com/example/tariffwright/tariffwright/core/AreaEqualsPinLaw" (21 : Nat) ({ cls := "com/example/tariffwright/tariffwright/core/AreaEqualsPinLaw", name := "mk", desc := "(II)Ljava/lang/String;" } : Jvm.MethodName)) a0 Z = true := hw _ (List.mem_of_getElem? (i := 3) rfl)
theorem w4 (hw : HW a0 Z) : Jvm.Cond.before (Jvm.Cond.static ({ cls := "com/example/tariffwright/tariffwright/core/AreaEqualsPinLaw", name := "mk", desc := "(II)Ljava/lang/String;" } : Jvm.MethodName)) a0 Z = true := hw _ (List.mem_of_getElem? (i := 4) rfl)
theorem w5 (hw : HW a0 Z) : Jvm.Cond.before (Jvm.Cond.initialized "com/example/tariffwright/tariffwright/core/AreaEqualsPinLaw") a0 Z = true := hw _ (List.mem_of_getElem? (i := 5) rfl)
theorem w6 (hw : HW a0 Z) : Jvm.Cond.before (Jvm.Cond.code ({ cls := "com/example/tariffwright/tariffwright/core/AreaEqualsPinLaw", name := "mk", desc := "(II)Ljava/lang/String;" } : Jvm.MethodName) method_2_code (5 : Nat) (Option.some (Jvm.ClassFile.FieldType.object "java/lang/String"))) a0 Z = true := hw _ (List.mem_of_getElem? (i := 6) rfl)
theorem w7 (hw : HW a0 Z) : Jvm.Cond.before (Jvm.Cond.classLink "com/example/tariffwright/tariffwright/core/AreaEqualsPinLaw" (7 : Nat) "java/lang/String") a0 Z = true := hw _ (List.mem_of_getElem? (i := 7) rfl)
theorem w8 (hw : HW a0 Z) : Jvm.Cond.before (Jvm.Cond.instantiable "java/lang/String" (4 : Nat)) a0 Z = true := hw _ (List.mem_of_getElem? (i := 8) rfl)
theorem w9 (hw : HW a0 Z) : Jvm.Cond.before (Jvm.Cond.initialized "java/lang/String") a0 Z = true := hw _ (List.mem_of_getElem? (i := 9) rfl)
theorem w10 (hw : HW a0 Z) : Jvm.Cond.before (Jvm.Cond.arrayClass Jvm.ClassFile.FieldType.char) a0 Z = true := hw _ (List.mem_of_getElem? (i := 10) rfl)
theorem w11 (hw : HW a0 Z) : Jvm.Cond.before (Jvm.Cond.methodLink "com/example/tariffwright/tariffwright/core/AreaEqualsPinLaw" (9 : Nat) ({ cls := "java/lang/String", name := "<init>", desc := "([C)V" } : Jvm.MethodName)) a0 Z = true := hw _ (List.mem_of_getElem? (i := 11) rfl)
theorem w12 (hw : HW a0 Z) : Jvm.Cond.before (Jvm.Cond.instanceMethod ({ cls := "java/lang/String", name := "<init>", desc := "([C)V" } : Jvm.MethodName)) a0 Z = true := hw _ (List.mem_of_getElem? (i := 12) rfl)
theorem w13 (hw : HW a0 Z) : Jvm.Cond.before (Jvm.Cond.code ({ cls := "java/lang/String", name := "<init>", desc := "([C)V" } : Jvm.MethodName) jdk_42_method_3_code (2 : Nat) (Option.none : Option Jvm.ClassFile.FieldType)) a0 Z = true := hw _ (List.mem_of_getElem? (i := 13) rfl)
theorem w14 (hw : HW a0 Z) : Jvm.Cond.before (Jvm.Cond.methodLink "java/lang/String" (27 : Nat) ({ cls := "java/lang/String", name := "<init>", desc := "([CIILjava/lang/Void;)V" } : Jvm.MethodName)) a0 Z = true := hw _ (List.mem_of_getElem? (i := 14) rfl)
theorem w15 (hw : HW a0 Z) : Jvm.Cond.before (Jvm.Cond.instanceMethod ({ cls := "java/lang/String", name := "<init>", desc := "([CIILjava/lang/Void;)V" } : Jvm.MethodName)) a0 Z = true := hw _ (List.mem_of_getElem? (i := 15) rfl)
theorem w17 (hw : HW a0 Z) : Jvm.Cond.before (Jvm.Cond.code ({ cls := "java/lang/String", name := "<init>", desc := "([CIILjava/lang/Void;)V" } : Jvm.MethodName) jdk_42_method_149_code (6 : Nat) (Option.none : Option Jvm.ClassFile.FieldType)) a0 Z = true := hw _ (List.mem_of_getElem? (i := 17) rfl)
theorem w18 (hw : HW a0 Z) : Jvm.Cond.before (Jvm.Cond.methodLink "java/lang/String" (1 : Nat) ({ cls := "java/lang/Object", name := "<init>", desc := "()V" } : Jvm.MethodName)) a0 Z = true := hw _ (List.mem_of_getElem? (i := 18) rfl)
theorem w19 (hw : HW a0 Z) : Jvm.Cond.before (Jvm.Cond.instanceMethod ({ cls := "java/lang/Object", name := "<init>", desc := "()V" } : Jvm.MethodName)) a0 Z = true := hw _ (List.mem_of_getElem? (i := 19) rfl)
theorem w20 (hw : HW a0 Z) : Jvm.Cond.before (Jvm.Cond.code ({ cls := "java/lang/Object", name := "<init>", desc := "()V" } : Jvm.MethodName) object_method_1_code (1 : Nat) (Option.none : Option Jvm.ClassFile.FieldType)) a0 Z = true := hw _ (List.mem_of_getElem? (i := 20) rfl)
theorem w21 (hw : HW a0 Z) : Jvm.Cond.before (Jvm.Cond.fieldLink "java/lang/String" (38 : Nat) "java/lang/String" "COMPACT_STRINGS" "Z") a0 Z = true := hw _ (List.mem_of_getElem? (i := 21) rfl)
theorem w22 (hw : HW a0 Z) : Jvm.Cond.before (Jvm.Cond.methodLink "java/lang/String" (177 : Nat) ({ cls := "java/lang/StringUTF16", name := "compress", desc := "([CII)[B" } : Jvm.MethodName)) a0 Z = true := hw _ (List.mem_of_getElem? (i := 22) rfl)
theorem w23 (hw : HW a0 Z) : Jvm.Cond.before (Jvm.Cond.static ({ cls := "java/lang/StringUTF16", name := "compress", desc := "([CII)[B" } : Jvm.MethodName)) a0 Z = true := hw _ (List.mem_of_getElem? (i := 23) rfl)
theorem w24 (hw : HW a0 Z) : Jvm.Cond.before (Jvm.Cond.initialized "java/lang/StringUTF16") a0 Z = true := hw _ (List.mem_of_getElem? (i := 24) rfl)
theorem w25 (hw : HW a0 Z) : Jvm.Cond.before (Jvm.Cond.code ({ cls := "java/lang/StringUTF16", name := "compress", desc := "([CII)[B" } : Jvm.MethodName) jdk_52_method_16_code (6 : Nat) (Option.some (Jvm.ClassFile.FieldType.array Jvm.ClassFile.FieldType.byte))) a0 Z = true := hw _ (List.mem_of_getElem? (i := 25) rfl)
theorem w26 (hw : HW a0 Z) : Jvm.Cond.before (Jvm.Cond.arrayClass Jvm.ClassFile.FieldType.byte) a0 Z = true := hw _ (List.mem_of_getElem? (i := 26) rfl)
theorem w27 (hw : HW a0 Z) : Jvm.Cond.before (Jvm.Cond.methodLink "java/lang/StringUTF16" (115 : Nat) ({ cls := "java/lang/StringUTF16", name := "compress", desc := "([CI[BII)I" } : Jvm.MethodName)) a0 Z = true := hw _ (List.mem_of_getElem? (i := 27) rfl)
theorem w28 (hw : HW a0 Z) : Jvm.Cond.before (Jvm.Cond.static ({ cls := "java/lang/StringUTF16", name := "compress", desc := "([CI[BII)I" } : Jvm.MethodName)) a0 Z = true := hw _ (List.mem_of_getElem? (i := 28) rfl)
theorem w29 (hw : HW a0 Z) : Jvm.Cond.before (Jvm.Cond.code ({ cls := "java/lang/StringUTF16", name := "compress", desc := "([CI[BII)I" } : Jvm.MethodName) jdk_52_method_21_code (7 : Nat) (Option.some Jvm.ClassFile.FieldType.int)) a0 Z = true := hw _ (List.mem_of_getElem? (i := 29) rfl)
theorem w30 (hw : HW a0 Z) : Jvm.Cond.before (Jvm.Cond.methodLink "java/lang/String" (47 : Nat) ({ cls := "java/lang/StringUTF16", name := "coderFromArrayLen", desc := "([BI)B" } : Jvm.MethodName)) a0 Z = true := hw _ (List.mem_of_getElem? (i := 30) rfl)
theorem w31 (hw : HW a0 Z) : Jvm.Cond.before (Jvm.Cond.static ({ cls := "java/lang/StringUTF16", name := "coderFromArrayLen", desc := "([BI)B" } : Jvm.MethodName)) a0 Z = true := hw _ (List.mem_of_getElem? (i := 31) rfl)
theorem w32 (hw : HW a0 Z) : Jvm.Cond.before (Jvm.Cond.code ({ cls := "java/lang/StringUTF16", name := "coderFromArrayLen", desc := "([BI)B" } : Jvm.MethodName) jdk_52_method_15_code (2 : Nat) (Option.some Jvm.ClassFile.FieldType.byte)) a0 Z = true := hw _ (List.mem_of_getElem? (i := 32) rfl)
theorem w33 (hw : HW a0 Z) : Jvm.Cond.before (Jvm.Cond.fieldLink "java/lang/String" (15 : Nat) "java/lang/String" "coder" "B") a0 Z = true := hw _ (List.mem_of_getElem? (i := 33) rfl)
theorem w34 (hw : HW a0 Z) : Jvm.Cond.before (Jvm.Cond.laysFinal "java/lang/String" "java/lang/String" "coder" "B") a0 Z = true := hw _ (List.mem_of_getElem? (i := 34) rfl)
theorem w35 (hw : HW a0 Z) : Jvm.Cond.before (Jvm.Cond.fieldLink "java/lang/String" (9 : Nat) "java/lang/String" "value" "[B") a0 Z = true := hw _ (List.mem_of_getElem? (i := 35) rfl)
theorem w36 (hw : HW a0 Z) : Jvm.Cond.before (Jvm.Cond.laysFinal "java/lang/String" "java/lang/String" "value" "[B") a0 Z = true := hw _ (List.mem_of_getElem? (i := 36) rfl)
theorem w37 (hw : HW a0 Z) : Jvm.Cond.before (Jvm.Cond.classLink "com/example/tariffwright/tariffwright/core/AreaEqualsPinLaw" (27 : Nat) "com/example/tariffwright/tariffwright/core/Area") a0 Z = true := hw _ (List.mem_of_getElem? (i := 37) rfl)
theorem w38 (hw : HW a0 Z) : Jvm.Cond.before (Jvm.Cond.instantiable "com/example/tariffwright/tariffwright/core/Area" (2 : Nat)) a0 Z = true := hw _ (List.mem_of_getElem? (i := 38) rfl)
theorem w39 (hw : HW a0 Z) : Jvm.Cond.before (Jvm.Cond.initialized "com/example/tariffwright/tariffwright/core/Area") a0 Z = true := hw _ (List.mem_of_getElem? (i := 39) rfl)
theorem w40 (hw : HW a0 Z) : Jvm.Cond.before (Jvm.Cond.methodLink "com/example/tariffwright/tariffwright/core/AreaEqualsPinLaw" (29 : Nat) ({ cls := "com/example/tariffwright/tariffwright/core/Area", name := "<init>", desc := "(Lcom/example/tariffwright/tariffwright/core/AreaKind;Ljava/lang/String;)V" } : Jvm.MethodName)) a0 Z = true := hw _ (List.mem_of_getElem? (i := 40) rfl)
theorem w41 (hw : HW a0 Z) : Jvm.Cond.before (Jvm.Cond.instanceMethod ({ cls := "com/example/tariffwright/tariffwright/core/Area", name := "<init>", desc := "(Lcom/example/tariffwright/tariffwright/core/AreaKind;Ljava/lang/String;)V" } : Jvm.MethodName)) a0 Z = true := hw _ (List.mem_of_getElem? (i := 41) rfl)
theorem w42 (hw : HW a0 Z) : Jvm.Cond.before (Jvm.Cond.code ({ cls := "com/example/tariffwright/tariffwright/core/Area", name := "<init>", desc := "(Lcom/example/tariffwright/tariffwright/core/AreaKind;Ljava/lang/String;)V" } : Jvm.MethodName) prog_31_method_1_code (3 : Nat) (Option.none : Option Jvm.ClassFile.FieldType)) a0 Z = true := hw _ (List.mem_of_getElem? (i := 42) rfl)
theorem w43 (hw : HW a0 Z) : Jvm.Cond.before (Jvm.Cond.methodLink "com/example/tariffwright/tariffwright/core/Area" (1 : Nat) ({ cls := "java/lang/Object", name := "<init>", desc := "()V" } : Jvm.MethodName)) a0 Z = true := hw _ (List.mem_of_getElem? (i := 43) rfl)
theorem w44 (hw : HW a0 Z) : Jvm.Cond.before (Jvm.Cond.methodLink "com/example/tariffwright/tariffwright/core/Area" (7 : Nat) ({ cls := "java/lang/String", name := "isEmpty", desc := "()Z" } : Jvm.MethodName)) a0 Z = true := hw _ (List.mem_of_getElem? (i := 44) rfl)
theorem w45 (hw : HW a0 Z) : Jvm.Cond.before (Jvm.Cond.declares ({ cls := "java/lang/String", name := "isEmpty", desc := "()Z" } : Jvm.MethodName)) a0 Z = true := hw _ (List.mem_of_getElem? (i := 45) rfl)
theorem w46 (hw : HW a0 Z) : Jvm.Cond.before (Jvm.Cond.instanceMethod ({ cls := "java/lang/String", name := "isEmpty", desc := "()Z" } : Jvm.MethodName)) a0 Z = true := hw _ (List.mem_of_getElem? (i := 46) rfl)
theorem w47 (hw : HW a0 Z) : Jvm.Cond.before (Jvm.Cond.selects "java/lang/String" ({ cls := "java/lang/String", name := "isEmpty", desc := "()Z" } : Jvm.MethodName) ({ cls := "java/lang/String", name := "isEmpty", desc := "()Z" } : Jvm.MethodName)) a0 Z = true := hw _ (List.mem_of_getElem? (i := 47) rfl)
theorem w48 (hw : HW a0 Z) : Jvm.Cond.before (Jvm.Cond.code ({ cls := "java/lang/String", name := "isEmpty", desc := "()Z" } : Jvm.MethodName) jdk_42_method_55_code (1 : Nat) (Option.some Jvm.ClassFile.FieldType.boolean)) a0 Z = true := hw _ (List.mem_of_getElem? (i := 48) rfl)
theorem w49 (hw : HW a0 Z) : Jvm.Cond.before (Jvm.Cond.methodLink "com/example/tariffwright/tariffwright/core/Area" (26 : Nat) ({ cls := "java/util/Objects", name := "requireNonNull", desc := "(Ljava/lang/Object;)Ljava/lang/Object;" } : Jvm.MethodName)) a0 Z = true := hw _ (List.mem_of_getElem? (i := 49) rfl)
theorem w50 (hw : HW a0 Z) : Jvm.Cond.before (Jvm.Cond.static ({ cls := "java/util/Objects", name := "requireNonNull", desc := "(Ljava/lang/Object;)Ljava/lang/Object;" } : Jvm.MethodName)) a0 Z = true := hw _ (List.mem_of_getElem? (i := 50) rfl)
theorem w51 (hw : HW a0 Z) : Jvm.Cond.before (Jvm.Cond.initialized "java/util/Objects") a0 Z = true := hw _ (List.mem_of_getElem? (i := 51) rfl)
theorem w52 (hw : HW a0 Z) : Jvm.Cond.before (Jvm.Cond.code ({ cls := "java/util/Objects", name := "requireNonNull", desc := "(Ljava/lang/Object;)Ljava/lang/Object;" } : Jvm.MethodName) jdk_31_method_10_code (1 : Nat) (Option.some (Jvm.ClassFile.FieldType.object "java/lang/Object"))) a0 Z = true := hw _ (List.mem_of_getElem? (i := 52) rfl)
theorem w53 (hw : HW a0 Z) : Jvm.Cond.before (Jvm.Cond.classLink "com/example/tariffwright/tariffwright/core/Area" (32 : Nat) "com/example/tariffwright/tariffwright/core/AreaKind") a0 Z = true := hw _ (List.mem_of_getElem? (i := 53) rfl)
theorem w55 (hw : HW a0 Z) : Jvm.Cond.before (Jvm.Cond.fieldLink "com/example/tariffwright/tariffwright/core/Area" (34 : Nat) "com/example/tariffwright/tariffwright/core/Area" "kind" "Lcom/example/tariffwright/tariffwright/core/AreaKind;") a0 Z = true := hw _ (List.mem_of_getElem? (i := 55) rfl)
theorem w56 (hw : HW a0 Z) : Jvm.Cond.before (Jvm.Cond.laysFinal "com/example/tariffwright/tariffwright/core/Area" "com/example/tariffwright/tariffwright/core/Area" "kind" "Lcom/example/tariffwright/tariffwright/core/AreaKind;") a0 Z = true := hw _ (List.mem_of_getElem? (i := 56) rfl)
theorem w57 (hw : HW a0 Z) : Jvm.Cond.before (Jvm.Cond.fieldLink "com/example/tariffwright/tariffwright/core/Area" (40 : Nat) "com/example/tariffwright/tariffwright/core/Area" "name" "Ljava/lang/String;") a0 Z = true := hw _ (List.mem_of_getElem? (i := 57) rfl)
theorem w58 (hw : HW a0 Z) : Jvm.Cond.before (Jvm.Cond.laysFinal "com/example/tariffwright/tariffwright/core/Area" "com/example/tariffwright/tariffwright/core/Area" "name" "Ljava/lang/String;") a0 Z = true := hw _ (List.mem_of_getElem? (i := 58) rfl)
theorem w59 (hw : HW a0 Z) : Jvm.Cond.before (Jvm.Cond.methodLink "com/example/tariffwright/tariffwright/core/AreaEqualsPinLaw" (32 : Nat) ({ cls := "com/example/tariffwright/tariffwright/core/Area", name := "equals", desc := "(Ljava/lang/Object;)Z" } : Jvm.MethodName)) a0 Z = true := hw _ (List.mem_of_getElem? (i := 59) rfl)
theorem w60 (hw : HW a0 Z) : Jvm.Cond.before (Jvm.Cond.declares ({ cls := "com/example/tariffwright/tariffwright/core/Area", name := "equals", desc := "(Ljava/lang/Object;)Z" } : Jvm.MethodName)) a0 Z = true := hw _ (List.mem_of_getElem? (i := 60) rfl)
theorem w61 (hw : HW a0 Z) : Jvm.Cond.before (Jvm.Cond.instanceMethod ({ cls := "com/example/tariffwright/tariffwright/core/Area", name := "equals", desc := "(Ljava/lang/Object;)Z" } : Jvm.MethodName)) a0 Z = true := hw _ (List.mem_of_getElem? (i := 61) rfl)
theorem w62 (hw : HW a0 Z) : Jvm.Cond.before (Jvm.Cond.selects "com/example/tariffwright/tariffwright/core/Area" ({ cls := "com/example/tariffwright/tariffwright/core/Area", name := "equals", desc := "(Ljava/lang/Object;)Z" } : Jvm.MethodName) ({ cls := "com/example/tariffwright/tariffwright/core/Area", name := "equals", desc := "(Ljava/lang/Object;)Z" } : Jvm.MethodName)) a0 Z = true := hw _ (List.mem_of_getElem? (i := 62) rfl)
theorem w63 (hw : HW a0 Z) : Jvm.Cond.before (Jvm.Cond.code ({ cls := "com/example/tariffwright/tariffwright/core/Area", name := "equals", desc := "(Ljava/lang/Object;)Z" } : Jvm.MethodName) prog_31_method_4_code (3 : Nat) (Option.some Jvm.ClassFile.FieldType.boolean)) a0 Z = true := hw _ (List.mem_of_getElem? (i := 63) rfl)
theorem w64 (hw : HW a0 Z) : Jvm.Cond.before (Jvm.Cond.classLink "com/example/tariffwright/tariffwright/core/Area" (35 : Nat) "com/example/tariffwright/tariffwright/core/Area") a0 Z = true := hw _ (List.mem_of_getElem? (i := 64) rfl)
theorem w66 (hw : HW a0 Z) : Jvm.Cond.before (Jvm.Cond.methodLink "com/example/tariffwright/tariffwright/core/Area" (44 : Nat) ({ cls := "java/lang/String", name := "equals", desc := "(Ljava/lang/Object;)Z" } : Jvm.MethodName)) a0 Z = true := hw _ (List.mem_of_getElem? (i := 66) rfl)
theorem w67 (hw : HW a0 Z) : Jvm.Cond.before (Jvm.Cond.declares ({ cls := "java/lang/String", name := "equals", desc := "(Ljava/lang/Object;)Z" } : Jvm.MethodName)) a0 Z = true := hw _ (List.mem_of_getElem? (i := 67) rfl)
theorem w68 (hw : HW a0 Z) : Jvm.Cond.before (Jvm.Cond.instanceMethod ({ cls := "java/lang/String", name := "equals", desc := "(Ljava/lang/Object;)Z" } : Jvm.MethodName)) a0 Z = true := hw _ (List.mem_of_getElem? (i := 68) rfl)
theorem w69 (hw : HW a0 Z) : Jvm.Cond.before (Jvm.Cond.selects "java/lang/String" ({ cls := "java/lang/String", name := "equals", desc := "(Ljava/lang/Object;)Z" } : Jvm.MethodName) ({ cls := "java/lang/String", name := "equals", desc := "(Ljava/lang/Object;)Z" } : Jvm.MethodName)) a0 Z = true := hw _ (List.mem_of_getElem? (i := 69) rfl)
theorem w70 (hw : HW a0 Z) : Jvm.Cond.before (Jvm.Cond.code ({ cls := "java/lang/String", name := "equals", desc := "(Ljava/lang/Object;)Z" } : Jvm.MethodName) jdk_42_method_66_code (3 : Nat) (Option.some Jvm.ClassFile.FieldType.boolean)) a0 Z = true := hw _ (List.mem_of_getElem? (i := 70) rfl)
theorem w71 (hw : HW a0 Z) : Jvm.Cond.before (Jvm.Cond.classLink "java/lang/String" (10 : Nat) "java/lang/String") a0 Z = true := hw _ (List.mem_of_getElem? (i := 71) rfl)
theorem w72 (hw : HW a0 Z) : Jvm.Cond.before (Jvm.Cond.methodLink "java/lang/String" (541 : Nat) ({ cls := "java/lang/StringLatin1", name := "equals", desc := "([B[B)Z" } : Jvm.MethodName)) a0 Z = true := hw _ (List.mem_of_getElem? (i := 72) rfl)
theorem w73 (hw : HW a0 Z) : Jvm.Cond.before (Jvm.Cond.static ({ cls := "java/lang/StringLatin1", name := "equals", desc := "([B[B)Z" } : Jvm.MethodName)) a0 Z = true := hw _ (List.mem_of_getElem? (i := 73) rfl)
theorem w74 (hw : HW a0 Z) : Jvm.Cond.before (Jvm.Cond.initialized "java/lang/StringLatin1") a0 Z = true := hw _ (List.mem_of_getElem? (i := 74) rfl)
theorem w75 (hw : HW a0 Z) : Jvm.Cond.before (Jvm.Cond.code ({ cls := "java/lang/StringLatin1", name := "equals", desc := "([B[B)Z" } : Jvm.MethodName) jdk_43_method_13_code (3 : Nat) (Option.some Jvm.ClassFile.FieldType.boolean)) a0 Z = true := hw _ (List.mem_of_getElem? (i := 75) rfl)
theorem w76 (hw : HW a0 Z) : Jvm.Cond.before (Jvm.Cond.superclass "java/lang/String" "java/lang/Object") a0 Z = true := hw _ (List.mem_of_getElem? (i := 76) rfl)
theorem w77 (hw : HW a0 Z) : Jvm.Cond.before (Jvm.Cond.noSuperclass "java/lang/Object") a0 Z = true := hw _ (List.mem_of_getElem? (i := 77) rfl)
theorem w78 (hw : HW a0 Z) : Jvm.Cond.before (Jvm.Cond.fieldLink "com/example/tariffwright/tariffwright/core/AreaEqualsPinLaw" (12 : Nat) "com/example/tariffwright/tariffwright/core/AreaKind" "TRANSMISSION_DISTRICT" "Lcom/example/tariffwright/tariffwright/core/AreaKind;") a0 Z = true := hw _ (List.mem_of_getElem? (i := 78) rfl)
theorem w79 (hw : HW a0 Z) : Jvm.Cond.before (Jvm.Cond.laysStatic "com/example/tariffwright/tariffwright/core/AreaKind" "TRANSMISSION_DISTRICT" "Lcom/example/tariffwright/tariffwright/core/AreaKind;") a0 Z = true := hw _ (List.mem_of_getElem? (i := 79) rfl)
end Wds
theorem d1_0 : decode method_2_code 0 = .ok (.iload_n 0, 1) := by decide +kernel
theorem d1_1 : decode method_2_code 1 = .ok (.sipush 255, 3) := by decide +kernel
theorem d1_4 : decode method_2_code 4 = .ok (.iand, 1) := by decide +kernel
theorem d1_5 : decode method_2_code 5 = .ok (.i2c, 1) := by decide +kernel
theorem d1_6 : decode method_2_code 6 = .ok (.istore_n 2, 1) := by decide +kernel
theorem d1_7 : decode method_2_code 7 = .ok (.iload_n 0, 1) := by decide +kernel
theorem d1_8 : decode method_2_code 8 = .ok (.bipush 8, 2) := by decide +kernel
theorem d1_10 : decode method_2_code 10 = .ok (.iushr, 1) := by decide +kernel
theorem d1_11 : decode method_2_code 11 = .ok (.sipush 255, 3) := by decide +kernel
theorem d1_14 : decode method_2_code 14 = .ok (.iand, 1) := by decide +kernel
theorem d1_15 : decode method_2_code 15 = .ok (.i2c, 1) := by decide +kernel
theorem d1_16 : decode method_2_code 16 = .ok (.istore_n 3, 1) := by decide +kernel
theorem d1_17 : decode method_2_code 17 = .ok (.iload_n 0, 1) := by decide +kernel
theorem d1_18 : decode method_2_code 18 = .ok (.bipush 16, 2) := by decide +kernel
theorem d1_20 : decode method_2_code 20 = .ok (.iushr, 1) := by decide +kernel
theorem d1_21 : decode method_2_code 21 = .ok (.sipush 255, 3) := by decide +kernel
theorem d1_24 : decode method_2_code 24 = .ok (.iand, 1) := by decide +kernel
theorem d1_25 : decode method_2_code 25 = .ok (.i2c, 1) := by decide +kernel
theorem d1_26 : decode method_2_code 26 = .ok (.istore 4, 2) := by decide +kernel
theorem d1_28 : decode method_2_code 28 = .ok (.iload_n 1, 1) := by decide +kernel
theorem d1_29 : decode method_2_code 29 = .ok (.iconst 1, 1) := by decide +kernel
theorem d1_30 : decode method_2_code 30 = .ok (.if_icmp .ne 18, 3) := by decide +kernel
theorem d1_33 : decode method_2_code 33 = .ok (.new 7, 3) := by decide +kernel
theorem d1_36 : decode method_2_code 36 = .ok (.dup, 1) := by decide +kernel
theorem d1_37 : decode method_2_code 37 = .ok (.iconst 1, 1) := by decide +kernel
theorem d1_38 : decode method_2_code 38 = .ok (.newarray .char, 2) := by decide +kernel
theorem d1_40 : decode method_2_code 40 = .ok (.dup, 1) := by decide +kernel
theorem d1_41 : decode method_2_code 41 = .ok (.iconst 0, 1) := by decide +kernel
theorem d1_42 : decode method_2_code 42 = .ok (.iload_n 2, 1) := by decide +kernel
theorem d1_43 : decode method_2_code 43 = .ok (.castore, 1) := by decide +kernel
theorem d1_44 : decode method_2_code 44 = .ok (.invokespecial 9, 3) := by decide +kernel
theorem d1_47 : decode method_2_code 47 = .ok (.areturn, 1) := by decide +kernel
theorem d1_48 : decode method_2_code 48 = .ok (.iload_n 1, 1) := by decide +kernel
theorem d1_49 : decode method_2_code 49 = .ok (.iconst 2, 1) := by decide +kernel
theorem d1_50 : decode method_2_code 50 = .ok (.if_icmp .ne 22, 3) := by decide +kernel
theorem d1_53 : decode method_2_code 53 = .ok (.new 7, 3) := by decide +kernel
theorem d1_56 : decode method_2_code 56 = .ok (.dup, 1) := by decide +kernel
theorem d1_57 : decode method_2_code 57 = .ok (.iconst 2, 1) := by decide +kernel
theorem d1_58 : decode method_2_code 58 = .ok (.newarray .char, 2) := by decide +kernel
theorem d1_60 : decode method_2_code 60 = .ok (.dup, 1) := by decide +kernel
theorem d1_61 : decode method_2_code 61 = .ok (.iconst 0, 1) := by decide +kernel
theorem d1_62 : decode method_2_code 62 = .ok (.iload_n 2, 1) := by decide +kernel
theorem d1_63 : decode method_2_code 63 = .ok (.castore, 1) := by decide +kernel
theorem d1_64 : decode method_2_code 64 = .ok (.dup, 1) := by decide +kernel
theorem d1_65 : decode method_2_code 65 = .ok (.iconst 1, 1) := by decide +kernel
theorem d1_66 : decode method_2_code 66 = .ok (.iload_n 3, 1) := by decide +kernel
theorem d1_67 : decode method_2_code 67 = .ok (.castore, 1) := by decide +kernel
theorem d1_68 : decode method_2_code 68 = .ok (.invokespecial 9, 3) := by decide +kernel
theorem d1_71 : decode method_2_code 71 = .ok (.areturn, 1) := by decide +kernel
theorem d1_72 : decode method_2_code 72 = .ok (.new 7, 3) := by decide +kernel
theorem d1_75 : decode method_2_code 75 = .ok (.dup, 1) := by decide +kernel
theorem d1_76 : decode method_2_code 76 = .ok (.iconst 3, 1) := by decide +kernel
theorem d1_77 : decode method_2_code 77 = .ok (.newarray .char, 2) := by decide +kernel
theorem d1_79 : decode method_2_code 79 = .ok (.dup, 1) := by decide +kernel
theorem d1_80 : decode method_2_code 80 = .ok (.iconst 0, 1) := by decide +kernel
theorem d1_81 : decode method_2_code 81 = .ok (.iload_n 2, 1) := by decide +kernel
theorem d1_82 : decode method_2_code 82 = .ok (.castore, 1) := by decide +kernel
theorem d1_83 : decode method_2_code 83 = .ok (.dup, 1) := by decide +kernel
theorem d1_84 : decode method_2_code 84 = .ok (.iconst 1, 1) := by decide +kernel
theorem d1_85 : decode method_2_code 85 = .ok (.iload_n 3, 1) := by decide +kernel
theorem d1_86 : decode method_2_code 86 = .ok (.castore, 1) := by decide +kernel
theorem d1_87 : decode method_2_code 87 = .ok (.dup, 1) := by decide +kernel
theorem d1_88 : decode method_2_code 88 = .ok (.iconst 2, 1) := by decide +kernel
theorem d1_89 : decode method_2_code 89 = .ok (.iload 4, 2) := by decide +kernel
theorem d1_91 : decode method_2_code 91 = .ok (.castore, 1) := by decide +kernel
theorem d1_92 : decode method_2_code 92 = .ok (.invokespecial 9, 3) := by decide +kernel
theorem d1_95 : decode method_2_code 95 = .ok (.areturn, 1) := by decide +kernel
theorem d2_0 : decode jdk_42_method_3_code 0 = .ok (.aload_n 0, 1) := by decide +kernel
theorem d2_1 : decode jdk_42_method_3_code 1 = .ok (.aload_n 1, 1) := by decide +kernel
theorem d2_2 : decode jdk_42_method_3_code 2 = .ok (.iconst 0, 1) := by decide +kernel
theorem d2_3 : decode jdk_42_method_3_code 3 = .ok (.aload_n 1, 1) := by decide +kernel
theorem d2_4 : decode jdk_42_method_3_code 4 = .ok (.arraylength, 1) := by decide +kernel
theorem d2_5 : decode jdk_42_method_3_code 5 = .ok (.aconst_null, 1) := by decide +kernel
theorem d2_6 : decode jdk_42_method_3_code 6 = .ok (.invokespecial 27, 3) := by decide +kernel
theorem d2_9 : decode jdk_42_method_3_code 9 = .ok (.return_, 1) := by decide +kernel
theorem d3_0 : decode jdk_42_method_149_code 0 = .ok (.aload_n 0, 1) := by decide +kernel
theorem d3_1 : decode jdk_42_method_149_code 1 = .ok (.invokespecial 1, 3) := by decide +kernel
theorem d3_4 : decode jdk_42_method_149_code 4 = .ok (.iload_n 3, 1) := by decide +kernel
theorem d3_5 : decode jdk_42_method_149_code 5 = .ok (.ifCond .ne 22, 3) := by decide +kernel
theorem d3_27 : decode jdk_42_method_149_code 27 = .ok (.getstatic 38, 3) := by decide +kernel
theorem d3_30 : decode jdk_42_method_149_code 30 = .ok (.ifCond .eq 28, 3) := by decide +kernel
theorem d3_33 : decode jdk_42_method_149_code 33 = .ok (.aload_n 1, 1) := by decide +kernel
theorem d3_34 : decode jdk_42_method_149_code 34 = .ok (.iload_n 2, 1) := by decide +kernel
theorem d3_35 : decode jdk_42_method_149_code 35 = .ok (.iload_n 3, 1) := by decide +kernel
theorem d3_36 : decode jdk_42_method_149_code 36 = .ok (.invokestatic 177, 3) := by decide +kernel
theorem d3_39 : decode jdk_42_method_149_code 39 = .ok (.astore 5, 2) := by decide +kernel
theorem d3_41 : decode jdk_42_method_149_code 41 = .ok (.aload_n 0, 1) := by decide +kernel
theorem d3_42 : decode jdk_42_method_149_code 42 = .ok (.aload 5, 2) := by decide +kernel
theorem d3_44 : decode jdk_42_method_149_code 44 = .ok (.iload_n 3, 1) := by decide +kernel
theorem d3_45 : decode jdk_42_method_149_code 45 = .ok (.invokestatic 47, 3) := by decide +kernel
theorem d3_48 : decode jdk_42_method_149_code 48 = .ok (.putfield 15, 3) := by decide +kernel
theorem d3_51 : decode jdk_42_method_149_code 51 = .ok (.aload_n 0, 1) := by decide +kernel
theorem d3_52 : decode jdk_42_method_149_code 52 = .ok (.aload 5, 2) := by decide +kernel
theorem d3_54 : decode jdk_42_method_149_code 54 = .ok (.putfield 9, 3) := by decide +kernel
theorem d3_57 : decode jdk_42_method_149_code 57 = .ok (.return_, 1) := by decide +kernel
theorem d5_0 : decode jdk_52_method_16_code 0 = .ok (.iload_n 2, 1) := by decide +kernel
theorem d5_1 : decode jdk_52_method_16_code 1 = .ok (.newarray .byte, 2) := by decide +kernel
theorem d5_3 : decode jdk_52_method_16_code 3 = .ok (.astore_n 3, 1) := by decide +kernel
theorem d5_4 : decode jdk_52_method_16_code 4 = .ok (.aload_n 0, 1) := by decide +kernel
theorem d5_5 : decode jdk_52_method_16_code 5 = .ok (.iload_n 1, 1) := by decide +kernel
theorem d5_6 : decode jdk_52_method_16_code 6 = .ok (.aload_n 3, 1) := by decide +kernel
theorem d5_7 : decode jdk_52_method_16_code 7 = .ok (.iconst 0, 1) := by decide +kernel
theorem d5_8 : decode jdk_52_method_16_code 8 = .ok (.iload_n 2, 1) := by decide +kernel
theorem d5_9 : decode jdk_52_method_16_code 9 = .ok (.invokestatic 115, 3) := by decide +kernel
theorem d5_12 : decode jdk_52_method_16_code 12 = .ok (.istore 4, 2) := by decide +kernel
theorem d5_14 : decode jdk_52_method_16_code 14 = .ok (.iload 4, 2) := by decide +kernel
theorem d5_16 : decode jdk_52_method_16_code 16 = .ok (.iload_n 2, 1) := by decide +kernel
theorem d5_17 : decode jdk_52_method_16_code 17 = .ok (.if_icmp .eq 40, 3) := by decide +kernel
theorem d5_57 : decode jdk_52_method_16_code 57 = .ok (.aload_n 3, 1) := by decide +kernel
theorem d5_58 : decode jdk_52_method_16_code 58 = .ok (.areturn, 1) := by decide +kernel
theorem d6_0 : decode jdk_52_method_21_code 0 = .ok (.iconst 0, 1) := by decide +kernel
theorem d6_1 : decode jdk_52_method_21_code 1 = .ok (.istore 5, 2) := by decide +kernel
theorem d6_3 : decode jdk_52_method_21_code 3 = .ok (.iload 5, 2) := by decide +kernel
theorem d6_5 : decode jdk_52_method_21_code 5 = .ok (.iload 4, 2) := by decide +kernel
theorem d6_7 : decode jdk_52_method_21_code 7 = .ok (.if_icmp .ge 37, 3) := by decide +kernel
theorem d6_10 : decode jdk_52_method_21_code 10 = .ok (.aload_n 0, 1) := by decide +kernel
theorem d6_11 : decode jdk_52_method_21_code 11 = .ok (.iload_n 1, 1) := by decide +kernel
theorem d6_12 : decode jdk_52_method_21_code 12 = .ok (.caload, 1) := by decide +kernel
theorem d6_13 : decode jdk_52_method_21_code 13 = .ok (.istore 6, 2) := by decide +kernel
theorem d6_15 : decode jdk_52_method_21_code 15 = .ok (.iload 6, 2) := by decide +kernel
theorem d6_17 : decode jdk_52_method_21_code 17 = .ok (.sipush 255, 3) := by decide +kernel
theorem d6_20 : decode jdk_52_method_21_code 20 = .ok (.if_icmp .le 6, 3) := by decide +kernel
theorem d6_26 : decode jdk_52_method_21_code 26 = .ok (.aload_n 2, 1) := by decide +kernel
theorem d6_27 : decode jdk_52_method_21_code 27 = .ok (.iload_n 3, 1) := by decide +kernel
theorem d6_28 : decode jdk_52_method_21_code 28 = .ok (.iload 6, 2) := by decide +kernel
theorem d6_30 : decode jdk_52_method_21_code 30 = .ok (.i2b, 1) := by decide +kernel
theorem d6_31 : decode jdk_52_method_21_code 31 = .ok (.bastore, 1) := by decide +kernel
theorem d6_32 : decode jdk_52_method_21_code 32 = .ok (.iinc 1 1, 3) := by decide +kernel
theorem d6_35 : decode jdk_52_method_21_code 35 = .ok (.iinc 3 1, 3) := by decide +kernel
theorem d6_38 : decode jdk_52_method_21_code 38 = .ok (.iinc 5 1, 3) := by decide +kernel
theorem d6_41 : decode jdk_52_method_21_code 41 = .ok (.goto (-38), 3) := by decide +kernel
theorem d6_44 : decode jdk_52_method_21_code 44 = .ok (.iload 4, 2) := by decide +kernel
theorem d6_46 : decode jdk_52_method_21_code 46 = .ok (.ireturn, 1) := by decide +kernel
theorem d7_0 : decode jdk_52_method_15_code 0 = .ok (.iload_n 1, 1) := by decide +kernel
theorem d7_1 : decode jdk_52_method_15_code 1 = .ok (.aload_n 0, 1) := by decide +kernel
theorem d7_2 : decode jdk_52_method_15_code 2 = .ok (.arraylength, 1) := by decide +kernel
theorem d7_3 : decode jdk_52_method_15_code 3 = .ok (.isub, 1) := by decide +kernel
theorem d7_4 : decode jdk_52_method_15_code 4 = .ok (.bipush 31, 2) := by decide +kernel
theorem d7_6 : decode jdk_52_method_15_code 6 = .ok (.iushr, 1) := by decide +kernel
theorem d7_7 : decode jdk_52_method_15_code 7 = .ok (.i2b, 1) := by decide +kernel
theorem d7_8 : decode jdk_52_method_15_code 8 = .ok (.ireturn, 1) := by decide +kernel
theorem d8_0 : decode prog_31_method_1_code 0 = .ok (.aload_n 0, 1) := by decide +kernel
theorem d8_1 : decode prog_31_method_1_code 1 = .ok (.invokespecial 1, 3) := by decide +kernel
theorem d8_4 : decode prog_31_method_1_code 4 = .ok (.aload_n 2, 1) := by decide +kernel
theorem d8_5 : decode prog_31_method_1_code 5 = .ok (.invokevirtual 7, 3) := by decide +kernel
theorem d8_8 : decode prog_31_method_1_code 8 = .ok (.ifCond .eq 20, 3) := by decide +kernel
theorem d8_28 : decode prog_31_method_1_code 28 = .ok (.aload_n 0, 1) := by decide +kernel
theorem d8_29 : decode prog_31_method_1_code 29 = .ok (.aload_n 1, 1) := by decide +kernel
theorem d8_30 : decode prog_31_method_1_code 30 = .ok (.invokestatic 26, 3) := by decide +kernel
theorem d8_33 : decode prog_31_method_1_code 33 = .ok (.checkcast 32, 3) := by decide +kernel
theorem d8_36 : decode prog_31_method_1_code 36 = .ok (.putfield 34, 3) := by decide +kernel
theorem d8_39 : decode prog_31_method_1_code 39 = .ok (.aload_n 0, 1) := by decide +kernel
theorem d8_40 : decode prog_31_method_1_code 40 = .ok (.aload_n 2, 1) := by decide +kernel
theorem d8_41 : decode prog_31_method_1_code 41 = .ok (.putfield 40, 3) := by decide +kernel
theorem d8_44 : decode prog_31_method_1_code 44 = .ok (.return_, 1) := by decide +kernel
theorem d9_0 : decode jdk_42_method_55_code 0 = .ok (.aload_n 0, 1) := by decide +kernel
theorem d9_1 : decode jdk_42_method_55_code 1 = .ok (.getfield 9, 3) := by decide +kernel
theorem d9_4 : decode jdk_42_method_55_code 4 = .ok (.arraylength, 1) := by decide +kernel
theorem d9_5 : decode jdk_42_method_55_code 5 = .ok (.ifCond .ne 7, 3) := by decide +kernel
theorem d9_12 : decode jdk_42_method_55_code 12 = .ok (.iconst 0, 1) := by decide +kernel
theorem d9_13 : decode jdk_42_method_55_code 13 = .ok (.ireturn, 1) := by decide +kernel
theorem d10_0 : decode jdk_31_method_10_code 0 = .ok (.aload_n 0, 1) := by decide +kernel
theorem d10_1 : decode jdk_31_method_10_code 1 = .ok (.ifnonnull 11, 3) := by decide +kernel
theorem d10_12 : decode jdk_31_method_10_code 12 = .ok (.aload_n 0, 1) := by decide +kernel
theorem d10_13 : decode jdk_31_method_10_code 13 = .ok (.areturn, 1) := by decide +kernel
theorem d11_0 : decode prog_31_method_4_code 0 = .ok (.aload_n 1, 1) := by decide +kernel
theorem d11_1 : decode prog_31_method_4_code 1 = .ok (.instanceof 35, 3) := by decide +kernel
theorem d11_4 : decode prog_31_method_4_code 4 = .ok (.ifCond .eq 37, 3) := by decide +kernel
theorem d11_7 : decode prog_31_method_4_code 7 = .ok (.aload_n 1, 1) := by decide +kernel
theorem d11_8 : decode prog_31_method_4_code 8 = .ok (.checkcast 35, 3) := by decide +kernel
theorem d11_11 : decode prog_31_method_4_code 11 = .ok (.astore_n 2, 1) := by decide +kernel
theorem d11_12 : decode prog_31_method_4_code 12 = .ok (.aload_n 0, 1) := by decide +kernel
theorem d11_13 : decode prog_31_method_4_code 13 = .ok (.getfield 34, 3) := by decide +kernel
theorem d11_16 : decode prog_31_method_4_code 16 = .ok (.aload_n 2, 1) := by decide +kernel
theorem d11_17 : decode prog_31_method_4_code 17 = .ok (.getfield 34, 3) := by decide +kernel
theorem d11_20 : decode prog_31_method_4_code 20 = .ok (.if_acmp .ne 21, 3) := by decide +kernel
theorem d11_23 : decode prog_31_method_4_code 23 = .ok (.aload_n 0, 1) := by decide +kernel
theorem d11_24 : decode prog_31_method_4_code 24 = .ok (.getfield 40, 3) := by decide +kernel
theorem d11_27 : decode prog_31_method_4_code 27 = .ok (.aload_n 2, 1) := by decide +kernel
theorem d11_28 : decode prog_31_method_4_code 28 = .ok (.getfield 40, 3) := by decide +kernel
theorem d11_31 : decode prog_31_method_4_code 31 = .ok (.invokevirtual 44, 3) := by decide +kernel
theorem d11_34 : decode prog_31_method_4_code 34 = .ok (.ifCond .eq 7, 3) := by decide +kernel
theorem d11_37 : decode prog_31_method_4_code 37 = .ok (.iconst 1, 1) := by decide +kernel
theorem d11_38 : decode prog_31_method_4_code 38 = .ok (.goto 4, 3) := by decide +kernel
theorem d11_41 : decode prog_31_method_4_code 41 = .ok (.iconst 0, 1) := by decide +kernel
theorem d11_42 : decode prog_31_method_4_code 42 = .ok (.ireturn, 1) := by decide +kernel
theorem d12_0 : decode jdk_42_method_66_code 0 = .ok (.aload_n 0, 1) := by decide +kernel
theorem d12_1 : decode jdk_42_method_66_code 1 = .ok (.aload_n 1, 1) := by decide +kernel
theorem d12_2 : decode jdk_42_method_66_code 2 = .ok (.if_acmp .ne 5, 3) := by decide +kernel
theorem d12_5 : decode jdk_42_method_66_code 5 = .ok (.iconst 1, 1) := by decide +kernel
theorem d12_6 : decode jdk_42_method_66_code 6 = .ok (.ireturn, 1) := by decide +kernel
theorem d12_7 : decode jdk_42_method_66_code 7 = .ok (.aload_n 1, 1) := by decide +kernel
theorem d12_8 : decode jdk_42_method_66_code 8 = .ok (.instanceof 10, 3) := by decide +kernel
theorem d12_11 : decode jdk_42_method_66_code 11 = .ok (.ifCond .eq 43, 3) := by decide +kernel
theorem d12_14 : decode jdk_42_method_66_code 14 = .ok (.aload_n 1, 1) := by decide +kernel
theorem d12_15 : decode jdk_42_method_66_code 15 = .ok (.checkcast 10, 3) := by decide +kernel
theorem d12_18 : decode jdk_42_method_66_code 18 = .ok (.astore_n 2, 1) := by decide +kernel
theorem d12_19 : decode jdk_42_method_66_code 19 = .ok (.getstatic 38, 3) := by decide +kernel
theorem d12_22 : decode jdk_42_method_66_code 22 = .ok (.ifCond .eq 14, 3) := by decide +kernel
theorem d12_25 : decode jdk_42_method_66_code 25 = .ok (.aload_n 0, 1) := by decide +kernel
theorem d12_26 : decode jdk_42_method_66_code 26 = .ok (.getfield 15, 3) := by decide +kernel
theorem d12_29 : decode jdk_42_method_66_code 29 = .ok (.aload_n 2, 1) := by decide +kernel
theorem d12_30 : decode jdk_42_method_66_code 30 = .ok (.getfield 15, 3) := by decide +kernel
theorem d12_33 : decode jdk_42_method_66_code 33 = .ok (.if_icmp .ne 21, 3) := by decide +kernel
theorem d12_36 : decode jdk_42_method_66_code 36 = .ok (.aload_n 0, 1) := by decide +kernel
theorem d12_37 : decode jdk_42_method_66_code 37 = .ok (.getfield 9, 3) := by decide +kernel
theorem d12_40 : decode jdk_42_method_66_code 40 = .ok (.aload_n 2, 1) := by decide +kernel
theorem d12_41 : decode jdk_42_method_66_code 41 = .ok (.getfield 9, 3) := by decide +kernel
theorem d12_44 : decode jdk_42_method_66_code 44 = .ok (.invokestatic 541, 3) := by decide +kernel
theorem d12_47 : decode jdk_42_method_66_code 47 = .ok (.ifCond .eq 7, 3) := by decide +kernel
theorem d12_50 : decode jdk_42_method_66_code 50 = .ok (.iconst 1, 1) := by decide +kernel
theorem d12_51 : decode jdk_42_method_66_code 51 = .ok (.goto 4, 3) := by decide +kernel
theorem d12_54 : decode jdk_42_method_66_code 54 = .ok (.iconst 0, 1) := by decide +kernel
theorem d12_55 : decode jdk_42_method_66_code 55 = .ok (.ireturn, 1) := by decide +kernel
theorem d13_0 : decode jdk_43_method_13_code 0 = .ok (.aload_n 0, 1) := by decide +kernel
theorem d13_1 : decode jdk_43_method_13_code 1 = .ok (.arraylength, 1) := by decide +kernel
theorem d13_2 : decode jdk_43_method_13_code 2 = .ok (.aload_n 1, 1) := by decide +kernel
theorem d13_3 : decode jdk_43_method_13_code 3 = .ok (.arraylength, 1) := by decide +kernel
theorem d13_4 : decode jdk_43_method_13_code 4 = .ok (.if_icmp .ne 30, 3) := by decide +kernel
theorem d13_7 : decode jdk_43_method_13_code 7 = .ok (.iconst 0, 1) := by decide +kernel
theorem d13_8 : decode jdk_43_method_13_code 8 = .ok (.istore_n 2, 1) := by decide +kernel
theorem d13_9 : decode jdk_43_method_13_code 9 = .ok (.iload_n 2, 1) := by decide +kernel
theorem d13_10 : decode jdk_43_method_13_code 10 = .ok (.aload_n 0, 1) := by decide +kernel
theorem d13_11 : decode jdk_43_method_13_code 11 = .ok (.arraylength, 1) := by decide +kernel
theorem d13_12 : decode jdk_43_method_13_code 12 = .ok (.if_icmp .ge 20, 3) := by decide +kernel
theorem d13_15 : decode jdk_43_method_13_code 15 = .ok (.aload_n 0, 1) := by decide +kernel
theorem d13_16 : decode jdk_43_method_13_code 16 = .ok (.iload_n 2, 1) := by decide +kernel
theorem d13_17 : decode jdk_43_method_13_code 17 = .ok (.baload, 1) := by decide +kernel
theorem d13_18 : decode jdk_43_method_13_code 18 = .ok (.aload_n 1, 1) := by decide +kernel
theorem d13_19 : decode jdk_43_method_13_code 19 = .ok (.iload_n 2, 1) := by decide +kernel
theorem d13_20 : decode jdk_43_method_13_code 20 = .ok (.baload, 1) := by decide +kernel
theorem d13_21 : decode jdk_43_method_13_code 21 = .ok (.if_icmp .eq 5, 3) := by decide +kernel
theorem d13_24 : decode jdk_43_method_13_code 24 = .ok (.iconst 0, 1) := by decide +kernel
theorem d13_25 : decode jdk_43_method_13_code 25 = .ok (.ireturn, 1) := by decide +kernel
theorem d13_26 : decode jdk_43_method_13_code 26 = .ok (.iinc 2 1, 3) := by decide +kernel
theorem d13_29 : decode jdk_43_method_13_code 29 = .ok (.goto (-20), 3) := by decide +kernel
theorem d13_32 : decode jdk_43_method_13_code 32 = .ok (.iconst 1, 1) := by decide +kernel
theorem d13_33 : decode jdk_43_method_13_code 33 = .ok (.ireturn, 1) := by decide +kernel
theorem d13_34 : decode jdk_43_method_13_code 34 = .ok (.iconst 0, 1) := by decide +kernel
theorem d13_35 : decode jdk_43_method_13_code 35 = .ok (.ireturn, 1) := by decide +kernel
theorem pd0 : parseMethodDescriptor "([CI[BII)I" = some ⟨[(.array .char), .int, (.array .byte), .int, .int], some .int⟩ := by decide +kernel
theorem pd1 : parseMethodDescriptor "([CII)[B" = some ⟨[(.array .char), .int, .int], some (.array .byte)⟩ := by decide +kernel
theorem pd2 : parseMethodDescriptor "([BI)B" = some ⟨[(.array .byte), .int], some .byte⟩ := by decide +kernel
theorem pd3 : parseMethodDescriptor "([CIILjava/lang/Void;)V" = some ⟨[(.array .char), .int, .int, (.object "java/lang/Void")], none⟩ := by decide +kernel
theorem pd4 : parseMethodDescriptor "([B[B)Z" = some ⟨[(.array .byte), (.array .byte)], some .boolean⟩ := by decide +kernel
theorem pd5 : parseMethodDescriptor "([C)V" = some ⟨[(.array .char)], none⟩ := by decide +kernel
theorem pd6 : parseMethodDescriptor "()Z" = some ⟨[], some .boolean⟩ := by decide +kernel
theorem pd7 : parseMethodDescriptor "(Ljava/lang/Object;)Ljava/lang/Object;" = some ⟨[(.object "java/lang/Object")], some (.object "java/lang/Object")⟩ := by decide +kernel
theorem pd8 : parseMethodDescriptor "(Ljava/lang/Object;)Z" = some ⟨[(.object "java/lang/Object")], some .boolean⟩ := by decide +kernel
theorem pd9 : parseMethodDescriptor "(II)Ljava/lang/String;" = some ⟨[.int, .int], some (.object "java/lang/String")⟩ := by decide +kernel
theorem pd10 : parseMethodDescriptor "(Lcom/example/tariffwright/tariffwright/core/AreaKind;Ljava/lang/String;)V" = some ⟨[(.object "com/example/tariffwright/tariffwright/core/AreaKind"), (.object "java/lang/String")], none⟩ := by decide +kernel

/-- a String of n chars, each 0 to 255: its byte array at b spells them -/
def Str (Z : State) (h : Heap) (s b : Addr) (k : ClassId) (n : Nat) (f : Nat → Int32) : Prop :=
  Exa Z h s "java/lang/String" ∧ Fld Z h s "java/lang/String" "coder" "B" (.int 0) ∧ Fld Z h s "java/lang/String" "value" "[B" (.ref b) ∧ Arf Z h b k .byte n (fun i => .int (f i))
section StrS
variable {Z : State} {h h' : Heap} {s b a : Addr} {k : ClassId} {n sl : Nat} {f : Nat → Int32} {v : Value} {ws : List Addr}
theorem Str.ext (F : Str Z h s b k n f) (E : Ext h h') : Str Z h' s b k n f := ⟨F.1.ext E, F.2.1.ext E, F.2.2.1.ext E, F.2.2.2.ext E⟩
theorem Str.other (F : Str Z h s b k n f) (W : Wr h h' a sl v) (q : s ≠ a) (q' : b ≠ a) : Str Z h' s b k n f := ⟨F.1.wr W, F.2.1.other W (Or.inl q), F.2.2.1.other W (Or.inl q), F.2.2.2.other W q'⟩
theorem Str.keep (F : Str Z h s b k n f) (K : Keep h h' ws) (q : s ∉ ws) (q' : b ∉ ws) : Str Z h' s b k n f := ⟨F.1.keep K, F.2.1.keep K q, F.2.2.1.keep K q, F.2.2.2.keep K q'⟩
theorem Str.lt (F : Str Z h s b k n f) : s < h.size := F.1.lt
theorem Str.lt' (F : Str Z h s b k n f) : b < h.size := F.2.2.2.lt
end StrS
theorem step_set {α : Type} {g : Nat → α} {f : Nat → α} (x : Nat) (j : Int) (h : 0 ≤ j) : (if x = j.toNat then f j.toNat else if x < j.toNat then f x else g x) = if x < (j + 1).toNat then f x else g x := by
  rcases Nat.lt_trichotomy x j.toNat with q | q | q
  · rw [if_neg (by omega), if_pos q, if_pos (by omega)]
  · rw [if_pos q, if_pos (by omega), q]
  · rw [if_neg (by omega), if_neg (by omega), if_neg (by omega)]
theorem byte_inj {x y : Int32} (h1 : 0 ≤ x.toInt) (h2 : x.toInt ≤ 255) (h3 : 0 ≤ y.toInt) (h4 : y.toInt ≤ 255) (e : x.toInt8.toInt32 = y.toInt8.toInt32) : x = y := by
  have a := c_i2b x; have b := c_i2b y; rw [e] at a; exact of_toInt (by omega)

def own_ch (n : Int32) (i : Nat) : Int32 := if i = 0 then (n &&& (255 : Int32)) else if i = 1 then (((n.toUInt32 >>> ((8 : Int32) &&& 31).toUInt32).toInt32) &&& (255 : Int32)) else (((n.toUInt32 >>> ((16 : Int32) &&& 31).toUInt32).toInt32) &&& (255 : Int32))
theorem own_ch_rng (n : Int32) (i : Nat) : 0 ≤ (own_ch n i).toInt ∧ (own_ch n i).toInt ≤ 255 := by
  unfold own_ch; split
  · exact and_rng _ 255 rfl (by decide)
  · split <;> exact and_rng _ 255 rfl (by decide)
theorem pn_6 : plainFor (⟨"java/lang/StringUTF16", "compress", "([CI[BII)I"⟩ : MethodName) = true := plainFor_of_name (by first | (simp [plainName, overriddenIn]; done) | decide +kernel)
set_option maxRecDepth 65536 in
set_option maxHeartbeats 40000000 in
theorem str_cmp1 {Z : State} {a0 : Array Value} (hw : HW a0 Z) (a b : Addr) (ka kb : ClassId) (n : Nat) (z : Int32) (c : Nat → Int32) (g : Nat → Value) (h0 : Heap) (n0 : Nat) (hz : z.toInt = n) (A : Arf Z h0 a ka .char n (fun i => .int (c i))) (B : Arf Z h0 b kb .byte n g) (ne_a_b : a ≠ b) (ge_b : n0 ≤ b) (hc : ∀ i, i < n → 0 ≤ (c i).toInt ∧ (c i).toInt ≤ 255) :
    MetW Z (⟨"java/lang/StringUTF16", "compress", "([CI[BII)I"⟩ : MethodName) jdk_52_method_21_code 7 (some .int) [] ({ frames := 0, cells := 0, slots := 0, locals := 0 } : Room) #[(.ref a), (.int (0 : Int32)), (.ref b), (.int (0 : Int32)), (.int z)] h0 n0 (fun v h => v = some (.int z) ∧ Keep h0 h [b] ∧ Arf Z h b kb .byte n (fun i => .int (c i).toInt8.toInt32)) := by
  refine k_body (f := (fun m => mkF m 0 #[.val (.ref a), .val (.int (0 : Int32)), .val (.ref b), .val (.int (0 : Int32)), .val (.int z), .unset, .unset] [])) pn_6 (fun m => by first | (simp [entryFrame, mkF, argsToLocals, Value.category, maxLocals]; done) | rfl) ?_
  intro Γ T G X
  show Go Γ n0 _ T (mkF Γ.m 0 #[.val (.ref a), .val (.int (0 : Int32)), .val (.ref b), .val (.int (0 : Int32)), .val (.int z), .unset, .unset] [])
  refine k_iconst G X d6_0 (pc' := 1) rfl (z := (0 : Int32)) (by decide) ?_
  refine k_istore G X d6_1 (pc' := 3) rfl (l' := #[.val (.ref a), .val (.int (0 : Int32)), .val (.ref b), .val (.int (0 : Int32)), .val (.int z), .val (.int (0 : Int32)), .unset]) rfl ?_
  have LOOP : ∀ (k : Nat) (T : State) (h1 : Heap) (i : Int32) (s6 : Slot), ((s6 = .unset ∨ ∃ w, s6 = .val w ∧ w.category = 1)) → (Arf Z h1 a ka .char n (fun i => .int (c i))) → (Arf Z h1 b kb .byte n (fun x => if x < i.toInt.toNat then .int (c x).toInt8.toInt32 else g x)) → (Keep h0 h1 [b]) → (0 ≤ i.toInt) → (i.toInt ≤ n) → n - i.toInt.toNat = k → W Γ n0 T h1 0 0 → Go Γ n0 (fun v h => v = some (.int z) ∧ Keep h0 h [b] ∧ Arf Z h b kb .byte n (fun i => .int (c i).toInt8.toInt32)) T (mkF Γ.m 3 #[.val (.ref a), .val (.int i), .val (.ref b), .val (.int i), .val (.int z), .val (.int i), s6] []) := by
    intro k
    induction k using Nat.strongRecOn with
    | _ k ih =>
      intro T h1 i s6 h_s6 A B KP hi0 hin hk X
      refine k_iload G X d6_3 (pc' := 5) rfl rfl ?_
      refine k_iload G X d6_5 (pc' := 7) rfl rfl ?_
      refine k_icmp_ge G X d6_7 (pc' := 44) rfl (by decide) (pc'' := 10) rfl (fun c7 => ?_) (fun c7 => ?_)
      · refine k_iload G X d6_44 (pc' := 46) rfl rfl ?_
        refine k_reti G X d6_46 rfl ?_ (by decide) (by decide)
        refine ⟨rfl, KP, B.congr fun x hx => ?_⟩
        rw [if_pos (by omega)]
      · have hlt : i.toInt < n := by omega
        have hi1 : (i + (1 : Int32)).toInt = i.toInt + 1 := iadd_toInt (by rw [show (1 : Int32).toInt = 1 from rfl]; omega) (by rw [show (1 : Int32).toInt = 1 from rfl]; have := A.size_lt; omega)
        have hci := hc i.toInt.toNat (by omega)
        refine k_aloadN G X d6_10 (pc' := 11) rfl rfl rfl ?_
        refine k_iloadN G X d6_11 (pc' := 12) rfl rfl ?_
        refine k_caload G X (i := i.toInt.toNat) (v := (.int (c i.toInt.toNat))) A (by omega) (by omega) rfl d6_12 (pc' := 13) rfl ?_
        refine k_istoreS G X d6_13 (pc' := 15) rfl rfl h_s6 (l' := #[.val (.ref a), .val (.int i), .val (.ref b), .val (.int i), .val (.int z), .val (.int i), .val (.int (c i.toInt.toNat))]) rfl ?_
        refine k_iload G X d6_15 (pc' := 17) rfl rfl ?_
        refine k_sipush G X d6_17 (pc' := 20) rfl (z := (255 : Int32)) (by decide) ?_
        refine k_icmp_le G X d6_20 (pc' := 26) rfl (by decide) (pc'' := 23) rfl (fun c20 => ?_) (fun c20 => (absurd c20 (by rw [show (255 : Int32).toInt = 255 from rfl]; omega)))
        refine k_aloadN G X d6_26 (pc' := 27) rfl rfl rfl ?_
        refine k_iloadN G X d6_27 (pc' := 28) rfl rfl ?_
        refine k_iload G X d6_28 (pc' := 30) rfl rfl ?_
        refine k_i2b G X d6_30 (pc' := 31) rfl rfl ?_
        refine k_bastore G X (i := i.toInt.toNat) (z := (c i.toInt.toNat).toInt8.toInt32) B (by omega) (by omega) (by simp [nar]) ge_b d6_31 (pc' := 32) rfl (fun T h31 W31 B X => ?_)
        replace A := A.other W31 ne_a_b
        replace KP := KP.wr W31 (Or.inl (List.mem_of_getElem? (i := 0) rfl))
        refine k_iinc G X d6_32 (pc' := 35) rfl rfl (z := (i + (1 : Int32))) rfl (l' := #[.val (.ref a), .val (.int (i + (1 : Int32))), .val (.ref b), .val (.int i), .val (.int z), .val (.int i), .val (.int (c i.toInt.toNat))]) rfl ?_
        refine k_iinc G X d6_35 (pc' := 38) rfl rfl (z := (i + (1 : Int32))) rfl (l' := #[.val (.ref a), .val (.int (i + (1 : Int32))), .val (.ref b), .val (.int (i + (1 : Int32))), .val (.int z), .val (.int i), .val (.int (c i.toInt.toNat))]) rfl ?_
        refine k_iinc G X d6_38 (pc' := 41) rfl rfl (z := (i + (1 : Int32))) rfl (l' := #[.val (.ref a), .val (.int (i + (1 : Int32))), .val (.ref b), .val (.int (i + (1 : Int32))), .val (.int z), .val (.int (i + (1 : Int32))), .val (.int (c i.toInt.toNat))]) rfl ?_
        refine k_goto G X d6_41 (by decide) (pc' := 3) rfl ?_
        exact ih _ (by rw [hi1]; omega) T h31 (i + (1 : Int32)) (.val (.int (c i.toInt.toNat))) (Or.inr ⟨_, rfl, rfl⟩) A (B.congr fun x hx => by rw [hi1]; exact step_set (f := fun x => Value.int (c x).toInt8.toInt32) (g := g) x i.toInt hi0) KP (by omega) (by omega) rfl X
  exact LOOP _ T h0 (0 : Int32) (.unset) (Or.inl rfl) A (B.congr fun i _ => by simp [show (0 : Int32).toInt = 0 from rfl]) (Keep.refl h0 [b]) (by decide) (by rw [z32]; omega) rfl X
theorem pn_5 : plainFor (⟨"java/lang/StringUTF16", "compress", "([CII)[B"⟩ : MethodName) = true := plainFor_of_name (by first | (simp [plainName, overriddenIn]; done) | decide +kernel)
set_option maxRecDepth 65536 in
set_option maxHeartbeats 40000000 in
theorem str_cmp2 {Z : State} {a0 : Array Value} (hw : HW a0 Z) (a : Addr) (ka : ClassId) (n : Nat) (z : Int32) (c : Nat → Int32) (h0 : Heap) (n0 : Nat) (hz : z.toInt = n) (hn : n ≤ 3) (A : Arf Z h0 a ka .char n (fun i => .int (c i))) (O : Old Z n0 h0) (hc : ∀ i, i < n → 0 ≤ (c i).toInt ∧ (c i).toInt ≤ 255) :
    MetW Z (⟨"java/lang/StringUTF16", "compress", "([CII)[B"⟩ : MethodName) jdk_52_method_16_code 6 (some (.array .byte)) [] ({ frames := 1, cells := 1, slots := 3, locals := 18 } : Room) #[(.ref a), (.int (0 : Int32)), (.int z)] h0 n0 (fun v h => ∃ b kb, v = some (.ref b) ∧ h0.size ≤ b ∧ Keep h0 h [] ∧ Arf Z h b kb .byte n (fun i => .int (c i).toInt8.toInt32)) := by
  refine k_body (f := (fun m => mkF m 0 #[.val (.ref a), .val (.int (0 : Int32)), .val (.int z), .unset, .unset, .unset] [])) pn_5 (fun m => by first | (simp [entryFrame, mkF, argsToLocals, Value.category, maxLocals]; done) | rfl) ?_
  intro Γ T G X
  have KP := Keep.refl h0 []
  show Go Γ n0 _ T (mkF Γ.m 0 #[.val (.ref a), .val (.int (0 : Int32)), .val (.int z), .unset, .unset, .unset] [])
  refine k_iloadN G X d5_0 (pc' := 1) rfl rfl ?_
  refine k_newP G X (aty := .byte) (n := n) (cap := 3) (w26 hw) d5_1 (pc' := 3) rfl hz hn (by decide) (by decide) (by decide) (fun T h1 b1 k1 s_b1 E1 A_b1 X => ?_)
  have ne_a_b1 : a ≠ b1 := Nat.ne_of_lt (Nat.lt_of_lt_of_eq A.lt s_b1)
  have ge_b1 : n0 ≤ b1 := Nat.le_trans (Jvm.OwnK.Old_le O) (Nat.le_of_eq s_b1)
  have sz_b1 : h0.size ≤ b1 := Nat.le_trans KP.1 (Nat.le_of_eq s_b1)
  replace A := A.ext E1
  replace O := O.ext E1
  replace KP := KP.ext E1
  replace A_b1 : Arf Z h1 b1 k1 .byte n (fun _ => (.int (0 : Int32))) := A_b1
  refine k_astoreN G X d5_3 (pc' := 4) rfl rfl (l' := #[.val (.ref a), .val (.int (0 : Int32)), .val (.int z), .val (.ref b1), .unset, .unset]) rfl ?_
  refine k_aloadN G X d5_4 (pc' := 5) rfl rfl rfl ?_
  refine k_iloadN G X d5_5 (pc' := 6) rfl rfl ?_
  refine k_aloadN G X d5_6 (pc' := 7) rfl rfl rfl ?_
  refine k_iconst G X d5_7 (pc' := 8) rfl (z := (0 : Int32)) (by decide) ?_
  refine k_iloadN G X d5_8 (pc' := 9) rfl rfl ?_
  refine k_callS G X (argsL := [(.ref a), (.int (0 : Int32)), (.ref b1), (.int (0 : Int32)), (.int z)]) (rest := []) rfl (w27 hw) (w28 hw) (w24 hw) (w29 hw) (by decide) (str_cmp1 hw a b1 ka k1 n z c _ h1 n0 hz A A_b1 ne_a_b1 ge_b1 hc) d5_9 pd0 rfl (pc' := 12) rfl rfl (wd := 0) rfl (by decide) (by decide) (by decide) (by decide) (fun T h9 v X q => ?_)
  obtain ⟨rfl, K9, A_b1⟩ := q
  replace A := A.keep K9 (by simp only [List.mem_cons, List.not_mem_nil, or_false, not_or]; exact ne_a_b1)
  replace O := O.keep K9 (allS ge_b1 (all0))
  replace KP := KP.trans K9 (allS (Or.inr sz_b1) (all0))
  show Go Γ n0 _ T (mkF Γ.m 12 #[.val (.ref a), .val (.int (0 : Int32)), .val (.int z), .val (.ref b1), .unset, .unset] [(.int z)])
  refine k_istore G X d5_12 (pc' := 14) rfl (l' := #[.val (.ref a), .val (.int (0 : Int32)), .val (.int z), .val (.ref b1), .val (.int z), .unset]) rfl ?_
  refine k_iload G X d5_14 (pc' := 16) rfl rfl ?_
  refine k_iloadN G X d5_16 (pc' := 17) rfl rfl ?_
  refine k_icmp_eq G X d5_17 (pc' := 57) rfl (by decide) (pc'' := 20) rfl (fun c17 => ?_) (fun c17 => (absurd c17 (by simp)))
  refine k_aloadN G X d5_57 (pc' := 58) rfl rfl rfl ?_
  refine k_reta G X d5_58 (t := (.array .byte)) rfl rfl rfl ?_ (by decide) (by decide)
  exact ⟨b1, k1, rfl, sz_b1, KP, A_b1⟩
theorem pn_7 : plainFor (⟨"java/lang/StringUTF16", "coderFromArrayLen", "([BI)B"⟩ : MethodName) = true := plainFor_of_name (by first | (simp [plainName, overriddenIn]; done) | decide +kernel)
set_option maxRecDepth 65536 in
set_option maxHeartbeats 40000000 in
theorem str_cod {Z : State} {a0 : Array Value} (hw : HW a0 Z) (b : Addr) (kb : ClassId) (n : Nat) (z : Int32) (f : Nat → Value) (h0 : Heap) (n0 : Nat) (hz : z.toInt = n) (B : Arf Z h0 b kb .byte n f) :
    MetW Z (⟨"java/lang/StringUTF16", "coderFromArrayLen", "([BI)B"⟩ : MethodName) jdk_52_method_15_code 2 (some .byte) [] ({ frames := 0, cells := 0, slots := 0, locals := 0 } : Room) #[(.ref b), (.int z)] h0 n0 (fun v h => v = some (.int 0) ∧ h = h0) := by
  refine k_body (f := (fun m => mkF m 0 #[.val (.ref b), .val (.int z)] [])) pn_7 (fun m => by first | (simp [entryFrame, mkF, argsToLocals, Value.category, maxLocals]; done) | rfl) ?_
  intro Γ T G X
  show Go Γ n0 _ T (mkF Γ.m 0 #[.val (.ref b), .val (.int z)] [])
  refine k_iloadN G X d7_0 (pc' := 1) rfl rfl ?_
  refine k_aloadN G X d7_1 (pc' := 2) rfl rfl rfl ?_
  refine k_alen G X (z := z) B hz d7_2 (pc' := 3) rfl ?_
  refine k_isub G X d7_3 (pc' := 4) rfl rfl ?_
  rw [show z - z = (0 : Int32) from Int32.sub_self z]
  refine k_bipush G X d7_4 (pc' := 6) rfl (z := (31 : Int32)) (by decide) ?_
  refine k_iushr G X d7_6 (pc' := 7) rfl (z := (0 : Int32)) (by decide) ?_
  refine k_i2b G X d7_7 (pc' := 8) rfl (z := (0 : Int32)) (by decide) ?_
  refine k_retb G X d7_8 (t := .byte) rfl (by simp) rfl ?_ (by decide) (by decide)
  exact ⟨rfl, rfl⟩
theorem pn_3 : plainFor (⟨"java/lang/String", "<init>", "([CIILjava/lang/Void;)V"⟩ : MethodName) = true := plainFor_of_name (by first | (simp [plainName, overriddenIn]; done) | decide +kernel)
set_option maxRecDepth 65536 in
set_option maxHeartbeats 40000000 in
theorem str_init4 {Z : State} {a0 : Array Value} (hw : HW a0 Z) (s a : Addr) (ka : ClassId) (n : Nat) (z cs : Int32) (c : Nat → Int32) (h0 : Heap) (n0 : Nat) (hz : z.toInt = n) (hn : n ≤ 3) (hn1 : 1 ≤ n) (E : Exa Z h0 s "java/lang/String") (FV : Fld Z h0 s "java/lang/String" "value" "[B" .null) (FC : Fld Z h0 s "java/lang/String" "coder" "B" (.int 0)) (A : Arf Z h0 a ka .char n (fun i => .int (c i))) (ne_s_a : s ≠ a) (ge_s : n0 ≤ s) (O : Old Z n0 h0) (S_CS : Sta Z h0 "java/lang/String" "COMPACT_STRINGS" "Z" (.int cs)) (hcs : cs ≠ 0) (hc : ∀ i, i < n → 0 ≤ (c i).toInt ∧ (c i).toInt ≤ 255) :
    MetW Z (⟨"java/lang/String", "<init>", "([CIILjava/lang/Void;)V"⟩ : MethodName) jdk_42_method_149_code 6 none [] ({ frames := 2, cells := 1, slots := 3, locals := 37 } : Room) #[(.ref s), (.ref a), (.int (0 : Int32)), (.int z), .null] h0 n0 (fun v h => v = none ∧ Keep h0 h [s] ∧ ∃ b kb, h0.size ≤ b ∧ Str Z h s b kb n (fun i => (c i).toInt8.toInt32)) := by
  refine k_body (f := (fun m => mkF m 0 #[.val (.ref s), .val (.ref a), .val (.int (0 : Int32)), .val (.int z), .val .null, .unset] [])) pn_3 (fun m => by first | (simp [entryFrame, mkF, argsToLocals, Value.category, maxLocals]; done) | rfl) ?_
  intro Γ T G X
  have KP := Keep.refl h0 [s]
  have E0 := E; have A0 := A
  show Go Γ n0 _ T (mkF Γ.m 0 #[.val (.ref s), .val (.ref a), .val (.int (0 : Int32)), .val (.int z), .val .null, .unset] [])
  refine k_aloadN G X d3_0 (pc' := 1) rfl rfl rfl ?_
  refine k_initO G X (w18 hw) (w19 hw) (w20 hw) d3_1 (pc' := 4) rfl rfl (by decide) (wd := 0) rfl (by decide) (fun T X => ?_)
  refine k_iloadN G X d3_4 (pc' := 5) rfl rfl ?_
  refine k_if_ne G X d3_5 (pc' := 27) rfl (by decide) (pc'' := 8) rfl (fun c5 => ?_) (fun c5 => (absurd c5 (by intro q; rw [q, z32] at hz; omega)))
  refine k_getS G X (host := "") (Or.inl (w21 hw)) Via.refl S_CS d3_27 (pc' := 30) rfl (fun T X => ?_)
  refine k_if_eq G X d3_30 (pc' := 58) rfl (by decide) (pc'' := 33) rfl (fun c30 => (absurd c30 hcs)) (fun c30 => ?_)
  refine k_aloadN G X d3_33 (pc' := 34) rfl rfl rfl ?_
  refine k_iloadN G X d3_34 (pc' := 35) rfl rfl ?_
  refine k_iloadN G X d3_35 (pc' := 36) rfl rfl ?_
  refine k_callS G X (argsL := [(.ref a), (.int (0 : Int32)), (.int z)]) (rest := []) rfl (w22 hw) (w23 hw) (w24 hw) (w25 hw) (by decide) (str_cmp2 hw a ka n z c h0 n0 hz hn A O hc) d3_36 pd1 rfl (pc' := 39) rfl rfl (wd := 0) rfl (by decide) (by decide) (by decide) (by decide) (fun T h36 v X q => ?_)
  obtain ⟨b, kb, rfl, sz_b, K36, B⟩ := q
  replace S_CS := Jvm.OwnK.Sta_keep S_CS K36
  replace E := E.keep K36
  replace FV := FV.keep K36 nin0
  replace FC := FC.keep K36 nin0
  replace A := A.keep K36 nin0
  replace O := O.keep K36 (all0)
  replace KP := KP.trans K36 (all0)
  show Go Γ n0 _ T (mkF Γ.m 39 #[.val (.ref s), .val (.ref a), .val (.int (0 : Int32)), .val (.int z), .val .null, .unset] [(.ref b)])
  refine k_astore G X d3_39 (pc' := 41) rfl rfl (l' := #[.val (.ref s), .val (.ref a), .val (.int (0 : Int32)), .val (.int z), .val .null, .val (.ref b)]) rfl ?_
  have ne_s_b : s ≠ b := Nat.ne_of_lt (Nat.lt_of_lt_of_le E0.lt sz_b)
  have ne_a_b : a ≠ b := Nat.ne_of_lt (Nat.lt_of_lt_of_le A0.lt sz_b)
  refine k_aloadN G X d3_41 (pc' := 42) rfl rfl rfl ?_
  refine k_aload G X d3_42 (pc' := 44) rfl rfl rfl ?_
  refine k_iloadN G X d3_44 (pc' := 45) rfl rfl ?_
  refine k_callS G X (argsL := [(.ref b), (.int z)]) (rest := [(.ref s)]) rfl (w30 hw) (w31 hw) (w24 hw) (w32 hw) (by decide) (str_cod hw b kb n z _ h36 n0 hz B) d3_45 pd2 rfl (pc' := 48) rfl rfl (wd := 1) rfl (by decide) (by decide) (by decide) (by decide) (fun T h45 v X q => ?_)
  obtain ⟨rfl, e45⟩ := q
  replace X := X.eq e45
  show Go Γ n0 _ T (mkF Γ.m 48 #[.val (.ref s), .val (.ref a), .val (.int (0 : Int32)), .val (.int z), .val .null, .val (.ref b)] [(.int (0 : Int32)), (.ref s)])
  refine k_putFN G X (w33 hw) Via.refl FC E (Or.inr ⟨(w34 hw), rfl, rfl⟩) (w8 hw) (ty := .byte) (v' := (.int (0 : Int32))) (by decide) rfl rfl ge_s d3_48 (pc' := 51) rfl (fun T h48 W48 X => ?_)
  replace E := E.wr W48
  replace FV := FV.other W48 (Or.inr (slot_ne (Or.inr (w36 hw)) (Or.inr (w34 hw)) (by decide) (t := (.array .byte)) (t' := .byte) (by decide) (by decide)))
  replace FC := FC.same W48
  replace A := A.other W48 (Ne.symm ne_s_a)
  replace O := O.wr W48 ge_s
  replace KP := KP.wr W48 (Or.inl (List.mem_of_getElem? (i := 0) rfl))
  replace S_CS := S_CS.wr W48
  replace B := B.other W48 (Ne.symm ne_s_b)
  refine k_aloadN G X d3_51 (pc' := 52) rfl rfl rfl ?_
  refine k_aload G X d3_52 (pc' := 54) rfl rfl rfl ?_
  refine k_putF G X (host := "") (Or.inl (w35 hw)) Via.refl FV E (Or.inr ⟨(w36 hw), rfl, rfl⟩) (w8 hw) (ty := (.array .byte)) (by decide) rfl rfl ge_s d3_54 (pc' := 57) rfl (fun T h54 W54 X => ?_)
  replace E := E.wr W54
  replace FV := FV.same W54
  replace FC := FC.other W54 (Or.inr (slot_ne (Or.inr (w34 hw)) (Or.inr (w36 hw)) (by decide) (t := .byte) (t' := (.array .byte)) (by decide) (by decide)))
  replace A := A.other W54 (Ne.symm ne_s_a)
  replace O := O.wr W54 ge_s
  replace KP := KP.wr W54 (Or.inl (List.mem_of_getElem? (i := 0) rfl))
  replace S_CS := S_CS.wr W54
  replace B := B.other W54 (Ne.symm ne_s_b)
  refine k_retv G X d3_57 rfl ?_ (by decide) (by decide)
  exact ⟨rfl, KP, b, kb, sz_b, E, FC, FV, B⟩
theorem pn_2 : plainFor (⟨"java/lang/String", "<init>", "([C)V"⟩ : MethodName) = true := plainFor_of_name (by first | (simp [plainName, overriddenIn]; done) | decide +kernel)
set_option maxRecDepth 65536 in
set_option maxHeartbeats 40000000 in
theorem str_init {Z : State} {a0 : Array Value} (hw : HW a0 Z) (s a : Addr) (ka : ClassId) (n : Nat) (z cs : Int32) (c : Nat → Int32) (h0 : Heap) (n0 : Nat) (hz : z.toInt = n) (hn : n ≤ 3) (hn1 : 1 ≤ n) (E : Exa Z h0 s "java/lang/String") (FV : Fld Z h0 s "java/lang/String" "value" "[B" .null) (FC : Fld Z h0 s "java/lang/String" "coder" "B" (.int 0)) (A : Arf Z h0 a ka .char n (fun i => .int (c i))) (ne_s_a : s ≠ a) (ge_s : n0 ≤ s) (O : Old Z n0 h0) (S_CS : Sta Z h0 "java/lang/String" "COMPACT_STRINGS" "Z" (.int cs)) (hcs : cs ≠ 0) (hc : ∀ i, i < n → 0 ≤ (c i).toInt ∧ (c i).toInt ≤ 255) :
    MetW Z (⟨"java/lang/String", "<init>", "([C)V"⟩ : MethodName) jdk_42_method_3_code 2 none [] ({ frames := 3, cells := 1, slots := 3, locals := 54 } : Room) #[(.ref s), (.ref a)] h0 n0 (fun v h => v = none ∧ Keep h0 h [s] ∧ ∃ b kb, h0.size ≤ b ∧ Str Z h s b kb n (fun i => (c i).toInt8.toInt32)) := by
  refine k_body (f := (fun m => mkF m 0 #[.val (.ref s), .val (.ref a)] [])) pn_2 (fun m => by first | (simp [entryFrame, mkF, argsToLocals, Value.category, maxLocals]; done) | rfl) ?_
  intro Γ T G X
  have KP := Keep.refl h0 [s]
  show Go Γ n0 _ T (mkF Γ.m 0 #[.val (.ref s), .val (.ref a)] [])
  refine k_aloadN G X d2_0 (pc' := 1) rfl rfl rfl ?_
  refine k_aloadN G X d2_1 (pc' := 2) rfl rfl rfl ?_
  refine k_iconst G X d2_2 (pc' := 3) rfl (z := (0 : Int32)) (by decide) ?_
  refine k_aloadN G X d2_3 (pc' := 4) rfl rfl rfl ?_
  refine k_alen G X (z := z) A hz d2_4 (pc' := 5) rfl ?_
  refine k_anull G X d2_5 (pc' := 6) rfl ?_
  refine k_callI G X (argsL := [(.ref a), (.int (0 : Int32)), (.int z), .null]) (rest := []) rfl rfl (w14 hw) (w15 hw) (w9 hw) (w17 hw) (by decide) (str_init4 hw s a ka n z cs c h0 n0 hz hn hn1 E FV FC A ne_s_a ge_s O S_CS hcs hc) d2_6 pd3 rfl (pc' := 9) rfl rfl (wd := 0) rfl (by decide) (by decide) (by decide) (by decide) (fun T h6 v X q => ?_)
  obtain ⟨rfl, q⟩ := q
  show Go Γ n0 _ T (mkF Γ.m 9 #[.val (.ref s), .val (.ref a)] [])
  refine k_retv G X d2_9 rfl ?_ (by decide) (by decide)
  exact ⟨rfl, q⟩
theorem pn_13 : plainFor (⟨"java/lang/StringLatin1", "equals", "([B[B)Z"⟩ : MethodName) = true := plainFor_of_name (by first | (simp [plainName, overriddenIn]; done) | decide +kernel)
set_option maxRecDepth 65536 in
set_option maxHeartbeats 40000000 in
theorem str_leq {Z : State} {a0 : Array Value} (hw : HW a0 Z) (a b : Addr) (ka kb : ClassId) (n m : Nat) (f g : Nat → Int32) (h0 : Heap) (n0 : Nat) (A : Arf Z h0 a ka .byte n (fun i => .int (f i))) (B : Arf Z h0 b kb .byte m (fun i => .int (g i))) :
    MetW Z (⟨"java/lang/StringLatin1", "equals", "([B[B)Z"⟩ : MethodName) jdk_43_method_13_code 3 (some .boolean) [] ({ frames := 0, cells := 0, slots := 0, locals := 0 } : Room) #[(.ref a), (.ref b)] h0 n0 (fun v h => ∃ r : Int32, v = some (.int r) ∧ (r = 0 ∨ r = 1) ∧ (r = 1 ↔ n = m ∧ ∀ i, i < n → f i = g i) ∧ h = h0) := by
  refine k_body (f := (fun m => mkF m 0 #[.val (.ref a), .val (.ref b), .unset] [])) pn_13 (fun m => by first | (simp [entryFrame, mkF, argsToLocals, Value.category, maxLocals]; done) | rfl) ?_
  intro Γ T G X
  obtain ⟨zn, hn⟩ : ∃ z : Int32, z.toInt = n := ⟨n.toInt32, len_toInt A.size_lt⟩
  obtain ⟨zm, hm⟩ : ∃ z : Int32, z.toInt = m := ⟨m.toInt32, len_toInt B.size_lt⟩
  show Go Γ n0 _ T (mkF Γ.m 0 #[.val (.ref a), .val (.ref b), .unset] [])
  refine k_aloadN G X d13_0 (pc' := 1) rfl rfl rfl ?_
  refine k_alen G X (z := zn) A hn d13_1 (pc' := 2) rfl ?_
  refine k_aloadN G X d13_2 (pc' := 3) rfl rfl rfl ?_
  refine k_alen G X (z := zm) B hm d13_3 (pc' := 4) rfl ?_
  refine k_icmp_ne G X d13_4 (pc' := 34) rfl (by decide) (pc'' := 7) rfl (fun c4 => ?_) (fun c4 => ?_)
  · refine k_iconst G X d13_34 (pc' := 35) rfl (z := (0 : Int32)) (by decide) ?_
    refine k_retb G X d13_35 (t := .boolean) rfl (by simp) rfl ?_ (by decide) (by decide)
    exact ⟨_, rfl, Or.inl rfl, ⟨fun q => absurd q (by decide), fun q => absurd (of_toInt (by rw [hn, hm, q.1])) c4⟩, rfl⟩
  · have hnm : n = m := by have : zn.toInt = zm.toInt := congrArg _ c4; omega
    refine k_iconst G X d13_7 (pc' := 8) rfl (z := (0 : Int32)) (by decide) ?_
    refine k_istoreN G X d13_8 (pc' := 9) rfl (l' := #[.val (.ref a), .val (.ref b), .val (.int (0 : Int32))]) rfl ?_
    have LOOP : ∀ (k : Nat) (T : State) (i : Int32), (0 ≤ i.toInt) → (i.toInt ≤ n) → (∀ x, x < i.toInt.toNat → f x = g x) → n - i.toInt.toNat = k → W Γ n0 T h0 0 0 → Go Γ n0 (fun v h => ∃ r : Int32, v = some (.int r) ∧ (r = 0 ∨ r = 1) ∧ (r = 1 ↔ n = m ∧ ∀ i, i < n → f i = g i) ∧ h = h0) T (mkF Γ.m 9 #[.val (.ref a), .val (.ref b), .val (.int i)] []) := by
      intro k
      induction k using Nat.strongRecOn with
      | _ k ih =>
        intro T i hi0 hin hall hk X
        refine k_iloadN G X d13_9 (pc' := 10) rfl rfl ?_
        refine k_aloadN G X d13_10 (pc' := 11) rfl rfl rfl ?_
        refine k_alen G X (z := zn) A hn d13_11 (pc' := 12) rfl ?_
        refine k_icmp_ge G X d13_12 (pc' := 32) rfl (by decide) (pc'' := 15) rfl (fun c12 => ?_) (fun c12 => ?_)
        · refine k_iconst G X d13_32 (pc' := 33) rfl (z := (1 : Int32)) (by decide) ?_
          refine k_retb G X d13_33 (t := .boolean) rfl (by simp) rfl ?_ (by decide) (by decide)
          exact ⟨_, rfl, Or.inr rfl, ⟨fun _ => ⟨hnm, fun x hx => hall x (by omega)⟩, fun _ => rfl⟩, rfl⟩
        · have hlt : i.toInt < n := by omega
          have hi1 : (i + (1 : Int32)).toInt = i.toInt + 1 := iadd_toInt (by rw [show (1 : Int32).toInt = 1 from rfl]; omega) (by rw [show (1 : Int32).toInt = 1 from rfl]; have := A.size_lt; omega)
          refine k_aloadN G X d13_15 (pc' := 16) rfl rfl rfl ?_
          refine k_iloadN G X d13_16 (pc' := 17) rfl rfl ?_
          refine k_baload G X (i := i.toInt.toNat) (v := (.int (f i.toInt.toNat))) A (by omega) (by omega) rfl d13_17 (pc' := 18) rfl ?_
          refine k_aloadN G X d13_18 (pc' := 19) rfl rfl rfl ?_
          refine k_iloadN G X d13_19 (pc' := 20) rfl rfl ?_
          refine k_baload G X (i := i.toInt.toNat) (v := (.int (g i.toInt.toNat))) B (by omega) (by omega) rfl d13_20 (pc' := 21) rfl ?_
          refine k_icmp_eq G X d13_21 (pc' := 26) rfl (by decide) (pc'' := 24) rfl (fun c21 => ?_) (fun c21 => ?_)
          · refine k_iinc G X d13_26 (pc' := 29) rfl rfl (z := (i + (1 : Int32))) rfl (l' := #[.val (.ref a), .val (.ref b), .val (.int (i + (1 : Int32)))]) rfl ?_
            refine k_goto G X d13_29 (by decide) (pc' := 9) rfl ?_
            exact ih _ (by rw [hi1]; omega) T (i + (1 : Int32)) (by omega) (by omega) (fun x hx => by rcases Nat.lt_or_ge x i.toInt.toNat with q | q; exact hall x q; rw [show x = i.toInt.toNat by omega]; exact c21) rfl X
          · refine k_iconst G X d13_24 (pc' := 25) rfl (z := (0 : Int32)) (by decide) ?_
            refine k_retb G X d13_25 (t := .boolean) rfl (by simp) rfl ?_ (by decide) (by decide)
            exact ⟨_, rfl, Or.inl rfl, ⟨fun q => absurd q (by decide), fun q => absurd (q.2 i.toInt.toNat (by omega)) c21⟩, rfl⟩
    exact LOOP _ T (0 : Int32) (by decide) (by rw [z32]; omega) (fun x hx => absurd hx (by simp [z32])) rfl X
theorem pn_12 : plainFor (⟨"java/lang/String", "equals", "(Ljava/lang/Object;)Z"⟩ : MethodName) = true := plainFor_of_name (by first | (simp [plainName, overriddenIn]; done) | decide +kernel)
set_option maxRecDepth 65536 in
set_option maxHeartbeats 40000000 in
theorem str_eq {Z : State} {a0 : Array Value} (hw : HW a0 Z) (s t b b' : Addr) (k k' : ClassId) (n m : Nat) (cs : Int32) (f g : Nat → Int32) (h0 : Heap) (n0 : Nat) (SS : Str Z h0 s b k n f) (TT : Str Z h0 t b' k' m g) (ne_s_t : s ≠ t) (S_CS : Sta Z h0 "java/lang/String" "COMPACT_STRINGS" "Z" (.int cs)) (hcs : cs ≠ 0) :
    MetW Z (⟨"java/lang/String", "equals", "(Ljava/lang/Object;)Z"⟩ : MethodName) jdk_42_method_66_code 3 (some .boolean) [] ({ frames := 1, cells := 0, slots := 0, locals := 14 } : Room) #[(.ref s), (.ref t)] h0 n0 (fun v h => ∃ r : Int32, v = some (.int r) ∧ (r = 0 ∨ r = 1) ∧ (r = 1 ↔ n = m ∧ ∀ i, i < n → f i = g i) ∧ h = h0) := by
  refine k_body (f := (fun m => mkF m 0 #[.val (.ref s), .val (.ref t), .unset] [])) pn_12 (fun m => by first | (simp [entryFrame, mkF, argsToLocals, Value.category, maxLocals]; done) | rfl) ?_
  intro Γ T G X
  obtain ⟨SE, SC, SV, SA⟩ := id SS
  obtain ⟨TE, TC, TV, TA⟩ := id TT
  show Go Γ n0 _ T (mkF Γ.m 0 #[.val (.ref s), .val (.ref t), .unset] [])
  refine k_aloadN G X d12_0 (pc' := 1) rfl rfl rfl ?_
  refine k_aloadN G X d12_1 (pc' := 2) rfl rfl rfl ?_
  refine k_acmp_ne G X d12_2 (pc' := 7) rfl (by decide) (pc'' := 5) rfl rfl rfl (fun c2 => ?_) (fun c2 => (absurd c2 (by simpa using ne_s_t)))
  refine k_aloadN G X d12_7 (pc' := 8) rfl rfl rfl ?_
  refine k_instY G X (w71 hw) (Ins.self TE) d12_8 (pc' := 11) rfl (fun T X => ?_)
  refine k_if_eq G X d12_11 (pc' := 54) rfl (by decide) (pc'' := 14) rfl (fun c11 => (absurd c11 (by decide))) (fun c11 => ?_)
  refine k_aloadN G X d12_14 (pc' := 15) rfl rfl rfl ?_
  refine k_castY G X (w71 hw) (Ins.self TE) d12_15 (pc' := 18) rfl (fun T X => ?_)
  refine k_astoreN G X d12_18 (pc' := 19) rfl rfl (l' := #[.val (.ref s), .val (.ref t), .val (.ref t)]) rfl ?_
  refine k_getS G X (host := "") (Or.inl (w21 hw)) Via.refl S_CS d12_19 (pc' := 22) rfl (fun T X => ?_)
  refine k_if_eq G X d12_22 (pc' := 36) rfl (by decide) (pc'' := 25) rfl (fun c22 => (absurd c22 hcs)) (fun c22 => ?_)
  refine k_aloadN G X d12_25 (pc' := 26) rfl rfl rfl ?_
  refine k_getF G X (host := "") (Or.inl (w33 hw)) Via.refl SC d12_26 (pc' := 29) rfl (fun T X => ?_)
  refine k_aloadN G X d12_29 (pc' := 30) rfl rfl rfl ?_
  refine k_getF G X (host := "") (Or.inl (w33 hw)) Via.refl TC d12_30 (pc' := 33) rfl (fun T X => ?_)
  refine k_icmp_ne G X d12_33 (pc' := 54) rfl (by decide) (pc'' := 36) rfl (fun c33 => (absurd c33 (by decide))) (fun c33 => ?_)
  refine k_aloadN G X d12_36 (pc' := 37) rfl rfl rfl ?_
  refine k_getF G X (host := "") (Or.inl (w35 hw)) Via.refl SV d12_37 (pc' := 40) rfl (fun T X => ?_)
  refine k_aloadN G X d12_40 (pc' := 41) rfl rfl rfl ?_
  refine k_getF G X (host := "") (Or.inl (w35 hw)) Via.refl TV d12_41 (pc' := 44) rfl (fun T X => ?_)
  refine k_callS G X (argsL := [(.ref b), (.ref b')]) (rest := []) rfl (w72 hw) (w73 hw) (w74 hw) (w75 hw) (by decide) (str_leq hw b b' k k' n m f g h0 n0 SS.2.2.2 TT.2.2.2) d12_44 pd4 rfl (pc' := 47) rfl rfl (wd := 0) rfl (by decide) (by decide) (by decide) (by decide) (fun T h44 v X q => ?_)
  obtain ⟨r, rfl, hr, hiff, e44⟩ := q
  replace X := X.eq e44
  show Go Γ n0 _ T (mkF Γ.m 47 #[.val (.ref s), .val (.ref t), .val (.ref t)] [(.int r)])
  refine k_if_eq G X d12_47 (pc' := 54) rfl (by decide) (pc'' := 50) rfl (fun c47 => ?_) (fun c47 => ?_)
  · refine k_iconst G X d12_54 (pc' := 55) rfl (z := (0 : Int32)) (by decide) ?_
    refine k_retb G X d12_55 (t := .boolean) rfl (by simp) rfl ?_ (by decide) (by decide)
    exact ⟨_, rfl, Or.inl rfl, by rw [← hiff]; rcases hr with rfl | rfl <;> simp_all, rfl⟩
  · refine k_iconst G X d12_50 (pc' := 51) rfl (z := (1 : Int32)) (by decide) ?_
    refine k_goto G X d12_51 (by decide) (pc' := 55) rfl ?_
    refine k_retb G X d12_55 (t := .boolean) rfl (by simp) rfl ?_ (by decide) (by decide)
    exact ⟨_, rfl, Or.inr rfl, by rw [← hiff]; rcases hr with rfl | rfl <;> simp_all, rfl⟩
set_option maxRecDepth 65536 in
set_option maxHeartbeats 40000000 in
theorem str_eqs {Z : State} {a0 : Array Value} (hw : HW a0 Z) (s : Addr) (h0 : Heap) (n0 : Nat) :
    MetW Z (⟨"java/lang/String", "equals", "(Ljava/lang/Object;)Z"⟩ : MethodName) jdk_42_method_66_code 3 (some .boolean) [] ({ frames := 0, cells := 0, slots := 0, locals := 0 } : Room) #[(.ref s), (.ref s)] h0 n0 (fun v h => v = some (.int 1) ∧ h = h0) := by
  refine k_body (f := (fun m => mkF m 0 #[.val (.ref s), .val (.ref s), .unset] [])) pn_12 (fun m => by first | (simp [entryFrame, mkF, argsToLocals, Value.category, maxLocals]; done) | rfl) ?_
  intro Γ T G X
  show Go Γ n0 _ T (mkF Γ.m 0 #[.val (.ref s), .val (.ref s), .unset] [])
  refine k_aloadN G X d12_0 (pc' := 1) rfl rfl rfl ?_
  refine k_aloadN G X d12_1 (pc' := 2) rfl rfl rfl ?_
  refine k_acmp_ne G X d12_2 (pc' := 7) rfl (by decide) (pc'' := 5) rfl rfl rfl (fun c2 => (absurd c2 (by simp))) (fun c2 => ?_)
  refine k_iconst G X d12_5 (pc' := 6) rfl (z := (1 : Int32)) (by decide) ?_
  refine k_retb G X d12_6 (t := .boolean) rfl (by simp) rfl ?_ (by decide) (by decide)
  exact ⟨rfl, rfl⟩
theorem pn_9 : plainFor (⟨"java/lang/String", "isEmpty", "()Z"⟩ : MethodName) = true := plainFor_of_name (by first | (simp [plainName, overriddenIn]; done) | decide +kernel)
set_option maxRecDepth 65536 in
set_option maxHeartbeats 40000000 in
theorem str_emp {Z : State} {a0 : Array Value} (hw : HW a0 Z) (s b : Addr) (k : ClassId) (n : Nat) (f : Nat → Int32) (h0 : Heap) (n0 : Nat) (SS : Str Z h0 s b k n f) (hn1 : 1 ≤ n) :
    MetW Z (⟨"java/lang/String", "isEmpty", "()Z"⟩ : MethodName) jdk_42_method_55_code 1 (some .boolean) [] ({ frames := 0, cells := 0, slots := 0, locals := 0 } : Room) #[(.ref s)] h0 n0 (fun v h => v = some (.int 0) ∧ h = h0) := by
  refine k_body (f := (fun m => mkF m 0 #[.val (.ref s)] [])) pn_9 (fun m => by first | (simp [entryFrame, mkF, argsToLocals, Value.category, maxLocals]; done) | rfl) ?_
  intro Γ T G X
  obtain ⟨SE, SC, SV, SA⟩ := id SS
  obtain ⟨zn, hn⟩ : ∃ z : Int32, z.toInt = n := ⟨n.toInt32, len_toInt SA.size_lt⟩
  show Go Γ n0 _ T (mkF Γ.m 0 #[.val (.ref s)] [])
  refine k_aloadN G X d9_0 (pc' := 1) rfl rfl rfl ?_
  refine k_getF G X (host := "") (Or.inl (w35 hw)) Via.refl SV d9_1 (pc' := 4) rfl (fun T X => ?_)
  refine k_alen G X (z := zn) SA hn d9_4 (pc' := 5) rfl ?_
  refine k_if_ne G X d9_5 (pc' := 12) rfl (by decide) (pc'' := 8) rfl (fun c5 => ?_) (fun c5 => (absurd c5 (by intro q; rw [q, z32] at hn; omega)))
  refine k_iconst G X d9_12 (pc' := 13) rfl (z := (0 : Int32)) (by decide) ?_
  refine k_retb G X d9_13 (t := .boolean) rfl (by simp) rfl ?_ (by decide) (by decide)
  exact ⟨rfl, rfl⟩
theorem pn_1 : plainFor (⟨"com/example/tariffwright/tariffwright/core/AreaEqualsPinLaw", "mk", "(II)Ljava/lang/String;"⟩ : MethodName) = true := plainFor_of_name (by first | (simp [plainName, overriddenIn]; done) | decide +kernel)
set_option maxRecDepth 65536 in
set_option maxHeartbeats 40000000 in
theorem rm1 {Z : State} {a0 : Array Value} (hw : HW a0 Z) (n len cs : Int32) (h0 : Heap) (n0 : Nat) (hl1 : 1 ≤ len.toInt) (hl3 : len.toInt ≤ 3) (O : Old Z n0 h0) (S_CS : Sta Z h0 "java/lang/String" "COMPACT_STRINGS" "Z" (.int cs)) (hcs : cs ≠ 0) :
    MetW Z (⟨"com/example/tariffwright/tariffwright/core/AreaEqualsPinLaw", "mk", "(II)Ljava/lang/String;"⟩ : MethodName) method_2_code 5 (some (.object "java/lang/String")) [] ({ frames := 4, cells := 3, slots := 10, locals := 70 } : Room) #[(.int n), (.int len)] h0 n0 (fun v h => ∃ s b k, v = some (.ref s) ∧ h0.size ≤ s ∧ h0.size ≤ b ∧ Keep h0 h [] ∧ Str Z h s b k len.toInt.toNat (fun i => (own_ch n i).toInt8.toInt32)) := by
  refine k_body (f := (fun m => mkF m 0 #[.val (.int n), .val (.int len), .unset, .unset, .unset] [])) pn_1 (fun m => by first | (simp [entryFrame, mkF, argsToLocals, Value.category, maxLocals]; done) | rfl) ?_
  intro Γ T G X
  have KP := Keep.refl h0 []
  show Go Γ n0 _ T (mkF Γ.m 0 #[.val (.int n), .val (.int len), .unset, .unset, .unset] [])
  refine k_iloadN G X d1_0 (pc' := 1) rfl rfl ?_
  refine k_sipush G X d1_1 (pc' := 4) rfl (z := (255 : Int32)) (by decide) ?_
  refine k_iand G X d1_4 (pc' := 5) rfl rfl ?_
  refine k_i2c G X d1_5 (pc' := 6) rfl rfl ?_
  rw [i2c_mask]
  refine k_istoreN G X d1_6 (pc' := 7) rfl (l' := #[.val (.int n), .val (.int len), .val (.int (n &&& (255 : Int32))), .unset, .unset]) rfl ?_
  refine k_iloadN G X d1_7 (pc' := 8) rfl rfl ?_
  refine k_bipush G X d1_8 (pc' := 10) rfl (z := (8 : Int32)) (by decide) ?_
  refine k_iushr G X d1_10 (pc' := 11) rfl rfl ?_
  refine k_sipush G X d1_11 (pc' := 14) rfl (z := (255 : Int32)) (by decide) ?_
  refine k_iand G X d1_14 (pc' := 15) rfl rfl ?_
  refine k_i2c G X d1_15 (pc' := 16) rfl rfl ?_
  rw [i2c_mask]
  refine k_istoreN G X d1_16 (pc' := 17) rfl (l' := #[.val (.int n), .val (.int len), .val (.int (n &&& (255 : Int32))), .val (.int (((n.toUInt32 >>> ((8 : Int32) &&& 31).toUInt32).toInt32) &&& (255 : Int32))), .unset]) rfl ?_
  refine k_iloadN G X d1_17 (pc' := 18) rfl rfl ?_
  refine k_bipush G X d1_18 (pc' := 20) rfl (z := (16 : Int32)) (by decide) ?_
  refine k_iushr G X d1_20 (pc' := 21) rfl rfl ?_
  refine k_sipush G X d1_21 (pc' := 24) rfl (z := (255 : Int32)) (by decide) ?_
  refine k_iand G X d1_24 (pc' := 25) rfl rfl ?_
  refine k_i2c G X d1_25 (pc' := 26) rfl rfl ?_
  rw [i2c_mask]
  refine k_istore G X d1_26 (pc' := 28) rfl (l' := #[.val (.int n), .val (.int len), .val (.int (n &&& (255 : Int32))), .val (.int (((n.toUInt32 >>> ((8 : Int32) &&& 31).toUInt32).toInt32) &&& (255 : Int32))), .val (.int (((n.toUInt32 >>> ((16 : Int32) &&& 31).toUInt32).toInt32) &&& (255 : Int32)))]) rfl ?_
  refine k_iloadN G X d1_28 (pc' := 29) rfl rfl ?_
  refine k_iconst G X d1_29 (pc' := 30) rfl (z := (1 : Int32)) (by decide) ?_
  refine k_icmp_ne G X d1_30 (pc' := 48) rfl (by decide) (pc'' := 33) rfl (fun c30 => ?_) (fun c30 => ?_)
  · refine k_iloadN G X d1_48 (pc' := 49) rfl rfl ?_
    refine k_iconst G X d1_49 (pc' := 50) rfl (z := (2 : Int32)) (by decide) ?_
    refine k_icmp_ne G X d1_50 (pc' := 72) rfl (by decide) (pc'' := 53) rfl (fun c50 => ?_) (fun c50 => ?_)
    · refine k_new G X (w7 hw) (w8 hw) (w9 hw) d1_72 (pc' := 75) rfl (by decide) (by decide) (fun T h72 b72 s_b72 E72 X_b72 D72 X => ?_)
      have ge_b72 : n0 ≤ b72 := Nat.le_trans (Jvm.OwnK.Old_le O) (Nat.le_of_eq s_b72)
      have sz_b72 : h0.size ≤ b72 := Nat.le_trans KP.1 (Nat.le_of_eq s_b72)
      replace O := O.ext E72
      replace KP := KP.ext E72
      replace S_CS := S_CS.ext E72
      have F_b72_coder : Fld Z h72 b72 "java/lang/String" "coder" "B" (.int (0 : Int32)) := D72 (Or.inr (w34 hw)) (ty := .byte) (by decide)
      have F_b72_value : Fld Z h72 b72 "java/lang/String" "value" "[B" .null := D72 (Or.inr (w36 hw)) (ty := (.array .byte)) (by decide)
      refine k_dup G X d1_75 (pc' := 76) rfl rfl ?_
      refine k_iconst G X d1_76 (pc' := 77) rfl (z := (3 : Int32)) (by decide) ?_
      refine k_newP G X (aty := .char) (n := 3) (cap := 3) (w10 hw) d1_77 (pc' := 79) rfl rfl (by decide) (by decide) (by decide) (by decide) (fun T h77 b77 k77 s_b77 E77 A_b77 X => ?_)
      have ne_b72_b77 : b72 ≠ b77 := Nat.ne_of_lt (Nat.lt_of_lt_of_eq X_b72.lt s_b77)
      have ge_b77 : n0 ≤ b77 := Nat.le_trans (Jvm.OwnK.Old_le O) (Nat.le_of_eq s_b77)
      have sz_b77 : h0.size ≤ b77 := Nat.le_trans KP.1 (Nat.le_of_eq s_b77)
      replace O := O.ext E77
      replace KP := KP.ext E77
      replace S_CS := S_CS.ext E77
      replace X_b72 := X_b72.ext E77
      replace F_b72_coder := F_b72_coder.ext E77
      replace F_b72_value := F_b72_value.ext E77
      replace A_b77 : Arf Z h77 b77 k77 .char 3 (fun _ => (.int (0 : Int32))) := A_b77
      refine k_dup G X d1_79 (pc' := 80) rfl rfl ?_
      refine k_iconst G X d1_80 (pc' := 81) rfl (z := (0 : Int32)) (by decide) ?_
      refine k_iloadN G X d1_81 (pc' := 82) rfl rfl ?_
      refine k_castore G X (i := 0) (z := (n &&& (255 : Int32))) A_b77 rfl (by decide) (i2c_mask _) ge_b77 d1_82 (pc' := 83) rfl (fun T h82 W82 A_b77 X => ?_)
      replace O := O.wr W82 ge_b77
      replace KP := KP.wr W82 (Or.inr sz_b77)
      replace S_CS := S_CS.wr W82
      replace X_b72 := X_b72.wr W82
      replace F_b72_coder := F_b72_coder.other W82 (Or.inl ne_b72_b77)
      replace F_b72_value := F_b72_value.other W82 (Or.inl ne_b72_b77)
      refine k_dup G X d1_83 (pc' := 84) rfl rfl ?_
      refine k_iconst G X d1_84 (pc' := 85) rfl (z := (1 : Int32)) (by decide) ?_
      refine k_iloadN G X d1_85 (pc' := 86) rfl rfl ?_
      refine k_castore G X (i := 1) (z := (((n.toUInt32 >>> ((8 : Int32) &&& 31).toUInt32).toInt32) &&& (255 : Int32))) A_b77 rfl (by decide) (i2c_mask _) ge_b77 d1_86 (pc' := 87) rfl (fun T h86 W86 A_b77 X => ?_)
      replace O := O.wr W86 ge_b77
      replace KP := KP.wr W86 (Or.inr sz_b77)
      replace S_CS := S_CS.wr W86
      replace X_b72 := X_b72.wr W86
      replace F_b72_coder := F_b72_coder.other W86 (Or.inl ne_b72_b77)
      replace F_b72_value := F_b72_value.other W86 (Or.inl ne_b72_b77)
      refine k_dup G X d1_87 (pc' := 88) rfl rfl ?_
      refine k_iconst G X d1_88 (pc' := 89) rfl (z := (2 : Int32)) (by decide) ?_
      refine k_iload G X d1_89 (pc' := 91) rfl rfl ?_
      refine k_castore G X (i := 2) (z := (((n.toUInt32 >>> ((16 : Int32) &&& 31).toUInt32).toInt32) &&& (255 : Int32))) A_b77 rfl (by decide) (i2c_mask _) ge_b77 d1_91 (pc' := 92) rfl (fun T h91 W91 A_b77 X => ?_)
      replace O := O.wr W91 ge_b77
      replace KP := KP.wr W91 (Or.inr sz_b77)
      replace S_CS := S_CS.wr W91
      replace X_b72 := X_b72.wr W91
      replace F_b72_coder := F_b72_coder.other W91 (Or.inl ne_b72_b77)
      replace F_b72_value := F_b72_value.other W91 (Or.inl ne_b72_b77)
      have KP0 := KP.1
      refine k_callI G X (argsL := [(.ref b77)]) (rest := [(.ref b72)]) rfl rfl (w11 hw) (w12 hw) (w9 hw) (w13 hw) (by decide) (str_init hw b72 b77 k77 3 (3 : Int32) cs (own_ch n) h91 n0 rfl (by decide) (by decide) X_b72 F_b72_value F_b72_coder (A_b77.congr fun i hi => by rcases (by omega : i = 0 ∨ i = 1 ∨ i = 2) with rfl | rfl | rfl <;> rfl) ne_b72_b77 ge_b72 O S_CS hcs (fun i _ => own_ch_rng n i)) d1_92 pd5 rfl (pc' := 95) rfl rfl (wd := 1) rfl (by decide) (by decide) (by decide) (by decide) (fun T h92 v X q => ?_)
      obtain ⟨rfl, K92, bb, kb, sz_bb, SS⟩ := q
      replace S_CS := Sta_keepL S_CS K92 (allS (Pln_exa X_b72) (all0))
      replace O := O.keep K92 (allS ge_b72 (all0))
      replace KP := KP.trans K92 (allS (Or.inr sz_b72) (all0))
      replace X_b72 := X_b72.keep K92
      replace A_b77 := A_b77.keep K92 (by simp only [List.mem_cons, List.not_mem_nil, or_false, not_or]; exact (Ne.symm ne_b72_b77))
      show Go Γ n0 _ T (mkF Γ.m 95 #[.val (.int n), .val (.int len), .val (.int (n &&& (255 : Int32))), .val (.int (((n.toUInt32 >>> ((8 : Int32) &&& 31).toUInt32).toInt32) &&& (255 : Int32))), .val (.int (((n.toUInt32 >>> ((16 : Int32) &&& 31).toUInt32).toInt32) &&& (255 : Int32)))] [(.ref b72)])
      refine k_reta G X d1_95 (t := (.object "java/lang/String")) rfl rfl rfl ?_ (by decide) (by decide)
      have e : len.toInt.toNat = 3 := by have h1 : len.toInt ≠ 1 := fun h => c30 (of_toInt h); have h2 : len.toInt ≠ 2 := fun h => c50 (of_toInt h); omega
      have hb : h0.size ≤ bb := Nat.le_trans KP0 sz_bb
      refine ⟨b72, bb, kb, rfl, sz_b72, hb, KP, ?_⟩
      rw [e]; exact SS
    · refine k_new G X (w7 hw) (w8 hw) (w9 hw) d1_53 (pc' := 56) rfl (by decide) (by decide) (fun T h53 b53 s_b53 E53 X_b53 D53 X => ?_)
      have ge_b53 : n0 ≤ b53 := Nat.le_trans (Jvm.OwnK.Old_le O) (Nat.le_of_eq s_b53)
      have sz_b53 : h0.size ≤ b53 := Nat.le_trans KP.1 (Nat.le_of_eq s_b53)
      replace O := O.ext E53
      replace KP := KP.ext E53
      replace S_CS := S_CS.ext E53
      have F_b53_coder : Fld Z h53 b53 "java/lang/String" "coder" "B" (.int (0 : Int32)) := D53 (Or.inr (w34 hw)) (ty := .byte) (by decide)
      have F_b53_value : Fld Z h53 b53 "java/lang/String" "value" "[B" .null := D53 (Or.inr (w36 hw)) (ty := (.array .byte)) (by decide)
      refine k_dup G X d1_56 (pc' := 57) rfl rfl ?_
      refine k_iconst G X d1_57 (pc' := 58) rfl (z := (2 : Int32)) (by decide) ?_
      refine k_newP G X (aty := .char) (n := 2) (cap := 2) (w10 hw) d1_58 (pc' := 60) rfl rfl (by decide) (by decide) (by decide) (by decide) (fun T h58 b58 k58 s_b58 E58 A_b58 X => ?_)
      have ne_b53_b58 : b53 ≠ b58 := Nat.ne_of_lt (Nat.lt_of_lt_of_eq X_b53.lt s_b58)
      have ge_b58 : n0 ≤ b58 := Nat.le_trans (Jvm.OwnK.Old_le O) (Nat.le_of_eq s_b58)
      have sz_b58 : h0.size ≤ b58 := Nat.le_trans KP.1 (Nat.le_of_eq s_b58)
      replace O := O.ext E58
      replace KP := KP.ext E58
      replace S_CS := S_CS.ext E58
      replace X_b53 := X_b53.ext E58
      replace F_b53_coder := F_b53_coder.ext E58
      replace F_b53_value := F_b53_value.ext E58
      replace A_b58 : Arf Z h58 b58 k58 .char 2 (fun _ => (.int (0 : Int32))) := A_b58
      refine k_dup G X d1_60 (pc' := 61) rfl rfl ?_
      refine k_iconst G X d1_61 (pc' := 62) rfl (z := (0 : Int32)) (by decide) ?_
      refine k_iloadN G X d1_62 (pc' := 63) rfl rfl ?_
      refine k_castore G X (i := 0) (z := (n &&& (255 : Int32))) A_b58 rfl (by decide) (i2c_mask _) ge_b58 d1_63 (pc' := 64) rfl (fun T h63 W63 A_b58 X => ?_)
      replace O := O.wr W63 ge_b58
      replace KP := KP.wr W63 (Or.inr sz_b58)
      replace S_CS := S_CS.wr W63
      replace X_b53 := X_b53.wr W63
      replace F_b53_coder := F_b53_coder.other W63 (Or.inl ne_b53_b58)
      replace F_b53_value := F_b53_value.other W63 (Or.inl ne_b53_b58)
      refine k_dup G X d1_64 (pc' := 65) rfl rfl ?_
      refine k_iconst G X d1_65 (pc' := 66) rfl (z := (1 : Int32)) (by decide) ?_
      refine k_iloadN G X d1_66 (pc' := 67) rfl rfl ?_
      refine k_castore G X (i := 1) (z := (((n.toUInt32 >>> ((8 : Int32) &&& 31).toUInt32).toInt32) &&& (255 : Int32))) A_b58 rfl (by decide) (i2c_mask _) ge_b58 d1_67 (pc' := 68) rfl (fun T h67 W67 A_b58 X => ?_)
      replace O := O.wr W67 ge_b58
      replace KP := KP.wr W67 (Or.inr sz_b58)
      replace S_CS := S_CS.wr W67
      replace X_b53 := X_b53.wr W67
      replace F_b53_coder := F_b53_coder.other W67 (Or.inl ne_b53_b58)
      replace F_b53_value := F_b53_value.other W67 (Or.inl ne_b53_b58)
      have KP0 := KP.1
      refine k_callI G X (argsL := [(.ref b58)]) (rest := [(.ref b53)]) rfl rfl (w11 hw) (w12 hw) (w9 hw) (w13 hw) (by decide) (str_init hw b53 b58 k58 2 (2 : Int32) cs (own_ch n) h67 n0 rfl (by decide) (by decide) X_b53 F_b53_value F_b53_coder (A_b58.congr fun i hi => by rcases (by omega : i = 0 ∨ i = 1) with rfl | rfl <;> rfl) ne_b53_b58 ge_b53 O S_CS hcs (fun i _ => own_ch_rng n i)) d1_68 pd5 rfl (pc' := 71) rfl rfl (wd := 1) rfl (by decide) (by decide) (by decide) (by decide) (fun T h68 v X q => ?_)
      obtain ⟨rfl, K68, bb, kb, sz_bb, SS⟩ := q
      replace S_CS := Sta_keepL S_CS K68 (allS (Pln_exa X_b53) (all0))
      replace O := O.keep K68 (allS ge_b53 (all0))
      replace KP := KP.trans K68 (allS (Or.inr sz_b53) (all0))
      replace X_b53 := X_b53.keep K68
      replace A_b58 := A_b58.keep K68 (by simp only [List.mem_cons, List.not_mem_nil, or_false, not_or]; exact (Ne.symm ne_b53_b58))
      show Go Γ n0 _ T (mkF Γ.m 71 #[.val (.int n), .val (.int len), .val (.int (n &&& (255 : Int32))), .val (.int (((n.toUInt32 >>> ((8 : Int32) &&& 31).toUInt32).toInt32) &&& (255 : Int32))), .val (.int (((n.toUInt32 >>> ((16 : Int32) &&& 31).toUInt32).toInt32) &&& (255 : Int32)))] [(.ref b53)])
      refine k_reta G X d1_71 (t := (.object "java/lang/String")) rfl rfl rfl ?_ (by decide) (by decide)
      have e : len.toInt.toNat = 2 := by rw [c50]; rfl
      have hb : h0.size ≤ bb := Nat.le_trans KP0 sz_bb
      refine ⟨b53, bb, kb, rfl, sz_b53, hb, KP, ?_⟩
      rw [e]; exact SS
  · refine k_new G X (w7 hw) (w8 hw) (w9 hw) d1_33 (pc' := 36) rfl (by decide) (by decide) (fun T h33 b33 s_b33 E33 X_b33 D33 X => ?_)
    have ge_b33 : n0 ≤ b33 := Nat.le_trans (Jvm.OwnK.Old_le O) (Nat.le_of_eq s_b33)
    have sz_b33 : h0.size ≤ b33 := Nat.le_trans KP.1 (Nat.le_of_eq s_b33)
    replace O := O.ext E33
    replace KP := KP.ext E33
    replace S_CS := S_CS.ext E33
    have F_b33_coder : Fld Z h33 b33 "java/lang/String" "coder" "B" (.int (0 : Int32)) := D33 (Or.inr (w34 hw)) (ty := .byte) (by decide)
    have F_b33_value : Fld Z h33 b33 "java/lang/String" "value" "[B" .null := D33 (Or.inr (w36 hw)) (ty := (.array .byte)) (by decide)
    refine k_dup G X d1_36 (pc' := 37) rfl rfl ?_
    refine k_iconst G X d1_37 (pc' := 38) rfl (z := (1 : Int32)) (by decide) ?_
    refine k_newP G X (aty := .char) (n := 1) (cap := 1) (w10 hw) d1_38 (pc' := 40) rfl rfl (by decide) (by decide) (by decide) (by decide) (fun T h38 b38 k38 s_b38 E38 A_b38 X => ?_)
    have ne_b33_b38 : b33 ≠ b38 := Nat.ne_of_lt (Nat.lt_of_lt_of_eq X_b33.lt s_b38)
    have ge_b38 : n0 ≤ b38 := Nat.le_trans (Jvm.OwnK.Old_le O) (Nat.le_of_eq s_b38)
    have sz_b38 : h0.size ≤ b38 := Nat.le_trans KP.1 (Nat.le_of_eq s_b38)
    replace O := O.ext E38
    replace KP := KP.ext E38
    replace S_CS := S_CS.ext E38
    replace X_b33 := X_b33.ext E38
    replace F_b33_coder := F_b33_coder.ext E38
    replace F_b33_value := F_b33_value.ext E38
    replace A_b38 : Arf Z h38 b38 k38 .char 1 (fun _ => (.int (0 : Int32))) := A_b38
    refine k_dup G X d1_40 (pc' := 41) rfl rfl ?_
    refine k_iconst G X d1_41 (pc' := 42) rfl (z := (0 : Int32)) (by decide) ?_
    refine k_iloadN G X d1_42 (pc' := 43) rfl rfl ?_
    refine k_castore G X (i := 0) (z := (n &&& (255 : Int32))) A_b38 rfl (by decide) (i2c_mask _) ge_b38 d1_43 (pc' := 44) rfl (fun T h43 W43 A_b38 X => ?_)
    replace O := O.wr W43 ge_b38
    replace KP := KP.wr W43 (Or.inr sz_b38)
    replace S_CS := S_CS.wr W43
    replace X_b33 := X_b33.wr W43
    replace F_b33_coder := F_b33_coder.other W43 (Or.inl ne_b33_b38)
    replace F_b33_value := F_b33_value.other W43 (Or.inl ne_b33_b38)
    have KP0 := KP.1
    refine k_callI G X (argsL := [(.ref b38)]) (rest := [(.ref b33)]) rfl rfl (w11 hw) (w12 hw) (w9 hw) (w13 hw) (by decide) (str_init hw b33 b38 k38 1 (1 : Int32) cs (own_ch n) h43 n0 rfl (by decide) (by decide) X_b33 F_b33_value F_b33_coder (A_b38.congr fun i hi => by rw [show i = 0 by omega]; rfl) ne_b33_b38 ge_b33 O S_CS hcs (fun i _ => own_ch_rng n i)) d1_44 pd5 rfl (pc' := 47) rfl rfl (wd := 1) rfl (by decide) (by decide) (by decide) (by decide) (fun T h44 v X q => ?_)
    obtain ⟨rfl, K44, bb, kb, sz_bb, SS⟩ := q
    replace S_CS := Sta_keepL S_CS K44 (allS (Pln_exa X_b33) (all0))
    replace O := O.keep K44 (allS ge_b33 (all0))
    replace KP := KP.trans K44 (allS (Or.inr sz_b33) (all0))
    replace X_b33 := X_b33.keep K44
    replace A_b38 := A_b38.keep K44 (by simp only [List.mem_cons, List.not_mem_nil, or_false, not_or]; exact (Ne.symm ne_b33_b38))
    show Go Γ n0 _ T (mkF Γ.m 47 #[.val (.int n), .val (.int len), .val (.int (n &&& (255 : Int32))), .val (.int (((n.toUInt32 >>> ((8 : Int32) &&& 31).toUInt32).toInt32) &&& (255 : Int32))), .val (.int (((n.toUInt32 >>> ((16 : Int32) &&& 31).toUInt32).toInt32) &&& (255 : Int32)))] [(.ref b33)])
    refine k_reta G X d1_47 (t := (.object "java/lang/String")) rfl rfl rfl ?_ (by decide) (by decide)
    have e : len.toInt.toNat = 1 := by rw [c30]; rfl
    have hb : h0.size ≤ bb := Nat.le_trans KP0 sz_bb
    refine ⟨b33, bb, kb, rfl, sz_b33, hb, KP, ?_⟩
    rw [e]; exact SS
theorem pn_10 : plainFor (⟨"java/util/Objects", "requireNonNull", "(Ljava/lang/Object;)Ljava/lang/Object;"⟩ : MethodName) = true := plainFor_of_name (by first | (simp [plainName, overriddenIn]; done) | decide +kernel)
set_option maxRecDepth 65536 in
set_option maxHeartbeats 40000000 in
theorem rm10 {Z : State} {a0 : Array Value} (hw : HW a0 Z) (a : Addr) (h0 : Heap) (n0 : Nat) :
    MetW Z (⟨"java/util/Objects", "requireNonNull", "(Ljava/lang/Object;)Ljava/lang/Object;"⟩ : MethodName) jdk_31_method_10_code 1 (some (.object "java/lang/Object")) [] ({ frames := 0, cells := 0, slots := 0, locals := 0 } : Room) #[(.ref a)] h0 n0 (fun v h => v = some (.ref a) ∧ h = h0) := by
  refine k_body (f := (fun m => mkF m 0 #[.val (.ref a)] [])) pn_10 (fun m => by first | (simp [entryFrame, mkF, argsToLocals, Value.category, maxLocals]; done) | rfl) ?_
  intro Γ T G X
  show Go Γ n0 _ T (mkF Γ.m 0 #[.val (.ref a)] [])
  refine k_aloadN G X d10_0 (pc' := 1) rfl rfl rfl ?_
  refine k_ifnonnull G X d10_1 (pc' := 12) rfl (by decide) (pc'' := 4) rfl rfl (fun _ c1 => ?_) (fun c1 => (absurd c1 (by simp)))
  refine k_aloadN G X d10_12 (pc' := 13) rfl rfl rfl ?_
  refine k_reta G X d10_13 (t := (.object "java/lang/Object")) rfl rfl rfl ?_ (by decide) (by decide)
  exact ⟨rfl, rfl⟩
theorem pn_8 : plainFor (⟨"com/example/tariffwright/tariffwright/core/Area", "<init>", "(Lcom/example/tariffwright/tariffwright/core/AreaKind;Ljava/lang/String;)V"⟩ : MethodName) = true := plainFor_of_name (by first | (simp [plainName, overriddenIn]; done) | decide +kernel)
set_option maxRecDepth 65536 in
set_option maxHeartbeats 40000000 in
theorem rm8 {Z : State} {a0 : Array Value} (hw : HW a0 Z) (ob kd s b : Addr) (k : ClassId) (n : Nat) (f : Nat → Int32) (h0 : Heap) (n0 : Nat) (ge_ob : n0 ≤ ob) (E : Exa Z h0 ob "com/example/tariffwright/tariffwright/core/Area") (FK : Fld Z h0 ob "com/example/tariffwright/tariffwright/core/Area" "kind" "Lcom/example/tariffwright/tariffwright/core/AreaKind;" .null) (FN : Fld Z h0 ob "com/example/tariffwright/tariffwright/core/Area" "name" "Ljava/lang/String;" .null) (EK : Exa Z h0 kd "com/example/tariffwright/tariffwright/core/AreaKind") (SS : Str Z h0 s b k n f) (hn1 : 1 ≤ n) :
    MetW Z (⟨"com/example/tariffwright/tariffwright/core/Area", "<init>", "(Lcom/example/tariffwright/tariffwright/core/AreaKind;Ljava/lang/String;)V"⟩ : MethodName) prog_31_method_1_code 3 none [] ({ frames := 1, cells := 0, slots := 0, locals := 14 } : Room) #[(.ref ob), (.ref kd), (.ref s)] h0 n0 (fun v h => v = none ∧ Keep h0 h [ob] ∧ Exa Z h ob "com/example/tariffwright/tariffwright/core/Area" ∧ Fld Z h ob "com/example/tariffwright/tariffwright/core/Area" "kind" "Lcom/example/tariffwright/tariffwright/core/AreaKind;" (.ref kd) ∧ Fld Z h ob "com/example/tariffwright/tariffwright/core/Area" "name" "Ljava/lang/String;" (.ref s)) := by
  refine k_body (f := (fun m => mkF m 0 #[.val (.ref ob), .val (.ref kd), .val (.ref s)] [])) pn_8 (fun m => by first | (simp [entryFrame, mkF, argsToLocals, Value.category, maxLocals]; done) | rfl) ?_
  intro Γ T G X
  have KP := Keep.refl h0 [ob]
  have SE := SS.1
  show Go Γ n0 _ T (mkF Γ.m 0 #[.val (.ref ob), .val (.ref kd), .val (.ref s)] [])
  refine k_aloadN G X d8_0 (pc' := 1) rfl rfl rfl ?_
  refine k_initO G X (w43 hw) (w19 hw) (w20 hw) d8_1 (pc' := 4) rfl rfl (by decide) (wd := 0) rfl (by decide) (fun T X => ?_)
  refine k_aloadN G X d8_4 (pc' := 5) rfl rfl rfl ?_
  refine k_callV G X (argsL := []) (rest := []) rfl SE (w44 hw) (w45 hw) (nf_sel (w47 hw)) (w47 hw) (w46 hw) (w9 hw) (w48 hw) (by decide) (str_emp hw s b k n f h0 n0 SS hn1) d8_5 pd6 rfl (pc' := 8) rfl rfl (wd := 0) rfl (by decide) (by decide) (by decide) (by decide) (fun T h5 v X q => ?_)
  obtain ⟨rfl, e5⟩ := q
  replace X := X.eq e5
  show Go Γ n0 _ T (mkF Γ.m 8 #[.val (.ref ob), .val (.ref kd), .val (.ref s)] [(.int (0 : Int32))])
  refine k_if_eq G X d8_8 (pc' := 28) rfl (by decide) (pc'' := 11) rfl (fun c8 => ?_) (fun c8 => (absurd c8 (by decide)))
  refine k_aloadN G X d8_28 (pc' := 29) rfl rfl rfl ?_
  refine k_aloadN G X d8_29 (pc' := 30) rfl rfl rfl ?_
  refine k_callS G X (argsL := [(.ref kd)]) (rest := [(.ref ob)]) rfl (w49 hw) (w50 hw) (w51 hw) (w52 hw) (by decide) (rm10 hw kd h0 n0) d8_30 pd7 rfl (pc' := 33) rfl rfl (wd := 1) rfl (by decide) (by decide) (by decide) (by decide) (fun T h30 v X q => ?_)
  obtain ⟨rfl, e30⟩ := q
  replace X := X.eq e30
  show Go Γ n0 _ T (mkF Γ.m 33 #[.val (.ref ob), .val (.ref kd), .val (.ref s)] [(.ref kd), (.ref ob)])
  refine k_castY G X (w53 hw) (Ins.self EK) d8_33 (pc' := 36) rfl (fun T X => ?_)
  refine k_putF G X (host := "") (Or.inl (w55 hw)) Via.refl FK E (Or.inr ⟨(w56 hw), rfl, rfl⟩) (w38 hw) (ty := (.object "com/example/tariffwright/tariffwright/core/AreaKind")) (by decide) rfl rfl ge_ob d8_36 (pc' := 39) rfl (fun T h36 W36 X => ?_)
  replace E := E.wr W36
  replace FK := FK.same W36
  replace FN := FN.other W36 (Or.inr (slot_ne (Or.inr (w58 hw)) (Or.inr (w56 hw)) (by decide) (t := (.object "java/lang/String")) (t' := (.object "com/example/tariffwright/tariffwright/core/AreaKind")) (by decide) (by decide)))
  replace EK := EK.wr W36
  replace SE := SE.wr W36
  replace KP := KP.wr W36 (Or.inl (List.mem_of_getElem? (i := 0) rfl))
  refine k_aloadN G X d8_39 (pc' := 40) rfl rfl rfl ?_
  refine k_aloadN G X d8_40 (pc' := 41) rfl rfl rfl ?_
  refine k_putF G X (host := "") (Or.inl (w57 hw)) Via.refl FN E (Or.inr ⟨(w58 hw), rfl, rfl⟩) (w38 hw) (ty := (.object "java/lang/String")) (by decide) rfl rfl ge_ob d8_41 (pc' := 44) rfl (fun T h41 W41 X => ?_)
  replace E := E.wr W41
  replace FK := FK.other W41 (Or.inr (slot_ne (Or.inr (w56 hw)) (Or.inr (w58 hw)) (by decide) (t := (.object "com/example/tariffwright/tariffwright/core/AreaKind")) (t' := (.object "java/lang/String")) (by decide) (by decide)))
  replace FN := FN.same W41
  replace EK := EK.wr W41
  replace SE := SE.wr W41
  replace KP := KP.wr W41 (Or.inl (List.mem_of_getElem? (i := 0) rfl))
  refine k_retv G X d8_44 rfl ?_ (by decide) (by decide)
  exact ⟨rfl, KP, E, FK, FN⟩
theorem pn_11 : plainFor (⟨"com/example/tariffwright/tariffwright/core/Area", "equals", "(Ljava/lang/Object;)Z"⟩ : MethodName) = true := plainFor_of_name (by first | (simp [plainName, overriddenIn]; done) | decide +kernel)
set_option maxRecDepth 65536 in
set_option maxHeartbeats 40000000 in
theorem rm11 {Z : State} {a0 : Array Value} (hw : HW a0 Z) (a b ka kb s t bs bt : Addr) (ks kt : ClassId) (n m : Nat) (cs : Int32) (f g : Nat → Int32) (h0 : Heap) (n0 : Nat) (EA : Exa Z h0 a "com/example/tariffwright/tariffwright/core/Area") (EB : Exa Z h0 b "com/example/tariffwright/tariffwright/core/Area") (KA : Fld Z h0 a "com/example/tariffwright/tariffwright/core/Area" "kind" "Lcom/example/tariffwright/tariffwright/core/AreaKind;" (.ref ka)) (KB : Fld Z h0 b "com/example/tariffwright/tariffwright/core/Area" "kind" "Lcom/example/tariffwright/tariffwright/core/AreaKind;" (.ref kb)) (NA : Fld Z h0 a "com/example/tariffwright/tariffwright/core/Area" "name" "Ljava/lang/String;" (.ref s)) (NB : Fld Z h0 b "com/example/tariffwright/tariffwright/core/Area" "name" "Ljava/lang/String;" (.ref t)) (SS : Str Z h0 s bs ks n f) (TT : Str Z h0 t bt kt m g) (ne_s_t : s ≠ t) (S_CS : Sta Z h0 "java/lang/String" "COMPACT_STRINGS" "Z" (.int cs)) (hcs : cs ≠ 0) :
    MetW Z (⟨"com/example/tariffwright/tariffwright/core/Area", "equals", "(Ljava/lang/Object;)Z"⟩ : MethodName) prog_31_method_4_code 3 (some .boolean) [] ({ frames := 2, cells := 0, slots := 0, locals := 29 } : Room) #[(.ref a), (.ref b)] h0 n0 (fun v h => ∃ r : Int32, v = some (.int r) ∧ (r = 0 ∨ r = 1) ∧ (r = 1 ↔ ka = kb ∧ n = m ∧ ∀ i, i < n → f i = g i) ∧ h = h0) := by
  refine k_body (f := (fun m => mkF m 0 #[.val (.ref a), .val (.ref b), .unset] [])) pn_11 (fun m => by first | (simp [entryFrame, mkF, argsToLocals, Value.category, maxLocals]; done) | rfl) ?_
  intro Γ T G X
  have SE := SS.1
  show Go Γ n0 _ T (mkF Γ.m 0 #[.val (.ref a), .val (.ref b), .unset] [])
  refine k_aloadN G X d11_0 (pc' := 1) rfl rfl rfl ?_
  refine k_instY G X (w64 hw) (Ins.self EB) d11_1 (pc' := 4) rfl (fun T X => ?_)
  refine k_if_eq G X d11_4 (pc' := 41) rfl (by decide) (pc'' := 7) rfl (fun c4 => (absurd c4 (by decide))) (fun c4 => ?_)
  refine k_aloadN G X d11_7 (pc' := 8) rfl rfl rfl ?_
  refine k_castY G X (w64 hw) (Ins.self EB) d11_8 (pc' := 11) rfl (fun T X => ?_)
  refine k_astoreN G X d11_11 (pc' := 12) rfl rfl (l' := #[.val (.ref a), .val (.ref b), .val (.ref b)]) rfl ?_
  refine k_aloadN G X d11_12 (pc' := 13) rfl rfl rfl ?_
  refine k_getF G X (host := "") (Or.inl (w55 hw)) Via.refl KA d11_13 (pc' := 16) rfl (fun T X => ?_)
  refine k_aloadN G X d11_16 (pc' := 17) rfl rfl rfl ?_
  refine k_getF G X (host := "") (Or.inl (w55 hw)) Via.refl KB d11_17 (pc' := 20) rfl (fun T X => ?_)
  refine k_acmp_ne G X d11_20 (pc' := 41) rfl (by decide) (pc'' := 23) rfl rfl rfl (fun c20 => ?_) (fun c20 => ?_)
  · refine k_iconst G X d11_41 (pc' := 42) rfl (z := (0 : Int32)) (by decide) ?_
    refine k_retb G X d11_42 (t := .boolean) rfl (by simp) rfl ?_ (by decide) (by decide)
    first | exact ⟨_, rfl, Or.inl rfl, ⟨fun q => absurd q (by decide), fun q => absurd (hiff.mpr q.2) (by rw [c34]; decide)⟩, rfl⟩ | exact ⟨_, rfl, Or.inl rfl, ⟨fun q => absurd q (by decide), fun q => absurd (congrArg Value.ref q.1) c20⟩, rfl⟩
  · refine k_aloadN G X d11_23 (pc' := 24) rfl rfl rfl ?_
    refine k_getF G X (host := "") (Or.inl (w57 hw)) Via.refl NA d11_24 (pc' := 27) rfl (fun T X => ?_)
    refine k_aloadN G X d11_27 (pc' := 28) rfl rfl rfl ?_
    refine k_getF G X (host := "") (Or.inl (w57 hw)) Via.refl NB d11_28 (pc' := 31) rfl (fun T X => ?_)
    refine k_callV G X (argsL := [(.ref t)]) (rest := []) rfl SE (w66 hw) (w67 hw) (nf_sel (w69 hw)) (w69 hw) (w68 hw) (w9 hw) (w70 hw) (by decide) (str_eq hw s t bs bt ks kt n m cs f g h0 n0 SS TT ne_s_t S_CS hcs) d11_31 pd8 rfl (pc' := 34) rfl rfl (wd := 0) rfl (by decide) (by decide) (by decide) (by decide) (fun T h31 v X q => ?_)
    obtain ⟨r, rfl, hr, hiff, e31⟩ := q
    replace X := X.eq e31
    show Go Γ n0 _ T (mkF Γ.m 34 #[.val (.ref a), .val (.ref b), .val (.ref b)] [(.int r)])
    refine k_if_eq G X d11_34 (pc' := 41) rfl (by decide) (pc'' := 37) rfl (fun c34 => ?_) (fun c34 => ?_)
    · refine k_iconst G X d11_41 (pc' := 42) rfl (z := (0 : Int32)) (by decide) ?_
      refine k_retb G X d11_42 (t := .boolean) rfl (by simp) rfl ?_ (by decide) (by decide)
      first | exact ⟨_, rfl, Or.inl rfl, ⟨fun q => absurd q (by decide), fun q => absurd (hiff.mpr q.2) (by rw [c34]; decide)⟩, rfl⟩ | exact ⟨_, rfl, Or.inl rfl, ⟨fun q => absurd q (by decide), fun q => absurd (congrArg Value.ref q.1) c20⟩, rfl⟩
    · refine k_iconst G X d11_37 (pc' := 38) rfl (z := (1 : Int32)) (by decide) ?_
      refine k_goto G X d11_38 (by decide) (pc' := 42) rfl ?_
      refine k_retb G X d11_42 (t := .boolean) rfl (by simp) rfl ?_ (by decide) (by decide)
      exact ⟨_, rfl, Or.inr rfl, ⟨fun _ => ⟨by simpa using c20, hiff.mp (by rcases hr with h | h; exact absurd h c34; exact h)⟩, fun _ => rfl⟩, rfl⟩
set_option maxRecDepth 65536 in
set_option maxHeartbeats 40000000 in
theorem rm11s {Z : State} {a0 : Array Value} (hw : HW a0 Z) (a ka s : Addr) (h0 : Heap) (n0 : Nat) (EA : Exa Z h0 a "com/example/tariffwright/tariffwright/core/Area") (KA : Fld Z h0 a "com/example/tariffwright/tariffwright/core/Area" "kind" "Lcom/example/tariffwright/tariffwright/core/AreaKind;" (.ref ka)) (NA : Fld Z h0 a "com/example/tariffwright/tariffwright/core/Area" "name" "Ljava/lang/String;" (.ref s)) (SE : Exa Z h0 s "java/lang/String") :
    MetW Z (⟨"com/example/tariffwright/tariffwright/core/Area", "equals", "(Ljava/lang/Object;)Z"⟩ : MethodName) prog_31_method_4_code 3 (some .boolean) [] ({ frames := 1, cells := 0, slots := 0, locals := 14 } : Room) #[(.ref a), (.ref a)] h0 n0 (fun v h => v = some (.int 1) ∧ h = h0) := by
  refine k_body (f := (fun m => mkF m 0 #[.val (.ref a), .val (.ref a), .unset] [])) pn_11 (fun m => by first | (simp [entryFrame, mkF, argsToLocals, Value.category, maxLocals]; done) | rfl) ?_
  intro Γ T G X
  show Go Γ n0 _ T (mkF Γ.m 0 #[.val (.ref a), .val (.ref a), .unset] [])
  refine k_aloadN G X d11_0 (pc' := 1) rfl rfl rfl ?_
  refine k_instY G X (w64 hw) (Ins.self EA) d11_1 (pc' := 4) rfl (fun T X => ?_)
  refine k_if_eq G X d11_4 (pc' := 41) rfl (by decide) (pc'' := 7) rfl (fun c4 => (absurd c4 (by decide))) (fun c4 => ?_)
  refine k_aloadN G X d11_7 (pc' := 8) rfl rfl rfl ?_
  refine k_castY G X (w64 hw) (Ins.self EA) d11_8 (pc' := 11) rfl (fun T X => ?_)
  refine k_astoreN G X d11_11 (pc' := 12) rfl rfl (l' := #[.val (.ref a), .val (.ref a), .val (.ref a)]) rfl ?_
  refine k_aloadN G X d11_12 (pc' := 13) rfl rfl rfl ?_
  refine k_getF G X (host := "") (Or.inl (w55 hw)) Via.refl KA d11_13 (pc' := 16) rfl (fun T X => ?_)
  refine k_aloadN G X d11_16 (pc' := 17) rfl rfl rfl ?_
  refine k_getF G X (host := "") (Or.inl (w55 hw)) Via.refl KA d11_17 (pc' := 20) rfl (fun T X => ?_)
  refine k_acmp_ne G X d11_20 (pc' := 41) rfl (by decide) (pc'' := 23) rfl rfl rfl (fun c20 => (absurd c20 (by simp))) (fun c20 => ?_)
  refine k_aloadN G X d11_23 (pc' := 24) rfl rfl rfl ?_
  refine k_getF G X (host := "") (Or.inl (w57 hw)) Via.refl NA d11_24 (pc' := 27) rfl (fun T X => ?_)
  refine k_aloadN G X d11_27 (pc' := 28) rfl rfl rfl ?_
  refine k_getF G X (host := "") (Or.inl (w57 hw)) Via.refl NA d11_28 (pc' := 31) rfl (fun T X => ?_)
  refine k_callV G X (argsL := [(.ref s)]) (rest := []) rfl SE (w66 hw) (w67 hw) (nf_sel (w69 hw)) (w69 hw) (w68 hw) (w9 hw) (w70 hw) (by decide) (str_eqs hw s h0 n0) d11_31 pd8 rfl (pc' := 34) rfl rfl (wd := 0) rfl (by decide) (by decide) (by decide) (by decide) (fun T h31 v X q => ?_)
  obtain ⟨rfl, e31⟩ := q
  replace X := X.eq e31
  show Go Γ n0 _ T (mkF Γ.m 34 #[.val (.ref a), .val (.ref a), .val (.ref a)] [(.int (1 : Int32))])
  refine k_if_eq G X d11_34 (pc' := 41) rfl (by decide) (pc'' := 37) rfl (fun c34 => (absurd c34 (by decide))) (fun c34 => ?_)
  refine k_iconst G X d11_37 (pc' := 38) rfl (z := (1 : Int32)) (by decide) ?_
  refine k_goto G X d11_38 (by decide) (pc' := 42) rfl ?_
  refine k_retb G X d11_42 (t := .boolean) rfl (by simp) rfl ?_ (by decide) (by decide)
  exact ⟨rfl, rfl⟩
set_option maxRecDepth 65536 in
set_option maxHeartbeats 40000000 in
theorem rm11n {Z : State} {a0 : Array Value} (hw : HW a0 Z) (a : Addr) (h0 : Heap) (n0 : Nat) :
    MetW Z (⟨"com/example/tariffwright/tariffwright/core/Area", "equals", "(Ljava/lang/Object;)Z"⟩ : MethodName) prog_31_method_4_code 3 (some .boolean) [] ({ frames := 0, cells := 0, slots := 0, locals := 0 } : Room) #[(.ref a), .null] h0 n0 (fun v h => v = some (.int 0) ∧ h = h0) := by
  refine k_body (f := (fun m => mkF m 0 #[.val (.ref a), .val .null, .unset] [])) pn_11 (fun m => by first | (simp [entryFrame, mkF, argsToLocals, Value.category, maxLocals]; done) | rfl) ?_
  intro Γ T G X
  show Go Γ n0 _ T (mkF Γ.m 0 #[.val (.ref a), .val .null, .unset] [])
  refine k_aloadN G X d11_0 (pc' := 1) rfl rfl rfl ?_
  refine k_instNull G X d11_1 (pc' := 4) rfl ?_
  refine k_if_eq G X d11_4 (pc' := 41) rfl (by decide) (pc'' := 7) rfl (fun c4 => ?_) (fun c4 => (absurd c4 (by decide)))
  refine k_iconst G X d11_41 (pc' := 42) rfl (z := (0 : Int32)) (by decide) ?_
  refine k_retb G X d11_42 (t := .boolean) rfl (by simp) rfl ?_ (by decide) (by decide)
  exact ⟨rfl, rfl⟩
set_option maxRecDepth 65536 in
set_option maxHeartbeats 40000000 in
theorem rm11t {Z : State} {a0 : Array Value} (hw : HW a0 Z) (a s : Addr) (h0 : Heap) (n0 : Nat) (SE : Exa Z h0 s "java/lang/String") :
    MetW Z (⟨"com/example/tariffwright/tariffwright/core/Area", "equals", "(Ljava/lang/Object;)Z"⟩ : MethodName) prog_31_method_4_code 3 (some .boolean) [] ({ frames := 0, cells := 0, slots := 0, locals := 0 } : Room) #[(.ref a), (.ref s)] h0 n0 (fun v h => v = some (.int 0) ∧ h = h0) := by
  refine k_body (f := (fun m => mkF m 0 #[.val (.ref a), .val (.ref s), .unset] [])) pn_11 (fun m => by first | (simp [entryFrame, mkF, argsToLocals, Value.category, maxLocals]; done) | rfl) ?_
  intro Γ T G X
  show Go Γ n0 _ T (mkF Γ.m 0 #[.val (.ref a), .val (.ref s), .unset] [])
  refine k_aloadN G X d11_0 (pc' := 1) rfl rfl rfl ?_
  refine k_instNo G X (w64 hw) SE (noInst (w76 hw) (w77 hw) (w38 hw) (by decide) (by decide)) d11_1 (pc' := 4) rfl (fun T X => ?_)
  refine k_if_eq G X d11_4 (pc' := 41) rfl (by decide) (pc'' := 7) rfl (fun c4 => ?_) (fun c4 => (absurd c4 (by decide)))
  refine k_iconst G X d11_41 (pc' := 42) rfl (z := (0 : Int32)) (by decide) ?_
  refine k_retb G X d11_42 (t := .boolean) rfl (by simp) rfl ?_ (by decide) (by decide)
  exact ⟨rfl, rfl⟩
theorem own_len (x : Int32) : 1 ≤ ((1 : Int32) + (x &&& (3 : Int32)) % (3 : Int32)).toInt ∧ ((1 : Int32) + (x &&& (3 : Int32)) % (3 : Int32)).toInt ≤ 3 := by
  have h1 := and_rng x (m := 3) 3 rfl (by decide)
  have h2 := rem_rng (x &&& (3 : Int32)) (y := 3) 3 rfl (by decide) h1.1
  have h3 : (1 : Int32).toInt = 1 := rfl
  rw [iadd_toInt (by omega) (by omega)]; omega
theorem own_eq {x1 x2 : Addr} {n m : Nat} {p q r e z : Int32} (hz : z = 0 ∨ z = 1) (he0 : e = 0 ∨ e = 1) (hi : z = 1 ↔ x1 = x2 ∧ n = m ∧ ∀ i, i < n → (own_ch p i).toInt8.toInt32 = (own_ch q i).toInt8.toInt32) (hs : r = 1 ↔ n = m ∧ ∀ i, i < n → own_ch p i = own_ch q i) (he : e = 1 ↔ x1 = x2 ∧ r = 1) : z = e := by
  have key : z = 1 ↔ e = 1 := by
    rw [hi, he, hs]
    refine ⟨fun ⟨a, b, c⟩ => ⟨a, b, fun i h => ?_⟩, fun ⟨a, b, c⟩ => ⟨a, b, fun i h => by rw [c i h]⟩⟩
    exact byte_inj (own_ch_rng p i).1 (own_ch_rng p i).2 (own_ch_rng q i).1 (own_ch_rng q i).2 (c i h)
  rcases hz with rfl | rfl
  · rcases he0 with h | h
    · exact h.symm
    · exact absurd (key.mpr h) (by decide)
  · exact (key.mp rfl).symm
theorem own_eq' {x1 x2 : Addr} {n m : Nat} {p q r e z : Int32} (hz : z = 0 ∨ z = 1) (he0 : e = 0 ∨ e = 1) (hi : z = 1 ↔ x2 = x1 ∧ m = n ∧ ∀ i, i < m → (own_ch q i).toInt8.toInt32 = (own_ch p i).toInt8.toInt32) (hs : r = 1 ↔ n = m ∧ ∀ i, i < n → own_ch p i = own_ch q i) (he : e = 1 ↔ x1 = x2 ∧ r = 1) : z = e :=
  own_eq hz he0 (hi.trans ⟨fun ⟨a, b, c⟩ => ⟨a.symm, b.symm, fun i h => (c i (b ▸ h)).symm⟩, fun ⟨a, b, c⟩ => ⟨a.symm, b.symm, fun i h => (c i (b ▸ h)).symm⟩⟩) hs he
theorem pn_0 : plainFor (⟨"com/example/tariffwright/tariffwright/core/AreaEqualsPinLaw", "law", "(IIII)Z"⟩ : MethodName) = true := plainFor_of_name (by first | (simp [plainName, overriddenIn]; done) | decide +kernel)
set_option maxRecDepth 65536 in
set_option maxHeartbeats 40000000 in
theorem rm0 {Z : State} {a0 : Array Value} (hw : HW a0 Z) (p0 p1 p2 p3 cs : Int32) (aT aS : Addr) (h0 : Heap) (n0 : Nat) (S_T : Sta Z h0 "com/example/tariffwright/tariffwright/core/AreaKind" "TRANSMISSION_DISTRICT" "Lcom/example/tariffwright/tariffwright/core/AreaKind;" (.ref aT)) (S_S : Sta Z h0 "com/example/tariffwright/tariffwright/core/AreaKind" "SUBZONE" "Lcom/example/tariffwright/tariffwright/core/AreaKind;" (.ref aS)) (ET : Exa Z h0 aT "com/example/tariffwright/tariffwright/core/AreaKind") (ES : Exa Z h0 aS "com/example/tariffwright/tariffwright/core/AreaKind") (O : Old Z n0 h0) (S_CS : Sta Z h0 "java/lang/String" "COMPACT_STRINGS" "Z" (.int cs)) (hcs : cs ≠ 0) :
    MetW Z x code maxLocals ret tables_1 room_1 #[(.int p0), (.int p1), (.int p2), (.int p3)] h0 n0 (fun v h => v = some (.int 1)) := by
  refine k_body (f := (fun m => mkF m 0 #[.val (.int p0), .val (.int p1), .val (.int p2), .val (.int p3), .unset, .unset, .unset, .unset, .unset, .unset, .unset, .unset, .unset, .unset, .unset, .unset] [])) pn_0 (fun m => by first | (simp [entryFrame, mkF, argsToLocals, Value.category, maxLocals]; done) | rfl) ?_
  intro Γ T G X
  show Go Γ n0 _ T (mkF Γ.m 0 #[.val (.int p0), .val (.int p1), .val (.int p2), .val (.int p3), .unset, .unset, .unset, .unset, .unset, .unset, .unset, .unset, .unset, .unset, .unset, .unset] [])
  have J15 : ∀ (T : State) (x1 : Addr), (Exa Z h0 x1 "com/example/tariffwright/tariffwright/core/AreaKind") → W Γ n0 T h0 0 0 → Go Γ n0 (fun v h => v = some (.int 1)) T (mkF Γ.m 15 #[.val (.int p0), .val (.int p1), .val (.int p2), .val (.int p3), .unset, .unset, .unset, .unset, .unset, .unset, .unset, .unset, .unset, .unset, .unset, .unset] [(.ref x1)]) := by
    intro T x1 EK1 X
    refine k_astore G X at_15 (pc' := 17) rfl rfl (l' := #[.val (.int p0), .val (.int p1), .val (.int p2), .val (.int p3), .val (.ref x1), .unset, .unset, .unset, .unset, .unset, .unset, .unset, .unset, .unset, .unset, .unset]) rfl ?_
    have J32 : ∀ (T : State) (x2 : Addr), (Exa Z h0 x2 "com/example/tariffwright/tariffwright/core/AreaKind") → W Γ n0 T h0 0 0 → Go Γ n0 (fun v h => v = some (.int 1)) T (mkF Γ.m 32 #[.val (.int p0), .val (.int p1), .val (.int p2), .val (.int p3), .val (.ref x1), .unset, .unset, .unset, .unset, .unset, .unset, .unset, .unset, .unset, .unset, .unset] [(.ref x2)]) := by
      intro T x2 EK2 X
      refine k_astore G X at_32 (pc' := 34) rfl rfl (l' := #[.val (.int p0), .val (.int p1), .val (.int p2), .val (.int p3), .val (.ref x1), .val (.ref x2), .unset, .unset, .unset, .unset, .unset, .unset, .unset, .unset, .unset, .unset]) rfl ?_
      have J57 : ∀ (T : State) (cp : Int32) (m2 : Int32), W Γ n0 T h0 0 0 → Go Γ n0 (fun v h => v = some (.int 1)) T (mkF Γ.m 57 #[.val (.int p0), .val (.int p1), .val (.int p2), .val (.int p3), .val (.ref x1), .val (.ref x2), .val (.int cp), .unset, .unset, .unset, .unset, .unset, .unset, .unset, .unset, .unset] [(.int m2)]) := by
        intro T cp m2 X
        refine k_istore G X at_57 (pc' := 59) rfl (l' := #[.val (.int p0), .val (.int p1), .val (.int p2), .val (.int p3), .val (.ref x1), .val (.ref x2), .val (.int cp), .val (.int m2), .unset, .unset, .unset, .unset, .unset, .unset, .unset, .unset]) rfl ?_
        refine k_iconst G X at_59 (pc' := 60) rfl (z := (1 : Int32)) (by decide) ?_
        refine k_iloadN G X at_60 (pc' := 61) rfl rfl ?_
        refine k_iconst G X at_61 (pc' := 62) rfl (z := (3 : Int32)) (by decide) ?_
        refine k_iand G X at_62 (pc' := 63) rfl rfl ?_
        refine k_iconst G X at_63 (pc' := 64) rfl (z := (3 : Int32)) (by decide) ?_
        refine k_irem G X at_64 (pc' := 65) rfl (by decide) rfl ?_
        refine k_iadd G X at_65 (pc' := 66) rfl rfl ?_
        obtain ⟨len1, q_len1⟩ : ∃ z, ((1 : Int32) + ((p3 &&& (3 : Int32)) % (3 : Int32))) = z := ⟨_, rfl⟩
        rw [q_len1]
        have hl82 : 1 ≤ len1.toInt ∧ len1.toInt ≤ 3 := by rw [← q_len1]; exact own_len p3
        refine k_istore G X at_66 (pc' := 68) rfl (l' := #[.val (.int p0), .val (.int p1), .val (.int p2), .val (.int p3), .val (.ref x1), .val (.ref x2), .val (.int cp), .val (.int m2), .val (.int len1), .unset, .unset, .unset, .unset, .unset, .unset, .unset]) rfl ?_
        refine k_iconst G X at_68 (pc' := 69) rfl (z := (1 : Int32)) (by decide) ?_
        refine k_iloadN G X at_69 (pc' := 70) rfl rfl ?_
        refine k_iconst G X at_70 (pc' := 71) rfl (z := (2 : Int32)) (by decide) ?_
        refine k_iushr G X at_71 (pc' := 72) rfl rfl ?_
        refine k_iconst G X at_72 (pc' := 73) rfl (z := (3 : Int32)) (by decide) ?_
        refine k_iand G X at_73 (pc' := 74) rfl rfl ?_
        refine k_iconst G X at_74 (pc' := 75) rfl (z := (3 : Int32)) (by decide) ?_
        refine k_irem G X at_75 (pc' := 76) rfl (by decide) rfl ?_
        refine k_iadd G X at_76 (pc' := 77) rfl rfl ?_
        obtain ⟨len2, q_len2⟩ : ∃ z, ((1 : Int32) + ((((p3.toUInt32 >>> ((2 : Int32) &&& 31).toUInt32).toInt32) &&& (3 : Int32)) % (3 : Int32))) = z := ⟨_, rfl⟩
        rw [q_len2]
        have hl91 : 1 ≤ len2.toInt ∧ len2.toInt ≤ 3 := by rw [← q_len2]; exact own_len _
        refine k_istore G X at_77 (pc' := 79) rfl (l' := #[.val (.int p0), .val (.int p1), .val (.int p2), .val (.int p3), .val (.ref x1), .val (.ref x2), .val (.int cp), .val (.int m2), .val (.int len1), .val (.int len2), .unset, .unset, .unset, .unset, .unset, .unset]) rfl ?_
        refine k_iloadN G X at_79 (pc' := 80) rfl rfl ?_
        refine k_iload G X at_80 (pc' := 82) rfl rfl ?_
        refine k_callS G X (argsL := [(.int p1), (.int len1)]) (rest := []) rfl (w3 hw) (w4 hw) (w5 hw) (w6 hw) (by decide) (rm1 hw p1 len1 cs h0 n0 hl82.1 hl82.2 O S_CS hcs) at_82 pd9 rfl (pc' := 85) rfl rfl (wd := 0) rfl (by decide) (by decide) (by decide) (by decide) (fun T h82 v X q => ?_)
        obtain ⟨s82, t82, k82, rfl, sz_s82, sz_t82, K82, SS82⟩ := q
        have ge_s82 : n0 ≤ s82 := Nat.le_trans (Old_le O) sz_s82
        replace S_CS := Jvm.OwnK.Sta_keep S_CS K82
        replace O := O.keep K82 (all0)
        replace EK1 := EK1.keep K82
        replace EK2 := EK2.keep K82
        have SE82 := SS82.1
        show Go Γ n0 _ T (mkF Γ.m 85 #[.val (.int p0), .val (.int p1), .val (.int p2), .val (.int p3), .val (.ref x1), .val (.ref x2), .val (.int cp), .val (.int m2), .val (.int len1), .val (.int len2), .unset, .unset, .unset, .unset, .unset, .unset] [(.ref s82)])
        refine k_astore G X at_85 (pc' := 87) rfl rfl (l' := #[.val (.int p0), .val (.int p1), .val (.int p2), .val (.int p3), .val (.ref x1), .val (.ref x2), .val (.int cp), .val (.int m2), .val (.int len1), .val (.int len2), .val (.ref s82), .unset, .unset, .unset, .unset, .unset]) rfl ?_
        refine k_iload G X at_87 (pc' := 89) rfl rfl ?_
        refine k_iload G X at_89 (pc' := 91) rfl rfl ?_
        refine k_callS G X (argsL := [(.int m2), (.int len2)]) (rest := []) rfl (w3 hw) (w4 hw) (w5 hw) (w6 hw) (by decide) (rm1 hw m2 len2 cs h82 n0 hl91.1 hl91.2 O S_CS hcs) at_91 pd9 rfl (pc' := 94) rfl rfl (wd := 0) rfl (by decide) (by decide) (by decide) (by decide) (fun T h91 v X q => ?_)
        obtain ⟨s91, t91, k91, rfl, sz_s91, sz_t91, K91, SS91⟩ := q
        have ge_s91 : n0 ≤ s91 := Nat.le_trans (Old_le O) sz_s91
        have ne_s82_s91 : s82 ≠ s91 := Nat.ne_of_lt (Nat.lt_of_lt_of_le SS82.lt sz_s91)
        replace S_CS := Jvm.OwnK.Sta_keep S_CS K91
        replace O := O.keep K91 (all0)
        replace EK1 := EK1.keep K91
        replace EK2 := EK2.keep K91
        replace SS82 := SS82.keep K91 nin0 nin0
        replace SE82 := SE82.keep K91
        have SE91 := SS91.1
        show Go Γ n0 _ T (mkF Γ.m 94 #[.val (.int p0), .val (.int p1), .val (.int p2), .val (.int p3), .val (.ref x1), .val (.ref x2), .val (.int cp), .val (.int m2), .val (.int len1), .val (.int len2), .val (.ref s82), .unset, .unset, .unset, .unset, .unset] [(.ref s91)])
        refine k_astore G X at_94 (pc' := 96) rfl rfl (l' := #[.val (.int p0), .val (.int p1), .val (.int p2), .val (.int p3), .val (.ref x1), .val (.ref x2), .val (.int cp), .val (.int m2), .val (.int len1), .val (.int len2), .val (.ref s82), .val (.ref s91), .unset, .unset, .unset, .unset]) rfl ?_
        refine k_new G X (w37 hw) (w38 hw) (w39 hw) at_96 (pc' := 99) rfl (by decide) (by decide) (fun T h96 b96 s_b96 E96 X_b96 D96 X => ?_)
        have ne_x1_b96 : x1 ≠ b96 := Nat.ne_of_lt (Nat.lt_of_lt_of_eq EK1.lt s_b96)
        have ne_x2_b96 : x2 ≠ b96 := Nat.ne_of_lt (Nat.lt_of_lt_of_eq EK2.lt s_b96)
        have ne_s82_b96 : s82 ≠ b96 := Nat.ne_of_lt (Nat.lt_of_lt_of_eq SE82.lt s_b96)
        have ne_s91_b96 : s91 ≠ b96 := Nat.ne_of_lt (Nat.lt_of_lt_of_eq SE91.lt s_b96)
        have ne_t82_b96 : t82 ≠ b96 := Nat.ne_of_lt (Nat.lt_of_lt_of_eq SS82.lt' s_b96)
        have ne_t91_b96 : t91 ≠ b96 := Nat.ne_of_lt (Nat.lt_of_lt_of_eq SS91.lt' s_b96)
        have ge_b96 : n0 ≤ b96 := Nat.le_trans (Jvm.OwnK.Old_le O) (Nat.le_of_eq s_b96)
        replace O := O.ext E96
        replace S_CS := S_CS.ext E96
        replace EK1 := EK1.ext E96
        replace EK2 := EK2.ext E96
        replace SS82 := SS82.ext E96
        replace SE82 := SE82.ext E96
        replace SS91 := SS91.ext E96
        replace SE91 := SE91.ext E96
        have F_b96_kind : Fld Z h96 b96 "com/example/tariffwright/tariffwright/core/Area" "kind" "Lcom/example/tariffwright/tariffwright/core/AreaKind;" .null := D96 (Or.inr (w56 hw)) (ty := (.object "com/example/tariffwright/tariffwright/core/AreaKind")) (by decide)
        have F_b96_name : Fld Z h96 b96 "com/example/tariffwright/tariffwright/core/Area" "name" "Ljava/lang/String;" .null := D96 (Or.inr (w58 hw)) (ty := (.object "java/lang/String")) (by decide)
        refine k_dup G X at_99 (pc' := 100) rfl rfl ?_
        refine k_aload G X at_100 (pc' := 102) rfl rfl rfl ?_
        refine k_aload G X at_102 (pc' := 104) rfl rfl rfl ?_
        refine k_callI G X (argsL := [(.ref x1), (.ref s82)]) (rest := [(.ref b96)]) rfl rfl (w40 hw) (w41 hw) (w39 hw) (w42 hw) (by decide) (rm8 hw b96 x1 s82 t82 k82 _ _ h96 n0 ge_b96 X_b96 F_b96_kind F_b96_name EK1 SS82 (by omega)) at_104 pd10 rfl (pc' := 107) rfl rfl (wd := 1) rfl (by decide) (by decide) (by decide) (by decide) (fun T h104 v X q => ?_)
        obtain ⟨rfl, K104, X_b96', KF_b96, NF_b96⟩ := q
        replace S_CS := Sta_keepL S_CS K104 (allS (Pln_exa X_b96) (all0))
        replace O := O.keep K104 (allS ge_b96 (all0))
        replace EK1 := EK1.keep K104
        replace EK2 := EK2.keep K104
        replace SS82 := SS82.keep K104 (by simp only [List.mem_cons, List.not_mem_nil, or_false, not_or]; exact ne_s82_b96) (by simp only [List.mem_cons, List.not_mem_nil, or_false, not_or]; exact ne_t82_b96)
        replace SE82 := SE82.keep K104
        replace SS91 := SS91.keep K104 (by simp only [List.mem_cons, List.not_mem_nil, or_false, not_or]; exact ne_s91_b96) (by simp only [List.mem_cons, List.not_mem_nil, or_false, not_or]; exact ne_t91_b96)
        replace SE91 := SE91.keep K104
        replace X_b96 := X_b96.keep K104
        show Go Γ n0 _ T (mkF Γ.m 107 #[.val (.int p0), .val (.int p1), .val (.int p2), .val (.int p3), .val (.ref x1), .val (.ref x2), .val (.int cp), .val (.int m2), .val (.int len1), .val (.int len2), .val (.ref s82), .val (.ref s91), .unset, .unset, .unset, .unset] [(.ref b96)])
        refine k_astore G X at_107 (pc' := 109) rfl rfl (l' := #[.val (.int p0), .val (.int p1), .val (.int p2), .val (.int p3), .val (.ref x1), .val (.ref x2), .val (.int cp), .val (.int m2), .val (.int len1), .val (.int len2), .val (.ref s82), .val (.ref s91), .val (.ref b96), .unset, .unset, .unset]) rfl ?_
        refine k_new G X (w37 hw) (w38 hw) (w39 hw) at_109 (pc' := 112) rfl (by decide) (by decide) (fun T h109 b109 s_b109 E109 X_b109 D109 X => ?_)
        have ne_x1_b109 : x1 ≠ b109 := Nat.ne_of_lt (Nat.lt_of_lt_of_eq EK1.lt s_b109)
        have ne_x2_b109 : x2 ≠ b109 := Nat.ne_of_lt (Nat.lt_of_lt_of_eq EK2.lt s_b109)
        have ne_s82_b109 : s82 ≠ b109 := Nat.ne_of_lt (Nat.lt_of_lt_of_eq SE82.lt s_b109)
        have ne_s91_b109 : s91 ≠ b109 := Nat.ne_of_lt (Nat.lt_of_lt_of_eq SE91.lt s_b109)
        have ne_b96_b109 : b96 ≠ b109 := Nat.ne_of_lt (Nat.lt_of_lt_of_eq X_b96.lt s_b109)
        have ne_t82_b109 : t82 ≠ b109 := Nat.ne_of_lt (Nat.lt_of_lt_of_eq SS82.lt' s_b109)
        have ne_t91_b109 : t91 ≠ b109 := Nat.ne_of_lt (Nat.lt_of_lt_of_eq SS91.lt' s_b109)
        have ge_b109 : n0 ≤ b109 := Nat.le_trans (Jvm.OwnK.Old_le O) (Nat.le_of_eq s_b109)
        replace O := O.ext E109
        replace S_CS := S_CS.ext E109
        replace EK1 := EK1.ext E109
        replace EK2 := EK2.ext E109
        replace SS82 := SS82.ext E109
        replace SE82 := SE82.ext E109
        replace SS91 := SS91.ext E109
        replace SE91 := SE91.ext E109
        replace X_b96 := X_b96.ext E109
        replace KF_b96 := KF_b96.ext E109
        replace NF_b96 := NF_b96.ext E109
        have F_b109_kind : Fld Z h109 b109 "com/example/tariffwright/tariffwright/core/Area" "kind" "Lcom/example/tariffwright/tariffwright/core/AreaKind;" .null := D109 (Or.inr (w56 hw)) (ty := (.object "com/example/tariffwright/tariffwright/core/AreaKind")) (by decide)
        have F_b109_name : Fld Z h109 b109 "com/example/tariffwright/tariffwright/core/Area" "name" "Ljava/lang/String;" .null := D109 (Or.inr (w58 hw)) (ty := (.object "java/lang/String")) (by decide)
        refine k_dup G X at_112 (pc' := 113) rfl rfl ?_
        refine k_aload G X at_113 (pc' := 115) rfl rfl rfl ?_
        refine k_aload G X at_115 (pc' := 117) rfl rfl rfl ?_
        refine k_callI G X (argsL := [(.ref x2), (.ref s91)]) (rest := [(.ref b109)]) rfl rfl (w40 hw) (w41 hw) (w39 hw) (w42 hw) (by decide) (rm8 hw b109 x2 s91 t91 k91 _ _ h109 n0 ge_b109 X_b109 F_b109_kind F_b109_name EK2 SS91 (by omega)) at_117 pd10 rfl (pc' := 120) rfl rfl (wd := 1) rfl (by decide) (by decide) (by decide) (by decide) (fun T h117 v X q => ?_)
        obtain ⟨rfl, K117, X_b109', KF_b109, NF_b109⟩ := q
        replace S_CS := Sta_keepL S_CS K117 (allS (Pln_exa X_b109) (all0))
        replace O := O.keep K117 (allS ge_b109 (all0))
        replace EK1 := EK1.keep K117
        replace EK2 := EK2.keep K117
        replace SS82 := SS82.keep K117 (by simp only [List.mem_cons, List.not_mem_nil, or_false, not_or]; exact ne_s82_b109) (by simp only [List.mem_cons, List.not_mem_nil, or_false, not_or]; exact ne_t82_b109)
        replace SE82 := SE82.keep K117
        replace SS91 := SS91.keep K117 (by simp only [List.mem_cons, List.not_mem_nil, or_false, not_or]; exact ne_s91_b109) (by simp only [List.mem_cons, List.not_mem_nil, or_false, not_or]; exact ne_t91_b109)
        replace SE91 := SE91.keep K117
        replace X_b96 := X_b96.keep K117
        replace KF_b96 := KF_b96.keep K117 (by simp only [List.mem_cons, List.not_mem_nil, or_false, not_or]; exact ne_b96_b109)
        replace NF_b96 := NF_b96.keep K117 (by simp only [List.mem_cons, List.not_mem_nil, or_false, not_or]; exact ne_b96_b109)
        replace X_b109 := X_b109.keep K117
        show Go Γ n0 _ T (mkF Γ.m 120 #[.val (.int p0), .val (.int p1), .val (.int p2), .val (.int p3), .val (.ref x1), .val (.ref x2), .val (.int cp), .val (.int m2), .val (.int len1), .val (.int len2), .val (.ref s82), .val (.ref s91), .val (.ref b96), .unset, .unset, .unset] [(.ref b109)])
        refine k_astore G X at_120 (pc' := 122) rfl rfl (l' := #[.val (.int p0), .val (.int p1), .val (.int p2), .val (.int p3), .val (.ref x1), .val (.ref x2), .val (.int cp), .val (.int m2), .val (.int len1), .val (.int len2), .val (.ref s82), .val (.ref s91), .val (.ref b96), .val (.ref b109), .unset, .unset]) rfl ?_
        have e2 : (2 : Int32).toInt = 2 := rfl
        have e3 : (3 : Int32).toInt = 3 := rfl
        have J200 : ∀ (T : State) (r : Int32), (r = 0 ∨ r = 1) → (r = 1 ↔ len1.toInt.toNat = len2.toInt.toNat ∧ ∀ i, i < len1.toInt.toNat → own_ch p1 i = own_ch m2 i) → W Γ n0 T h117 8 24 → Go Γ n0 (fun v h => v = some (.int 1)) T (mkF Γ.m 200 #[.val (.int p0), .val (.int p1), .val (.int p2), .val (.int p3), .val (.ref x1), .val (.ref x2), .val (.int cp), .val (.int m2), .val (.int len1), .val (.int len2), .val (.ref s82), .val (.ref s91), .val (.ref b96), .val (.ref b109), .unset, .unset] [(.int r)]) := by
          intro T r hr hs X
          refine k_istore G X at_200 (pc' := 202) rfl (l' := #[.val (.int p0), .val (.int p1), .val (.int p2), .val (.int p3), .val (.ref x1), .val (.ref x2), .val (.int cp), .val (.int m2), .val (.int len1), .val (.int len2), .val (.ref s82), .val (.ref s91), .val (.ref b96), .val (.ref b109), .val (.int r), .unset]) rfl ?_
          have J219 : ∀ (T : State) (e : Int32), (e = 0 ∨ e = 1) → (e = 1 ↔ x1 = x2 ∧ r = 1) → W Γ n0 T h117 8 24 → Go Γ n0 (fun v h => v = some (.int 1)) T (mkF Γ.m 219 #[.val (.int p0), .val (.int p1), .val (.int p2), .val (.int p3), .val (.ref x1), .val (.ref x2), .val (.int cp), .val (.int m2), .val (.int len1), .val (.int len2), .val (.ref s82), .val (.ref s91), .val (.ref b96), .val (.ref b109), .val (.int r), .unset] [(.int e)]) := by
            intro T e hr2 he X
            refine k_istore G X at_219 (pc' := 221) rfl (l' := #[.val (.int p0), .val (.int p1), .val (.int p2), .val (.int p3), .val (.ref x1), .val (.ref x2), .val (.int cp), .val (.int m2), .val (.int len1), .val (.int len2), .val (.ref s82), .val (.ref s91), .val (.ref b96), .val (.ref b109), .val (.int r), .val (.int e)]) rfl ?_
            refine k_aload G X at_221 (pc' := 223) rfl rfl rfl ?_
            refine k_aload G X at_223 (pc' := 225) rfl rfl rfl ?_
            refine k_callV G X (argsL := [(.ref b109)]) (rest := []) rfl X_b96 (w59 hw) (w60 hw) (nf_sel (w62 hw)) (w62 hw) (w61 hw) (w39 hw) (w63 hw) (by decide) (rm11 hw b96 b109 x1 x2 s82 s91 t82 t91 k82 k91 _ _ cs _ _ h117 n0 X_b96 X_b109 KF_b96 KF_b109 NF_b96 NF_b109 SS82 SS91 ne_s82_s91 S_CS hcs) at_225 pd8 rfl (pc' := 228) rfl rfl (wd := 0) rfl (by decide) (by decide) (by decide) (by decide) (fun T h225 v X q => ?_)
            obtain ⟨r225, rfl, hr225, hi225, e225⟩ := q
            replace X := X.eq e225
            show Go Γ n0 _ T (mkF Γ.m 228 #[.val (.int p0), .val (.int p1), .val (.int p2), .val (.int p3), .val (.ref x1), .val (.ref x2), .val (.int cp), .val (.int m2), .val (.int len1), .val (.int len2), .val (.ref s82), .val (.ref s91), .val (.ref b96), .val (.ref b109), .val (.int r), .val (.int e)] [(.int r225)])
            refine k_iload G X at_228 (pc' := 230) rfl rfl ?_
            refine k_icmp_ne G X at_230 (pc' := 278) rfl (by decide) (pc'' := 233) rfl (fun c230 => (absurd c230 (by simpa using own_eq hr225 hr2 hi225 hs he))) (fun c230 => ?_)
            refine k_aload G X at_233 (pc' := 235) rfl rfl rfl ?_
            refine k_aload G X at_235 (pc' := 237) rfl rfl rfl ?_
            refine k_callV G X (argsL := [(.ref b96)]) (rest := []) rfl X_b109 (w59 hw) (w60 hw) (nf_sel (w62 hw)) (w62 hw) (w61 hw) (w39 hw) (w63 hw) (by decide) (rm11 hw b109 b96 x2 x1 s91 s82 t91 t82 k91 k82 _ _ cs _ _ h117 n0 X_b109 X_b96 KF_b109 KF_b96 NF_b109 NF_b96 SS91 SS82 ne_s82_s91.symm S_CS hcs) at_237 pd8 rfl (pc' := 240) rfl rfl (wd := 0) rfl (by decide) (by decide) (by decide) (by decide) (fun T h237 v X q => ?_)
            obtain ⟨r237, rfl, hr237, hi237, e237⟩ := q
            replace X := X.eq e237
            show Go Γ n0 _ T (mkF Γ.m 240 #[.val (.int p0), .val (.int p1), .val (.int p2), .val (.int p3), .val (.ref x1), .val (.ref x2), .val (.int cp), .val (.int m2), .val (.int len1), .val (.int len2), .val (.ref s82), .val (.ref s91), .val (.ref b96), .val (.ref b109), .val (.int r), .val (.int e)] [(.int r237)])
            refine k_iload G X at_240 (pc' := 242) rfl rfl ?_
            refine k_icmp_ne G X at_242 (pc' := 278) rfl (by decide) (pc'' := 245) rfl (fun c242 => (absurd c242 (by simpa using own_eq' hr237 hr2 hi237 hs he))) (fun c242 => ?_)
            refine k_aload G X at_245 (pc' := 247) rfl rfl rfl ?_
            refine k_aload G X at_247 (pc' := 249) rfl rfl rfl ?_
            refine k_callV G X (argsL := [(.ref b96)]) (rest := []) rfl X_b96 (w59 hw) (w60 hw) (nf_sel (w62 hw)) (w62 hw) (w61 hw) (w39 hw) (w63 hw) (by decide) (rm11s hw b96 x1 s82 h117 n0 X_b96 KF_b96 NF_b96 SE82) at_249 pd8 rfl (pc' := 252) rfl rfl (wd := 0) rfl (by decide) (by decide) (by decide) (by decide) (fun T h249 v X q => ?_)
            obtain ⟨rfl, e249⟩ := q
            replace X := X.eq e249
            show Go Γ n0 _ T (mkF Γ.m 252 #[.val (.int p0), .val (.int p1), .val (.int p2), .val (.int p3), .val (.ref x1), .val (.ref x2), .val (.int cp), .val (.int m2), .val (.int len1), .val (.int len2), .val (.ref s82), .val (.ref s91), .val (.ref b96), .val (.ref b109), .val (.int r), .val (.int e)] [(.int (1 : Int32))])
            refine k_if_eq G X at_252 (pc' := 278) rfl (by decide) (pc'' := 255) rfl (fun c252 => (absurd c252 (by decide))) (fun c252 => ?_)
            refine k_aload G X at_255 (pc' := 257) rfl rfl rfl ?_
            refine k_anull G X at_257 (pc' := 258) rfl ?_
            refine k_callV G X (argsL := [.null]) (rest := []) rfl X_b96 (w59 hw) (w60 hw) (nf_sel (w62 hw)) (w62 hw) (w61 hw) (w39 hw) (w63 hw) (by decide) (rm11n hw b96 h117 n0) at_258 pd8 rfl (pc' := 261) rfl rfl (wd := 0) rfl (by decide) (by decide) (by decide) (by decide) (fun T h258 v X q => ?_)
            obtain ⟨rfl, e258⟩ := q
            replace X := X.eq e258
            show Go Γ n0 _ T (mkF Γ.m 261 #[.val (.int p0), .val (.int p1), .val (.int p2), .val (.int p3), .val (.ref x1), .val (.ref x2), .val (.int cp), .val (.int m2), .val (.int len1), .val (.int len2), .val (.ref s82), .val (.ref s91), .val (.ref b96), .val (.ref b109), .val (.int r), .val (.int e)] [(.int (0 : Int32))])
            refine k_if_ne G X at_261 (pc' := 278) rfl (by decide) (pc'' := 264) rfl (fun c261 => (absurd c261 (by decide))) (fun c261 => ?_)
            refine k_aload G X at_264 (pc' := 266) rfl rfl rfl ?_
            refine k_aload G X at_266 (pc' := 268) rfl rfl rfl ?_
            refine k_callV G X (argsL := [(.ref s82)]) (rest := []) rfl X_b96 (w59 hw) (w60 hw) (nf_sel (w62 hw)) (w62 hw) (w61 hw) (w39 hw) (w63 hw) (by decide) (rm11t hw b96 s82 h117 n0 SE82) at_268 pd8 rfl (pc' := 271) rfl rfl (wd := 0) rfl (by decide) (by decide) (by decide) (by decide) (fun T h268 v X q => ?_)
            obtain ⟨rfl, e268⟩ := q
            replace X := X.eq e268
            show Go Γ n0 _ T (mkF Γ.m 271 #[.val (.int p0), .val (.int p1), .val (.int p2), .val (.int p3), .val (.ref x1), .val (.ref x2), .val (.int cp), .val (.int m2), .val (.int len1), .val (.int len2), .val (.ref s82), .val (.ref s91), .val (.ref b96), .val (.ref b109), .val (.int r), .val (.int e)] [(.int (0 : Int32))])
            refine k_if_ne G X at_271 (pc' := 278) rfl (by decide) (pc'' := 274) rfl (fun c271 => (absurd c271 (by decide))) (fun c271 => ?_)
            refine k_iconst G X at_274 (pc' := 275) rfl (z := (1 : Int32)) (by decide) ?_
            refine k_goto G X at_275 (by decide) (pc' := 279) rfl ?_
            refine k_retb G X at_279 (t := .boolean) rfl (by simp) rfl ?_ (by decide) (by decide)
            rfl
          refine k_aload G X at_202 (pc' := 204) rfl rfl rfl ?_
          refine k_aload G X at_204 (pc' := 206) rfl rfl rfl ?_
          refine k_acmp_ne G X at_206 (pc' := 218) rfl (by decide) (pc'' := 209) rfl rfl rfl (fun c206 => ?_) (fun c206 => ?_)
          · refine k_iconst G X at_218 (pc' := 219) rfl (z := (0 : Int32)) (by decide) ?_
            exact J219 T (0 : Int32) (Or.inl rfl) ⟨fun q => absurd q (by decide), fun q => by first | exact absurd (congrArg Value.ref q.1) c206 | (rw [c211] at q; exact absurd q.2 (by decide))⟩ X
          · refine k_iload G X at_209 (pc' := 211) rfl rfl ?_
            refine k_if_eq G X at_211 (pc' := 218) rfl (by decide) (pc'' := 214) rfl (fun c211 => ?_) (fun c211 => ?_)
            · refine k_iconst G X at_218 (pc' := 219) rfl (z := (0 : Int32)) (by decide) ?_
              exact J219 T (0 : Int32) (Or.inl rfl) ⟨fun q => absurd q (by decide), fun q => by first | exact absurd (congrArg Value.ref q.1) c206 | (rw [c211] at q; exact absurd q.2 (by decide))⟩ X
            · refine k_iconst G X at_214 (pc' := 215) rfl (z := (1 : Int32)) (by decide) ?_
              refine k_goto G X at_215 (by decide) (pc' := 219) rfl ?_
              exact J219 T (1 : Int32) (Or.inr rfl) ⟨fun _ => ⟨by simpa using c206, by rcases hr with h | h; exact absurd h c211; exact h⟩, fun _ => rfl⟩ X
        refine k_iload G X at_122 (pc' := 124) rfl rfl ?_
        refine k_iload G X at_124 (pc' := 126) rfl rfl ?_
        refine k_icmp_ne G X at_126 (pc' := 199) rfl (by decide) (pc'' := 129) rfl (fun c126 => ?_) (fun c126 => ?_)
        · refine k_iconst G X at_199 (pc' := 200) rfl (z := (0 : Int32)) (by decide) ?_
          exact J200 T (0 : Int32) (Or.inl rfl) ⟨fun q => absurd q (by decide), fun q => by first | exact absurd (of_toInt (by have := q.1; omega)) c126 | exact absurd (q.2 0 (by omega)) c140 | exact absurd (q.2 1 (by omega)) c166 | exact absurd (q.2 2 (by omega)) c192⟩ X
        · refine k_iloadN G X at_129 (pc' := 130) rfl rfl ?_
          refine k_sipush G X at_130 (pc' := 133) rfl (z := (255 : Int32)) (by decide) ?_
          refine k_iand G X at_133 (pc' := 134) rfl rfl ?_
          refine k_iload G X at_134 (pc' := 136) rfl rfl ?_
          refine k_sipush G X at_136 (pc' := 139) rfl (z := (255 : Int32)) (by decide) ?_
          refine k_iand G X at_139 (pc' := 140) rfl rfl ?_
          refine k_icmp_ne G X at_140 (pc' := 199) rfl (by decide) (pc'' := 143) rfl (fun c140 => ?_) (fun c140 => ?_)
          · refine k_iconst G X at_199 (pc' := 200) rfl (z := (0 : Int32)) (by decide) ?_
            exact J200 T (0 : Int32) (Or.inl rfl) ⟨fun q => absurd q (by decide), fun q => by first | exact absurd (of_toInt (by have := q.1; omega)) c126 | exact absurd (q.2 0 (by omega)) c140 | exact absurd (q.2 1 (by omega)) c166 | exact absurd (q.2 2 (by omega)) c192⟩ X
          · refine k_iload G X at_143 (pc' := 145) rfl rfl ?_
            refine k_iconst G X at_145 (pc' := 146) rfl (z := (2 : Int32)) (by decide) ?_
            refine k_icmp_lt G X at_146 (pc' := 169) rfl (by decide) (pc'' := 149) rfl (fun c146 => ?_) (fun c146 => ?_)
            · refine k_iload G X at_169 (pc' := 171) rfl rfl ?_
              refine k_iconst G X at_171 (pc' := 172) rfl (z := (3 : Int32)) (by decide) ?_
              refine k_icmp_lt G X at_172 (pc' := 195) rfl (by decide) (pc'' := 175) rfl (fun c172 => ?_) (fun c172 => ?_)
              · refine k_iconst G X at_195 (pc' := 196) rfl (z := (1 : Int32)) (by decide) ?_
                refine k_goto G X at_196 (by decide) (pc' := 200) rfl ?_
                exact J200 T (1 : Int32) (Or.inr rfl) ⟨fun _ => ⟨by rw [c126], fun i hi => by rcases (by omega : i = 0 ∨ i = 1 ∨ i = 2) with rfl | rfl | rfl <;> first | exact c140 | exact c166 | exact c192 | (exfalso; omega)⟩, fun _ => rfl⟩ X
              · refine k_iloadN G X at_175 (pc' := 176) rfl rfl ?_
                refine k_bipush G X at_176 (pc' := 178) rfl (z := (16 : Int32)) (by decide) ?_
                refine k_iushr G X at_178 (pc' := 179) rfl rfl ?_
                refine k_sipush G X at_179 (pc' := 182) rfl (z := (255 : Int32)) (by decide) ?_
                refine k_iand G X at_182 (pc' := 183) rfl rfl ?_
                refine k_iload G X at_183 (pc' := 185) rfl rfl ?_
                refine k_bipush G X at_185 (pc' := 187) rfl (z := (16 : Int32)) (by decide) ?_
                refine k_iushr G X at_187 (pc' := 188) rfl rfl ?_
                refine k_sipush G X at_188 (pc' := 191) rfl (z := (255 : Int32)) (by decide) ?_
                refine k_iand G X at_191 (pc' := 192) rfl rfl ?_
                refine k_icmp_ne G X at_192 (pc' := 199) rfl (by decide) (pc'' := 195) rfl (fun c192 => ?_) (fun c192 => ?_)
                · refine k_iconst G X at_199 (pc' := 200) rfl (z := (0 : Int32)) (by decide) ?_
                  exact J200 T (0 : Int32) (Or.inl rfl) ⟨fun q => absurd q (by decide), fun q => by first | exact absurd (of_toInt (by have := q.1; omega)) c126 | exact absurd (q.2 0 (by omega)) c140 | exact absurd (q.2 1 (by omega)) c166 | exact absurd (q.2 2 (by omega)) c192⟩ X
                · refine k_iconst G X at_195 (pc' := 196) rfl (z := (1 : Int32)) (by decide) ?_
                  refine k_goto G X at_196 (by decide) (pc' := 200) rfl ?_
                  exact J200 T (1 : Int32) (Or.inr rfl) ⟨fun _ => ⟨by rw [c126], fun i hi => by rcases (by omega : i = 0 ∨ i = 1 ∨ i = 2) with rfl | rfl | rfl <;> first | exact c140 | exact c166 | exact c192 | (exfalso; omega)⟩, fun _ => rfl⟩ X
            · refine k_iloadN G X at_149 (pc' := 150) rfl rfl ?_
              refine k_bipush G X at_150 (pc' := 152) rfl (z := (8 : Int32)) (by decide) ?_
              refine k_iushr G X at_152 (pc' := 153) rfl rfl ?_
              refine k_sipush G X at_153 (pc' := 156) rfl (z := (255 : Int32)) (by decide) ?_
              refine k_iand G X at_156 (pc' := 157) rfl rfl ?_
              refine k_iload G X at_157 (pc' := 159) rfl rfl ?_
              refine k_bipush G X at_159 (pc' := 161) rfl (z := (8 : Int32)) (by decide) ?_
              refine k_iushr G X at_161 (pc' := 162) rfl rfl ?_
              refine k_sipush G X at_162 (pc' := 165) rfl (z := (255 : Int32)) (by decide) ?_
              refine k_iand G X at_165 (pc' := 166) rfl rfl ?_
              refine k_icmp_ne G X at_166 (pc' := 199) rfl (by decide) (pc'' := 169) rfl (fun c166 => ?_) (fun c166 => ?_)
              · refine k_iconst G X at_199 (pc' := 200) rfl (z := (0 : Int32)) (by decide) ?_
                exact J200 T (0 : Int32) (Or.inl rfl) ⟨fun q => absurd q (by decide), fun q => by first | exact absurd (of_toInt (by have := q.1; omega)) c126 | exact absurd (q.2 0 (by omega)) c140 | exact absurd (q.2 1 (by omega)) c166 | exact absurd (q.2 2 (by omega)) c192⟩ X
              · refine k_iload G X at_169 (pc' := 171) rfl rfl ?_
                refine k_iconst G X at_171 (pc' := 172) rfl (z := (3 : Int32)) (by decide) ?_
                refine k_icmp_lt G X at_172 (pc' := 195) rfl (by decide) (pc'' := 175) rfl (fun c172 => ?_) (fun c172 => ?_)
                · refine k_iconst G X at_195 (pc' := 196) rfl (z := (1 : Int32)) (by decide) ?_
                  refine k_goto G X at_196 (by decide) (pc' := 200) rfl ?_
                  exact J200 T (1 : Int32) (Or.inr rfl) ⟨fun _ => ⟨by rw [c126], fun i hi => by rcases (by omega : i = 0 ∨ i = 1 ∨ i = 2) with rfl | rfl | rfl <;> first | exact c140 | exact c166 | exact c192 | (exfalso; omega)⟩, fun _ => rfl⟩ X
                · refine k_iloadN G X at_175 (pc' := 176) rfl rfl ?_
                  refine k_bipush G X at_176 (pc' := 178) rfl (z := (16 : Int32)) (by decide) ?_
                  refine k_iushr G X at_178 (pc' := 179) rfl rfl ?_
                  refine k_sipush G X at_179 (pc' := 182) rfl (z := (255 : Int32)) (by decide) ?_
                  refine k_iand G X at_182 (pc' := 183) rfl rfl ?_
                  refine k_iload G X at_183 (pc' := 185) rfl rfl ?_
                  refine k_bipush G X at_185 (pc' := 187) rfl (z := (16 : Int32)) (by decide) ?_
                  refine k_iushr G X at_187 (pc' := 188) rfl rfl ?_
                  refine k_sipush G X at_188 (pc' := 191) rfl (z := (255 : Int32)) (by decide) ?_
                  refine k_iand G X at_191 (pc' := 192) rfl rfl ?_
                  refine k_icmp_ne G X at_192 (pc' := 199) rfl (by decide) (pc'' := 195) rfl (fun c192 => ?_) (fun c192 => ?_)
                  · refine k_iconst G X at_199 (pc' := 200) rfl (z := (0 : Int32)) (by decide) ?_
                    exact J200 T (0 : Int32) (Or.inl rfl) ⟨fun q => absurd q (by decide), fun q => by first | exact absurd (of_toInt (by have := q.1; omega)) c126 | exact absurd (q.2 0 (by omega)) c140 | exact absurd (q.2 1 (by omega)) c166 | exact absurd (q.2 2 (by omega)) c192⟩ X
                  · refine k_iconst G X at_195 (pc' := 196) rfl (z := (1 : Int32)) (by decide) ?_
                    refine k_goto G X at_196 (by decide) (pc' := 200) rfl ?_
                    exact J200 T (1 : Int32) (Or.inr rfl) ⟨fun _ => ⟨by rw [c126], fun i hi => by rcases (by omega : i = 0 ∨ i = 1 ∨ i = 2) with rfl | rfl | rfl <;> first | exact c140 | exact c166 | exact c192 | (exfalso; omega)⟩, fun _ => rfl⟩ X
      refine k_iloadN G X at_34 (pc' := 35) rfl rfl ?_
      refine k_iconst G X at_35 (pc' := 36) rfl (z := (4 : Int32)) (by decide) ?_
      refine k_iand G X at_36 (pc' := 37) rfl rfl ?_
      refine k_if_eq G X at_37 (pc' := 44) rfl (by decide) (pc'' := 40) rfl (fun c37 => ?_) (fun c37 => ?_)
      · refine k_iconst G X at_44 (pc' := 45) rfl (z := (0 : Int32)) (by decide) ?_
        refine k_istore G X at_45 (pc' := 47) rfl (l' := #[.val (.int p0), .val (.int p1), .val (.int p2), .val (.int p3), .val (.ref x1), .val (.ref x2), .val (.int (0 : Int32)), .unset, .unset, .unset, .unset, .unset, .unset, .unset, .unset, .unset]) rfl ?_
        refine k_iload G X at_47 (pc' := 49) rfl rfl ?_
        refine k_if_eq G X at_49 (pc' := 56) rfl (by decide) (pc'' := 52) rfl (fun c49 => ?_) (fun c49 => (absurd c49 (by decide)))
        refine k_iloadN G X at_56 (pc' := 57) rfl rfl ?_
        exact J57 T (0 : Int32) p2  X
      · refine k_iconst G X at_40 (pc' := 41) rfl (z := (1 : Int32)) (by decide) ?_
        refine k_goto G X at_41 (by decide) (pc' := 45) rfl ?_
        refine k_istore G X at_45 (pc' := 47) rfl (l' := #[.val (.int p0), .val (.int p1), .val (.int p2), .val (.int p3), .val (.ref x1), .val (.ref x2), .val (.int (1 : Int32)), .unset, .unset, .unset, .unset, .unset, .unset, .unset, .unset, .unset]) rfl ?_
        refine k_iload G X at_47 (pc' := 49) rfl rfl ?_
        refine k_if_eq G X at_49 (pc' := 56) rfl (by decide) (pc'' := 52) rfl (fun c49 => (absurd c49 (by decide))) (fun c49 => ?_)
        refine k_iloadN G X at_52 (pc' := 53) rfl rfl ?_
        refine k_goto G X at_53 (by decide) (pc' := 57) rfl ?_
        exact J57 T (1 : Int32) p1  X
    refine k_iloadN G X at_17 (pc' := 18) rfl rfl ?_
    refine k_iconst G X at_18 (pc' := 19) rfl (z := (2 : Int32)) (by decide) ?_
    refine k_iand G X at_19 (pc' := 20) rfl rfl ?_
    refine k_if_eq G X at_20 (pc' := 29) rfl (by decide) (pc'' := 23) rfl (fun c20 => ?_) (fun c20 => ?_)
    · refine k_getS G X (host := "") (Or.inl (w0 hw)) Via.refl S_S at_29 (pc' := 32) rfl (fun T X => ?_)
      exact J32 T aS ES X
    · refine k_getS G X (host := "") (Or.inl (w78 hw)) Via.refl S_T at_23 (pc' := 26) rfl (fun T X => ?_)
      refine k_goto G X at_26 (by decide) (pc' := 32) rfl ?_
      exact J32 T aT ET X
  refine k_iloadN G X at_0 (pc' := 1) rfl rfl ?_
  refine k_iconst G X at_1 (pc' := 2) rfl (z := (1 : Int32)) (by decide) ?_
  refine k_iand G X at_2 (pc' := 3) rfl rfl ?_
  refine k_if_eq G X at_3 (pc' := 12) rfl (by decide) (pc'' := 6) rfl (fun c3 => ?_) (fun c3 => ?_)
  · refine k_getS G X (host := "") (Or.inl (w0 hw)) Via.refl S_S at_12 (pc' := 15) rfl (fun T X => ?_)
    exact J15 T aS ES X
  · refine k_getS G X (host := "") (Or.inl (w78 hw)) Via.refl S_T at_6 (pc' := 9) rfl (fun T X => ?_)
    refine k_goto G X at_9 (by decide) (pc' := 15) rfl ?_
    exact J15 T aT ET X
set_option maxRecDepth 65536 in
set_option maxHeartbeats 40000000 in
theorem comes_1 {Post : Tables → Env → Array Value → State → Outcome → State → Prop} (hpost : ∀ tb e args s v u, (limb_1_1.after args s (.returned v) u = true ∧ limb_1_2.after args s (.returned v) u = true ∧ True) → FrameEnd s (.returned v) u (Jvm.fieldLocs frame_1_writes args s ++ Jvm.arrayLocs frame_1_arrays args s ++ Jvm.staticLocs frame_1_statics s) 24 128 → Post tb e args s (.returned v) u) :
    ArmFor flags0 classFile x code maxLocals ret World_1 tables_1 room_1 Calls_1 rest_1 Pre_1 Post := by
  intro l hfl _ _ p e ha hc hk s m args below hf hA hF happ hP
  obtain ⟨hcalls, hrest, hpre⟩ := hP
  obtain ⟨-, -, -, hnamed, -, -, -, hat⟩ := (Spec.applies_iff hf).mp happ
  obtain ⟨hg, hn⟩ := and_e (Cond.before_iff.mp (show (Jvm.Cond.and given_1 narrow_1).before args s = true from hpre))
  obtain ⟨hg0, hgr0⟩ := and_e hg
  obtain ⟨hg1, hgr1⟩ := and_e hgr0
  obtain ⟨hg2, hgr2⟩ := and_e hgr1
  obtain ⟨hg3, hgr3⟩ := and_e hgr2
  obtain ⟨w0', w1', w2', w3', rfl⟩ : ∃ w0' w1' w2' w3' : Value, args = #[w0', w1', w2', w3'] := by
    have hs : args.size = 4 := by simpa [Cond.value, given_1] using hg0
    obtain ⟨L⟩ := args
    match L, hs with
    | [w0', w1', w2', w3'], _ => exact ⟨w0', w1', w2', w3', rfl⟩
  have hw : HW _ s := fun d (hd : d ∈ tables_1) => atoms_spec (ws := Jvm.Cond.code x code maxLocals ret :: tables_1) hat d (List.mem_cons_of_mem _ hd)
  have hfit : Fit s := fun {y c} hc i hi => by
    obtain ⟨ha, rfl⟩ := Array.getElem?_eq_some_iff.mp hc
    have q := List.all_eq_true.mp ((Array.all_eq_true_iff_forall_mem.mp hF) _ (Array.getElem_mem ha)) i (List.mem_range.mpr hi)
    simpa [Array.getElem?_eq_getElem hi] using q
  obtain ⟨hsets, hown0⟩ := atoms_of _ (rest_1_c_eq ▸ (show rest_1_c.before _ s = true from hrest))
  have hr0 := Cond.before_iff.mp hown0
  obtain ⟨i0, ei0⟩ := is_v hg1
  obtain rfl : w0' = (.int i0) := Option.some.inj ei0
  obtain ⟨i1, ei1⟩ := is_v hg2
  obtain rfl : w1' = (.int i1) := Option.some.inj ei1
  obtain ⟨i2, ei2⟩ := is_v hg3
  obtain rfl : w2' = (.int i2) := Option.some.inj ei2
  obtain ⟨i3, ei3⟩ := is_v hgr3
  obtain rfl : w3' = (.int i3) := Option.some.inj ei3
  obtain ⟨hx0, hn0⟩ := and_e hn
  obtain ⟨hx1, hn1⟩ := and_e hn0
  obtain ⟨hf0, hf1⟩ := and_e hn1
  obtain ⟨aS, S_S, E_S, ev_S⟩ := s_exa hx0 (w1 hw) (w2 hw)
  obtain ⟨aT, S_T, E_T, ev_T⟩ := s_exa hx1 (w1 hw) (w79 hw)
  obtain ⟨cs, S_CS, hcs⟩ := s_cs (hsets _ (List.mem_of_getElem? (i := 0) rfl)) (hsets _ (List.mem_of_getElem? (i := 1) rfl)) (hsets _ (List.mem_of_getElem? (i := 2) rfl))
  obtain ⟨n, o, h1, h2, h3, _, L, rfl, ⟨rfl, N⟩, hq⟩ := rm0 hw i0 i1 i2 i3 cs aT aS s.heap s.heap.size S_T S_S E_T E_S (Old.start s) S_CS hcs l p e ha hc hk s m _ below hf ((Spec.applies_iff_loose hf).mp happ).1 ⟨rfl, State.Warmed39.refl s, rfl⟩ trivial
  exact ⟨n, _, h1, h2, h3, hpost _ _ _ _ _ _ ⟨Cond.after_iff.mpr rfl, Cond.after_iff.mpr (eq_i res_at (Term.int_eval (1)) rfl), trivial⟩ ⟨hq.1, hq.2.1, (hq.2.2.sift fun y hy => Or.inr (N y hy)).mono (by decide) (by decide)⟩⟩
theorem main_1_1 : Claimed_1_1 := comes_1 fun _ _ _ _ _ _ h hF => ⟨h.1, hF⟩
theorem main_1_2 : Claimed_1_2 := comes_1 fun _ _ _ _ _ _ h hF => ⟨h.2.1, hF⟩
end Jvm.Pilot.@@N@@
namespace Jvm.Pilot.@@N@@
open Jvm Jvm.ClassFile Sem Op Lib Jvm.Free Jvm.Stand Jvm.Pilot.@@N@@.Jvm.D
/-! MADE BY PROGRAM (witnessworld.py) out of the Statement's table words and the real class files: 23 classes; the members and pool entries that the words name. The judged class is class 1, her method 2. -/
namespace start1
open Jvm.ClassFile
def u (s : String) : CpInfo := .utf8 (stringToUtf16 s)
/-- a pool by its gaps: so many unusable entries, then the entry; so many at the end -/
def gap : Nat → List CpInfo → List CpInfo
  | 0, r => r
  | n + 1, r => .unusable :: gap n r
def poolList (es : List (Nat × CpInfo)) (last : Nat) : List CpInfo := es.foldr (fun e r => gap e.1 (e.2 :: r)) (gap last [])
def pool (es : List (Nat × CpInfo)) (last : Nat) : Array CpInfo := ⟨poolList es last⟩
def fileOf (pool : Array CpInfo) (this : Nat) (attrs : Array Attribute := #[]) (ms : Array MethodInfo := #[]) (fl : Nat := 33) (sup : Nat := 0) (ifs : Array Nat := #[]) (fds : Array FieldInfo := #[]) : ClassFile where
  minorVersion := 0
  majorVersion := 65
  constantPool := pool
  accessFlags := fl
  thisClass := this
  superClass := sup
  interfaces := ifs
  fields := fds
  methods := ms
  attributes := attrs
def plain (name : String) (sup : Option ClassId) : Class where
  name := name
  kind := .ordinary
  loader := none
  accessFlags := 33
  super := sup
  interfaces := #[]
  cf := none
  fields := #[]
  methods := #[]
  instanceTypes := #[]
  staticTypes := #[]
  resolved := #[]
  callSites := []
  init := .initialized
  statics := none
  mirror := none

def pool0 : Array CpInfo := pool [(5, u "<init>"), (0, u "()V"), (1, .class_ 10), (1, u "java/lang/Object")] 113

def k0c0 : Code := { maxStack := 0, maxLocals := 1, code := object_method_1_code, exceptionTable := #[], attributes := #[] }
def k0m0 : Method := { name := "<init>", desc := "()V", sig := { parameters := [], returnType := none }, accessFlags := 1, code := some k0c0 }
/-- java/lang/Object -/
def k0 : Class := { plain "java/lang/Object" none with
  accessFlags := 33
  interfaces := #[]
  cf := some (fileOf pool0 8 #[] #[{ accessFlags := 1, nameIndex := 5, descriptorIndex := 6, attributes := #[] }] 33 0 #[] #[])
  fields := #[]
  methods := #[k0m0]
  instanceTypes := #[]
  staticTypes := #[]
  resolved := Array.replicate 124 none
  statics := none }

def pool1 : Array CpInfo := pool [(2, .class_ 4), (1, u "java/lang/Object"), (0, u "<init>"), (0, u "()V"), (0, .class_ 8), (0, u "java/lang/String"), (0, .methodref 7 10), (0, .nameAndType 5 11), (0, u "([C)V"), (0, .fieldref 13 14), (0, .class_ 15), (0, .nameAndType 16 17), (0, u "com/example/tariffwright/tariffwright/core/AreaKind"), (0, u "TRANSMISSION_DISTRICT"), (0, u "Lcom/example/tariffwright/tariffwright/core/AreaKind;"), (0, .fieldref 13 19), (0, .nameAndType 20 17), (0, u "SUBZONE"), (0, .methodref 22 23), (0, .class_ 24), (0, .nameAndType 25 26), (0, u "com/example/tariffwright/tariffwright/core/AreaEqualsPinLaw"), (0, u "mk"), (0, u "(II)Ljava/lang/String;"), (0, .class_ 28), (0, u "com/example/tariffwright/tariffwright/core/Area"), (0, .methodref 27 30), (0, .nameAndType 5 31), (0, u "(Lcom/example/tariffwright/tariffwright/core/AreaKind;Ljava/lang/String;)V"), (0, .methodref 27 33), (0, .nameAndType 34 35), (0, u "equals"), (0, u "(Ljava/lang/Object;)Z"), (3, u "law"), (0, u "(IIII)Z")] 2

def k1m0 : Method := { name := "<init>", desc := "()V", sig := { parameters := [], returnType := none }, accessFlags := 1, code := none }
def k1c1 : Code := { maxStack := 6, maxLocals := 5, code := method_2_code, exceptionTable := #[], attributes := #[] }
def k1m1 : Method := { name := "mk", desc := "(II)Ljava/lang/String;", sig := { parameters := [.int, .int], returnType := some (.object "java/lang/String") }, accessFlags := 10, code := some k1c1 }
def k1c2 : Code := { maxStack := 4, maxLocals := 16, code := code, exceptionTable := #[], attributes := #[] }
def k1m2 : Method := { name := "law", desc := "(IIII)Z", sig := { parameters := [.int, .int, .int, .int], returnType := some .boolean }, accessFlags := 9, code := some k1c2 }
/-- com/example/tariffwright/tariffwright/core/AreaEqualsPinLaw -/
def k1 : Class := { plain "com/example/tariffwright/tariffwright/core/AreaEqualsPinLaw" (some 0) with
  accessFlags := 49
  interfaces := #[]
  cf := some (fileOf pool1 22 #[] #[{ accessFlags := 1, nameIndex := 5, descriptorIndex := 6, attributes := #[] }, { accessFlags := 10, nameIndex := 25, descriptorIndex := 26, attributes := #[] }, { accessFlags := 9, nameIndex := 39, descriptorIndex := 40, attributes := #[] }] 49 2 #[] #[])
  fields := #[]
  methods := #[k1m0, k1m1, k1m2]
  instanceTypes := #[]
  staticTypes := #[]
  resolved := Array.replicate 43 none
  statics := none }

def pool2 : Array CpInfo := pool [(1, .class_ 2), (0, u "java/lang/constant/Constable"), (0, .class_ 4), (0, u "java/lang/Object")] 6

/-- java/lang/constant/Constable -/
def k2 : Class := { plain "java/lang/constant/Constable" (some 0) with
  accessFlags := 1537
  interfaces := #[]
  cf := some (fileOf pool2 1 #[] #[] 1537 3 #[] #[])
  fields := #[]
  methods := #[]
  instanceTypes := #[]
  staticTypes := #[]
  resolved := Array.replicate 11 none
  statics := none }

def pool3 : Array CpInfo := pool [(1, .class_ 2), (0, u "java/lang/Comparable"), (0, .class_ 4), (0, u "java/lang/Object")] 7

/-- java/lang/Comparable -/
def k3 : Class := { plain "java/lang/Comparable" (some 0) with
  accessFlags := 1537
  interfaces := #[]
  cf := some (fileOf pool3 1 #[] #[] 1537 3 #[] #[])
  fields := #[]
  methods := #[]
  instanceTypes := #[]
  staticTypes := #[]
  resolved := Array.replicate 12 none
  statics := none }

def pool4 : Array CpInfo := pool [(1, .class_ 2), (0, u "java/io/Serializable"), (0, .class_ 4), (0, u "java/lang/Object")] 2

/-- java/io/Serializable -/
def k4 : Class := { plain "java/io/Serializable" (some 0) with
  accessFlags := 1537
  interfaces := #[]
  cf := some (fileOf pool4 1 #[] #[] 1537 3 #[] #[])
  fields := #[]
  methods := #[]
  instanceTypes := #[]
  staticTypes := #[]
  resolved := Array.replicate 7 none
  statics := none }

def pool5 : Array CpInfo := pool [(2, .class_ 4), (1, u "java/lang/Enum"), (0, u "name"), (0, u "Ljava/lang/String;"), (2, u "ordinal"), (0, u "I"), (1, .class_ 14), (1, u "java/lang/Object"), (4, u "hash"), (86, .class_ 108), (1, u "java/lang/Enum$EnumDesc"), (2, .class_ 112), (0, u "java/lang/constant/Constable"), (0, .class_ 114), (0, u "java/lang/Comparable"), (0, .class_ 116), (0, u "java/io/Serializable")] 87

/-- java/lang/Enum -/
def k5 : Class := { plain "java/lang/Enum" (some 0) with
  accessFlags := 1057
  interfaces := #[2, 3, 4]
  cf := some (fileOf pool5 2 #[.nestMembers #[106]] #[] 1057 12 #[111, 113, 115] #[{ accessFlags := 18, nameIndex := 5, descriptorIndex := 6, attributes := #[] }, { accessFlags := 18, nameIndex := 9, descriptorIndex := 10, attributes := #[] }, { accessFlags := 2, nameIndex := 19, descriptorIndex := 10, attributes := #[] }])
  fields := #[{ name := "name", type := (.object "java/lang/String"), accessFlags := 18, slot := 0, constantValue := 0 }, { name := "ordinal", type := .int, accessFlags := 18, slot := 1, constantValue := 0 }, { name := "hash", type := .int, accessFlags := 2, slot := 2, constantValue := 0 }]
  methods := #[]
  instanceTypes := #[(.object "java/lang/String"), .int, .int]
  staticTypes := #[]
  resolved := Array.replicate 204 none
  statics := none }

def pool6 : Array CpInfo := pool [(1, .class_ 2), (0, u "com/example/tariffwright/tariffwright/core/AreaKind"), (2, u "SUBZONE"), (0, u "Lcom/example/tariffwright/tariffwright/core/AreaKind;"), (2, u "TRANSMISSION_DISTRICT"), (2, u "$VALUES"), (0, u "[Lcom/example/tariffwright/tariffwright/core/AreaKind;"), (6, .class_ 22), (1, u "java/lang/Enum"), (8, u "column"), (0, u "Ljava/lang/String;"), (2, u "title")] 31

/-- com/example/tariffwright/tariffwright/core/AreaKind -/
def k6 : Class := { plain "com/example/tariffwright/tariffwright/core/AreaKind" (some 5) with
  accessFlags := 16433
  interfaces := #[]
  cf := some (fileOf pool6 1 #[] #[] 16433 20 #[] #[{ accessFlags := 16409, nameIndex := 5, descriptorIndex := 6, attributes := #[] }, { accessFlags := 16409, nameIndex := 9, descriptorIndex := 6, attributes := #[] }, { accessFlags := 18, nameIndex := 31, descriptorIndex := 32, attributes := #[] }, { accessFlags := 18, nameIndex := 35, descriptorIndex := 32, attributes := #[] }, { accessFlags := 4122, nameIndex := 12, descriptorIndex := 13, attributes := #[] }])
  fields := #[{ name := "SUBZONE", type := (.object "com/example/tariffwright/tariffwright/core/AreaKind"), accessFlags := 16409, slot := 0, constantValue := 0 }, { name := "TRANSMISSION_DISTRICT", type := (.object "com/example/tariffwright/tariffwright/core/AreaKind"), accessFlags := 16409, slot := 1, constantValue := 0 }, { name := "column", type := (.object "java/lang/String"), accessFlags := 18, slot := 3, constantValue := 0 }, { name := "title", type := (.object "java/lang/String"), accessFlags := 18, slot := 4, constantValue := 0 }, { name := "$VALUES", type := (.array (.object "com/example/tariffwright/tariffwright/core/AreaKind")), accessFlags := 4122, slot := 2, constantValue := 0 }]
  methods := #[]
  instanceTypes := #[(.object "java/lang/String"), .int, .int, (.object "java/lang/String"), (.object "java/lang/String")]
  staticTypes := #[(.object "com/example/tariffwright/tariffwright/core/AreaKind"), (.object "com/example/tariffwright/tariffwright/core/AreaKind"), (.array (.object "com/example/tariffwright/tariffwright/core/AreaKind"))]
  resolved := Array.replicate 67 none
  statics := some 0 }

def pool7 : Array CpInfo := pool [(2, .class_ 4), (1, u "java/lang/CharSequence"), (42, .class_ 48), (0, u "java/lang/CharSequence$1CodePointIterator"), (10, .class_ 60), (0, u "java/lang/CharSequence$1CharIterator"), (5, .class_ 67), (0, u "java/lang/Object")] 63

/-- java/lang/CharSequence -/
def k7 : Class := { plain "java/lang/CharSequence" (some 0) with
  accessFlags := 1537
  interfaces := #[]
  cf := some (fileOf pool7 2 #[.nestMembers #[47, 59]] #[] 1537 66 #[] #[])
  fields := #[]
  methods := #[]
  instanceTypes := #[]
  staticTypes := #[]
  resolved := Array.replicate 131 none
  statics := none }

def pool8 : Array CpInfo := pool [(1, .class_ 2), (0, u "java/lang/constant/ConstantDesc"), (0, .class_ 4), (0, u "java/lang/Object")] 32

/-- java/lang/constant/ConstantDesc -/
def k8 : Class := { plain "java/lang/constant/ConstantDesc" (some 0) with
  accessFlags := 1537
  interfaces := #[]
  cf := some (fileOf pool8 1 #[] #[] 1537 3 #[] #[])
  fields := #[]
  methods := #[]
  instanceTypes := #[]
  staticTypes := #[]
  resolved := Array.replicate 37 none
  statics := none }

def pool9 : Array CpInfo := pool [(1, .methodref 2 3), (0, .class_ 4), (0, .nameAndType 5 6), (0, u "java/lang/Object"), (0, u "<init>"), (0, u "()V"), (2, .fieldref 10 11), (0, .class_ 12), (0, .nameAndType 13 14), (0, u "java/lang/String"), (0, u "value"), (0, u "[B"), (0, .fieldref 10 16), (0, .nameAndType 17 18), (0, u "coder"), (0, u "B"), (2, u "hash"), (0, u "I"), (2, u "hashIsZero"), (0, u "Z"), (0, .methodref 10 28), (0, .nameAndType 5 29), (0, u "([CIILjava/lang/Void;)V"), (8, .fieldref 10 39), (0, .nameAndType 40 26), (0, u "COMPACT_STRINGS"), (1, .class_ 44), (1, u "java/lang/StringUTF16"), (0, u "compress"), (1, .methodref 42 48), (0, .nameAndType 49 50), (0, u "coderFromArrayLen"), (0, u "([BI)B"), (56, .class_ 109), (1, u "java/lang/StringLatin1"), (32, u "()Z"), (34, .methodref 42 178), (0, .nameAndType 45 179), (0, u "([CII)[B"), (361, .methodref 107 542), (0, .nameAndType 543 544), (0, u "equals"), (0, u "([B[B)Z"), (28, u "(Ljava/lang/Object;)Z"), (1, .class_ 576), (0, u "java/lang/CharSequence"), (22, u "CASE_INSENSITIVE_ORDER"), (0, u "Ljava/util/Comparator;"), (91, u "isEmpty"), (317, u "([C)V"), (90, u "serialPersistentFields"), (0, u "[Ljava/io/ObjectStreamField;"), (0, .class_ 1104), (0, u "java/lang/String$CaseInsensitiveComparator"), (1, .class_ 1107), (0, u "java/io/Serializable"), (0, .class_ 1109), (0, u "java/lang/Comparable"), (0, .class_ 1111), (0, u "java/lang/constant/Constable"), (0, .class_ 1113), (0, u "java/lang/constant/ConstantDesc"), (2, u "serialVersionUID"), (0, u "J"), (3, u "REPL"), (0, u "C"), (2, u "LATIN1"), (1, u "UTF16")] 323

def k9m0 : Method := { name := "<init>", desc := "()V", sig := { parameters := [], returnType := none }, accessFlags := 1, code := none }
def k9c1 : Code := { maxStack := 5, maxLocals := 2, code := jdk_42_method_3_code, exceptionTable := #[], attributes := #[] }
def k9m1 : Method := { name := "<init>", desc := "([C)V", sig := { parameters := [(.array .char)], returnType := none }, accessFlags := 1, code := some k9c1 }
def k9c2 : Code := { maxStack := 1, maxLocals := 1, code := jdk_42_method_55_code, exceptionTable := #[], attributes := #[] }
def k9m2 : Method := { name := "isEmpty", desc := "()Z", sig := { parameters := [], returnType := some .boolean }, accessFlags := 1, code := some k9c2 }
def k9c3 : Code := { maxStack := 2, maxLocals := 3, code := jdk_42_method_66_code, exceptionTable := #[], attributes := #[] }
def k9m3 : Method := { name := "equals", desc := "(Ljava/lang/Object;)Z", sig := { parameters := [(.object "java/lang/Object")], returnType := some .boolean }, accessFlags := 1, code := some k9c3 }
def k9c4 : Code := { maxStack := 4, maxLocals := 6, code := jdk_42_method_149_code, exceptionTable := #[], attributes := #[] }
def k9m4 : Method := { name := "<init>", desc := "([CIILjava/lang/Void;)V", sig := { parameters := [(.array .char), .int, .int, (.object "java/lang/Void")], returnType := none }, accessFlags := 2, code := some k9c4 }
/-- java/lang/String -/
def k9 : Class := { plain "java/lang/String" (some 0) with
  accessFlags := 49
  interfaces := #[4, 3, 7, 2, 8]
  cf := some (fileOf pool9 10 #[.nestMembers #[1103]] #[{ accessFlags := 1, nameIndex := 5, descriptorIndex := 6, attributes := #[] }, { accessFlags := 1, nameIndex := 5, descriptorIndex := 1010, attributes := #[] }, { accessFlags := 1, nameIndex := 692, descriptorIndex := 142, attributes := #[] }, { accessFlags := 1, nameIndex := 543, descriptorIndex := 573, attributes := #[] }, { accessFlags := 2, nameIndex := 5, descriptorIndex := 29, attributes := #[] }] 49 2 #[1106, 1108, 575, 1110, 1112] #[{ accessFlags := 18, nameIndex := 13, descriptorIndex := 14, attributes := #[] }, { accessFlags := 18, nameIndex := 17, descriptorIndex := 18, attributes := #[] }, { accessFlags := 2, nameIndex := 21, descriptorIndex := 22, attributes := #[] }, { accessFlags := 2, nameIndex := 25, descriptorIndex := 26, attributes := #[] }, { accessFlags := 26, nameIndex := 1116, descriptorIndex := 1117, attributes := #[] }, { accessFlags := 24, nameIndex := 40, descriptorIndex := 26, attributes := #[] }, { accessFlags := 26, nameIndex := 1101, descriptorIndex := 1102, attributes := #[] }, { accessFlags := 26, nameIndex := 1121, descriptorIndex := 1122, attributes := #[] }, { accessFlags := 25, nameIndex := 599, descriptorIndex := 600, attributes := #[] }, { accessFlags := 24, nameIndex := 1125, descriptorIndex := 18, attributes := #[] }, { accessFlags := 24, nameIndex := 1127, descriptorIndex := 18, attributes := #[] }])
  fields := #[{ name := "value", type := (.array .byte), accessFlags := 18, slot := 0, constantValue := 0 }, { name := "coder", type := .byte, accessFlags := 18, slot := 1, constantValue := 0 }, { name := "hash", type := .int, accessFlags := 2, slot := 2, constantValue := 0 }, { name := "hashIsZero", type := .boolean, accessFlags := 2, slot := 3, constantValue := 0 }, { name := "serialVersionUID", type := .long, accessFlags := 26, slot := 0, constantValue := 0 }, { name := "COMPACT_STRINGS", type := .boolean, accessFlags := 24, slot := 1, constantValue := 0 }, { name := "serialPersistentFields", type := (.array (.object "java/io/ObjectStreamField")), accessFlags := 26, slot := 2, constantValue := 0 }, { name := "REPL", type := .char, accessFlags := 26, slot := 3, constantValue := 0 }, { name := "CASE_INSENSITIVE_ORDER", type := (.object "java/util/Comparator"), accessFlags := 25, slot := 4, constantValue := 0 }, { name := "LATIN1", type := .byte, accessFlags := 24, slot := 5, constantValue := 0 }, { name := "UTF16", type := .byte, accessFlags := 24, slot := 6, constantValue := 0 }]
  methods := #[k9m0, k9m1, k9m2, k9m3, k9m4]
  instanceTypes := #[(.array .byte), .byte, .int, .boolean]
  staticTypes := #[.long, .boolean, (.array (.object "java/io/ObjectStreamField")), .char, (.object "java/util/Comparator"), .byte, .byte]
  resolved := Array.replicate 1451 none
  statics := some 1 }

def pool10 : Array CpInfo := pool [(6, .class_ 8), (1, u "java/lang/Object"), (0, u "<init>"), (0, u "()V"), (1, .class_ 14), (1, u "java/lang/StringUTF16"), (31, u "$assertionsDisabled"), (0, u "Z"), (13, u "HI_BYTE_SHIFT"), (0, u "I"), (2, u "LO_BYTE_SHIFT"), (49, .methodref 12 116), (0, .nameAndType 117 118), (0, u "compress"), (0, u "([CI[BII)I"), (3, u "([CII)[B"), (138, u "coderFromArrayLen"), (0, u "([BI)B"), (106, .class_ 371), (1, u "java/lang/StringUTF16$LinesSpliterator"), (58, u "MAX_LENGTH"), (196, .class_ 628), (0, u "java/lang/StringUTF16$CodePointsSpliterator"), (0, .class_ 630), (0, u "java/lang/StringUTF16$CharsSpliterator")] 4

def k10m0 : Method := { name := "<init>", desc := "()V", sig := { parameters := [], returnType := none }, accessFlags := 0, code := none }
def k10c1 : Code := { maxStack := 2, maxLocals := 2, code := jdk_52_method_15_code, exceptionTable := #[], attributes := #[] }
def k10m1 : Method := { name := "coderFromArrayLen", desc := "([BI)B", sig := { parameters := [(.array .byte), .int], returnType := some .byte }, accessFlags := 8, code := some k10c1 }
def k10c2 : Code := { maxStack := 5, maxLocals := 6, code := jdk_52_method_16_code, exceptionTable := #[], attributes := #[] }
def k10m2 : Method := { name := "compress", desc := "([CII)[B", sig := { parameters := [(.array .char), .int, .int], returnType := some (.array .byte) }, accessFlags := 9, code := some k10c2 }
def k10c3 : Code := { maxStack := 3, maxLocals := 7, code := jdk_52_method_21_code, exceptionTable := #[], attributes := #[] }
def k10m3 : Method := { name := "compress", desc := "([CI[BII)I", sig := { parameters := [(.array .char), .int, (.array .byte), .int, .int], returnType := some .int }, accessFlags := 9, code := some k10c3 }
/-- java/lang/StringUTF16 -/
def k10 : Class := { plain "java/lang/StringUTF16" (some 0) with
  accessFlags := 48
  interfaces := #[]
  cf := some (fileOf pool10 12 #[.nestMembers #[627, 629, 369]] #[{ accessFlags := 0, nameIndex := 9, descriptorIndex := 10, attributes := #[] }, { accessFlags := 8, nameIndex := 261, descriptorIndex := 262, attributes := #[] }, { accessFlags := 9, nameIndex := 117, descriptorIndex := 122, attributes := #[] }, { accessFlags := 9, nameIndex := 117, descriptorIndex := 118, attributes := #[] }] 48 6 #[] #[{ accessFlags := 26, nameIndex := 61, descriptorIndex := 62, attributes := #[] }, { accessFlags := 26, nameIndex := 65, descriptorIndex := 62, attributes := #[] }, { accessFlags := 24, nameIndex := 430, descriptorIndex := 62, attributes := #[] }, { accessFlags := 4120, nameIndex := 46, descriptorIndex := 47, attributes := #[] }])
  fields := #[{ name := "HI_BYTE_SHIFT", type := .int, accessFlags := 26, slot := 0, constantValue := 0 }, { name := "LO_BYTE_SHIFT", type := .int, accessFlags := 26, slot := 1, constantValue := 0 }, { name := "MAX_LENGTH", type := .int, accessFlags := 24, slot := 2, constantValue := 0 }, { name := "$assertionsDisabled", type := .boolean, accessFlags := 4120, slot := 3, constantValue := 0 }]
  methods := #[k10m0, k10m1, k10m2, k10m3]
  instanceTypes := #[]
  staticTypes := #[.int, .int, .int, .boolean]
  resolved := Array.replicate 635 none
  statics := none }

def pool11 : Array CpInfo := pool [(1, .methodref 2 3), (0, .class_ 4), (0, .nameAndType 5 6), (0, u "java/lang/Object"), (0, u "<init>"), (0, u "()V"), (0, .methodref 8 9), (0, .class_ 10), (0, .nameAndType 11 12), (0, u "java/lang/String"), (0, u "isEmpty"), (0, u "()Z"), (13, .methodref 27 28), (0, .class_ 29), (0, .nameAndType 30 31), (0, u "java/util/Objects"), (0, u "requireNonNull"), (0, u "(Ljava/lang/Object;)Ljava/lang/Object;"), (0, .class_ 33), (0, u "com/example/tariffwright/tariffwright/core/AreaKind"), (0, .fieldref 35 36), (0, .class_ 37), (0, .nameAndType 38 39), (0, u "com/example/tariffwright/tariffwright/core/Area"), (0, u "kind"), (0, u "Lcom/example/tariffwright/tariffwright/core/AreaKind;"), (0, .fieldref 35 41), (0, .nameAndType 42 43), (0, u "name"), (0, u "Ljava/lang/String;"), (0, .methodref 8 45), (0, .nameAndType 46 47), (0, u "equals"), (0, u "(Ljava/lang/Object;)Z"), (7, u "(Lcom/example/tariffwright/tariffwright/core/AreaKind;Ljava/lang/String;)V")] 27

def k11c0 : Code := { maxStack := 3, maxLocals := 3, code := prog_31_method_1_code, exceptionTable := #[], attributes := #[] }
def k11m0 : Method := { name := "<init>", desc := "(Lcom/example/tariffwright/tariffwright/core/AreaKind;Ljava/lang/String;)V", sig := { parameters := [(.object "com/example/tariffwright/tariffwright/core/AreaKind"), (.object "java/lang/String")], returnType := none }, accessFlags := 1, code := some k11c0 }
def k11c1 : Code := { maxStack := 2, maxLocals := 3, code := prog_31_method_4_code, exceptionTable := #[], attributes := #[] }
def k11m1 : Method := { name := "equals", desc := "(Ljava/lang/Object;)Z", sig := { parameters := [(.object "java/lang/Object")], returnType := some .boolean }, accessFlags := 1, code := some k11c1 }
/-- com/example/tariffwright/tariffwright/core/Area -/
def k11 : Class := { plain "com/example/tariffwright/tariffwright/core/Area" (some 0) with
  accessFlags := 33
  interfaces := #[]
  cf := some (fileOf pool11 35 #[] #[{ accessFlags := 1, nameIndex := 5, descriptorIndex := 55, attributes := #[] }, { accessFlags := 1, nameIndex := 46, descriptorIndex := 47, attributes := #[] }] 33 2 #[] #[{ accessFlags := 18, nameIndex := 38, descriptorIndex := 39, attributes := #[] }, { accessFlags := 18, nameIndex := 42, descriptorIndex := 43, attributes := #[] }])
  fields := #[{ name := "kind", type := (.object "com/example/tariffwright/tariffwright/core/AreaKind"), accessFlags := 18, slot := 0, constantValue := 0 }, { name := "name", type := (.object "java/lang/String"), accessFlags := 18, slot := 1, constantValue := 0 }]
  methods := #[k11m0, k11m1]
  instanceTypes := #[(.object "com/example/tariffwright/tariffwright/core/AreaKind"), (.object "java/lang/String")]
  staticTypes := #[]
  resolved := Array.replicate 83 none
  statics := none }

def pool12 : Array CpInfo := pool [(2, .class_ 4), (1, u "java/lang/Object"), (0, u "<init>"), (0, u "()V"), (35, .class_ 44), (1, u "java/util/Objects"), (0, u "requireNonNull"), (0, u "(Ljava/lang/Object;)Ljava/lang/Object;")] 137

def k12m0 : Method := { name := "<init>", desc := "()V", sig := { parameters := [], returnType := none }, accessFlags := 2, code := none }
def k12c1 : Code := { maxStack := 2, maxLocals := 1, code := jdk_31_method_10_code, exceptionTable := #[], attributes := #[] }
def k12m1 : Method := { name := "requireNonNull", desc := "(Ljava/lang/Object;)Ljava/lang/Object;", sig := { parameters := [(.object "java/lang/Object")], returnType := some (.object "java/lang/Object") }, accessFlags := 9, code := some k12c1 }
/-- java/util/Objects -/
def k12 : Class := { plain "java/util/Objects" (some 0) with
  accessFlags := 49
  interfaces := #[]
  cf := some (fileOf pool12 42 #[] #[{ accessFlags := 2, nameIndex := 5, descriptorIndex := 6, attributes := #[] }, { accessFlags := 9, nameIndex := 45, descriptorIndex := 46, attributes := #[] }] 49 2 #[] #[])
  fields := #[]
  methods := #[k12m0, k12m1]
  instanceTypes := #[]
  staticTypes := #[]
  resolved := Array.replicate 184 none
  statics := none }

def pool13 : Array CpInfo := pool [(4, .class_ 6), (1, u "java/lang/Object"), (0, u "<init>"), (0, u "()V"), (5, .class_ 16), (1, u "java/lang/StringLatin1"), (104, u "$assertionsDisabled"), (0, u "Z"), (98, .class_ 223), (1, u "java/lang/StringLatin1$LinesSpliterator"), (57, u "equals"), (0, u "([B[B)Z"), (107, .class_ 391), (0, u "java/lang/StringLatin1$CharsSpliterator")] 3

def k13m0 : Method := { name := "<init>", desc := "()V", sig := { parameters := [], returnType := none }, accessFlags := 0, code := none }
def k13c1 : Code := { maxStack := 3, maxLocals := 3, code := jdk_43_method_13_code, exceptionTable := #[], attributes := #[] }
def k13m1 : Method := { name := "equals", desc := "([B[B)Z", sig := { parameters := [(.array .byte), (.array .byte)], returnType := some .boolean }, accessFlags := 9, code := some k13c1 }
/-- java/lang/StringLatin1 -/
def k13 : Class := { plain "java/lang/StringLatin1" (some 0) with
  accessFlags := 48
  interfaces := #[]
  cf := some (fileOf pool13 14 #[.nestMembers #[390, 221]] #[{ accessFlags := 0, nameIndex := 7, descriptorIndex := 8, attributes := #[] }, { accessFlags := 9, nameIndex := 281, descriptorIndex := 282, attributes := #[] }] 48 4 #[] #[{ accessFlags := 4120, nameIndex := 121, descriptorIndex := 122, attributes := #[] }])
  fields := #[{ name := "$assertionsDisabled", type := .boolean, accessFlags := 4120, slot := 0, constantValue := 0 }]
  methods := #[k13m0, k13m1]
  instanceTypes := #[]
  staticTypes := #[.boolean]
  resolved := Array.replicate 395 none
  statics := none }

def pool14 : Array CpInfo := pool [(2, .class_ 4), (1, u "java/lang/Object"), (0, u "<init>"), (0, u "()V"), (17, .class_ 26), (1, u "jdk/internal/util/Preconditions"), (28, .class_ 56), (0, u "jdk/internal/util/Preconditions$4"), (57, .class_ 115), (0, u "jdk/internal/util/Preconditions$1"), (7, u "SIOOBE_FORMATTER"), (0, u "Ljava/util/function/BiFunction;"), (0, .class_ 126), (0, u "jdk/internal/util/Preconditions$2"), (3, u "AIOOBE_FORMATTER"), (0, .class_ 132), (0, u "jdk/internal/util/Preconditions$3"), (3, u "IOOBE_FORMATTER")] 57

def k14m0 : Method := { name := "<init>", desc := "()V", sig := { parameters := [], returnType := none }, accessFlags := 1, code := none }
/-- jdk/internal/util/Preconditions -/
def k14 : Class := { plain "jdk/internal/util/Preconditions" (some 0) with
  accessFlags := 33
  interfaces := #[]
  cf := some (fileOf pool14 24 #[.nestMembers #[55, 131, 125, 114]] #[{ accessFlags := 1, nameIndex := 5, descriptorIndex := 6, attributes := #[] }] 33 2 #[] #[{ accessFlags := 25, nameIndex := 123, descriptorIndex := 124, attributes := #[] }, { accessFlags := 25, nameIndex := 130, descriptorIndex := 124, attributes := #[] }, { accessFlags := 25, nameIndex := 136, descriptorIndex := 124, attributes := #[] }])
  fields := #[{ name := "SIOOBE_FORMATTER", type := (.object "java/util/function/BiFunction"), accessFlags := 25, slot := 0, constantValue := 0 }, { name := "AIOOBE_FORMATTER", type := (.object "java/util/function/BiFunction"), accessFlags := 25, slot := 1, constantValue := 0 }, { name := "IOOBE_FORMATTER", type := (.object "java/util/function/BiFunction"), accessFlags := 25, slot := 2, constantValue := 0 }]
  methods := #[k14m0]
  instanceTypes := #[]
  staticTypes := #[(.object "java/util/function/BiFunction"), (.object "java/util/function/BiFunction"), (.object "java/util/function/BiFunction")]
  resolved := Array.replicate 194 none
  statics := some 2 }

def pool15 : Array CpInfo := pool [(9, u "<init>"), (6, .class_ 18), (1, u "java/lang/Object"), (0, u "()V"), (1, .class_ 23), (1, u "jdk/internal/util/ArraysSupport"), (0, u "LOG2_ARRAY_LONG_INDEX_SCALE"), (0, u "I"), (2, u "U"), (0, u "Ljdk/internal/misc/Unsafe;"), (8, u "BIG_ENDIAN"), (0, u "Z"), (8, u "LOG2_BYTE_BIT_SIZE"), (4, u "LOG2_ARRAY_INT_INDEX_SCALE"), (54, u "JLA"), (0, u "Ljdk/internal/access/JavaLangAccess;"), (11, u "LOG2_ARRAY_BOOLEAN_INDEX_SCALE"), (9, u "LOG2_ARRAY_BYTE_INDEX_SCALE"), (5, u "LOG2_ARRAY_CHAR_INDEX_SCALE"), (5, u "LOG2_ARRAY_SHORT_INDEX_SCALE"), (18, u "LOG2_ARRAY_FLOAT_INDEX_SCALE"), (24, u "LOG2_ARRAY_DOUBLE_INDEX_SCALE"), (89, u "T_BOOLEAN"), (2, u "T_CHAR"), (1, u "T_FLOAT"), (1, u "T_DOUBLE"), (1, u "T_BYTE"), (1, u "T_SHORT"), (1, u "T_INT"), (1, u "T_LONG"), (1, u "SOFT_MAX_ARRAY_LENGTH")] 83

def k15m0 : Method := { name := "<init>", desc := "()V", sig := { parameters := [], returnType := none }, accessFlags := 2, code := none }
/-- jdk/internal/util/ArraysSupport -/
def k15 : Class := { plain "jdk/internal/util/ArraysSupport" (some 0) with
  accessFlags := 33
  interfaces := #[]
  cf := some (fileOf pool15 21 #[] #[{ accessFlags := 2, nameIndex := 9, descriptorIndex := 19, attributes := #[] }] 33 16 #[] #[{ accessFlags := 24, nameIndex := 28, descriptorIndex := 29, attributes := #[] }, { accessFlags := 26, nameIndex := 38, descriptorIndex := 39, attributes := #[] }, { accessFlags := 25, nameIndex := 121, descriptorIndex := 25, attributes := #[] }, { accessFlags := 25, nameIndex := 131, descriptorIndex := 25, attributes := #[] }, { accessFlags := 25, nameIndex := 137, descriptorIndex := 25, attributes := #[] }, { accessFlags := 25, nameIndex := 143, descriptorIndex := 25, attributes := #[] }, { accessFlags := 25, nameIndex := 53, descriptorIndex := 25, attributes := #[] }, { accessFlags := 25, nameIndex := 24, descriptorIndex := 25, attributes := #[] }, { accessFlags := 25, nameIndex := 162, descriptorIndex := 25, attributes := #[] }, { accessFlags := 25, nameIndex := 187, descriptorIndex := 25, attributes := #[] }, { accessFlags := 26, nameIndex := 48, descriptorIndex := 25, attributes := #[] }, { accessFlags := 25, nameIndex := 277, descriptorIndex := 25, attributes := #[] }, { accessFlags := 25, nameIndex := 280, descriptorIndex := 25, attributes := #[] }, { accessFlags := 25, nameIndex := 282, descriptorIndex := 25, attributes := #[] }, { accessFlags := 25, nameIndex := 284, descriptorIndex := 25, attributes := #[] }, { accessFlags := 25, nameIndex := 286, descriptorIndex := 25, attributes := #[] }, { accessFlags := 25, nameIndex := 288, descriptorIndex := 25, attributes := #[] }, { accessFlags := 25, nameIndex := 290, descriptorIndex := 25, attributes := #[] }, { accessFlags := 25, nameIndex := 292, descriptorIndex := 25, attributes := #[] }, { accessFlags := 26, nameIndex := 108, descriptorIndex := 109, attributes := #[] }, { accessFlags := 25, nameIndex := 294, descriptorIndex := 25, attributes := #[] }])
  fields := #[{ name := "U", type := (.object "jdk/internal/misc/Unsafe"), accessFlags := 24, slot := 0, constantValue := 0 }, { name := "BIG_ENDIAN", type := .boolean, accessFlags := 26, slot := 1, constantValue := 0 }, { name := "LOG2_ARRAY_BOOLEAN_INDEX_SCALE", type := .int, accessFlags := 25, slot := 2, constantValue := 0 }, { name := "LOG2_ARRAY_BYTE_INDEX_SCALE", type := .int, accessFlags := 25, slot := 3, constantValue := 0 }, { name := "LOG2_ARRAY_CHAR_INDEX_SCALE", type := .int, accessFlags := 25, slot := 4, constantValue := 0 }, { name := "LOG2_ARRAY_SHORT_INDEX_SCALE", type := .int, accessFlags := 25, slot := 5, constantValue := 0 }, { name := "LOG2_ARRAY_INT_INDEX_SCALE", type := .int, accessFlags := 25, slot := 6, constantValue := 0 }, { name := "LOG2_ARRAY_LONG_INDEX_SCALE", type := .int, accessFlags := 25, slot := 7, constantValue := 0 }, { name := "LOG2_ARRAY_FLOAT_INDEX_SCALE", type := .int, accessFlags := 25, slot := 8, constantValue := 0 }, { name := "LOG2_ARRAY_DOUBLE_INDEX_SCALE", type := .int, accessFlags := 25, slot := 9, constantValue := 0 }, { name := "LOG2_BYTE_BIT_SIZE", type := .int, accessFlags := 26, slot := 10, constantValue := 0 }, { name := "T_BOOLEAN", type := .int, accessFlags := 25, slot := 11, constantValue := 0 }, { name := "T_CHAR", type := .int, accessFlags := 25, slot := 12, constantValue := 0 }, { name := "T_FLOAT", type := .int, accessFlags := 25, slot := 13, constantValue := 0 }, { name := "T_DOUBLE", type := .int, accessFlags := 25, slot := 14, constantValue := 0 }, { name := "T_BYTE", type := .int, accessFlags := 25, slot := 15, constantValue := 0 }, { name := "T_SHORT", type := .int, accessFlags := 25, slot := 16, constantValue := 0 }, { name := "T_INT", type := .int, accessFlags := 25, slot := 17, constantValue := 0 }, { name := "T_LONG", type := .int, accessFlags := 25, slot := 18, constantValue := 0 }, { name := "JLA", type := (.object "jdk/internal/access/JavaLangAccess"), accessFlags := 26, slot := 19, constantValue := 0 }, { name := "SOFT_MAX_ARRAY_LENGTH", type := .int, accessFlags := 25, slot := 20, constantValue := 0 }]
  methods := #[k15m0]
  instanceTypes := #[]
  staticTypes := #[(.object "jdk/internal/misc/Unsafe"), .boolean, .int, .int, .int, .int, .int, .int, .int, .int, .int, .int, .int, .int, .int, .int, .int, .int, .int, (.object "jdk/internal/access/JavaLangAccess"), .int]
  resolved := Array.replicate 378 none
  statics := none }

def pool16 : Array CpInfo := pool [(1, u "java/lang/Cloneable"), (0, .class_ 1), (0, u "java/lang/Object"), (0, .class_ 3)] 3

/-- java/lang/Cloneable -/
def k16 : Class := { plain "java/lang/Cloneable" (some 0) with
  accessFlags := 1537
  interfaces := #[]
  cf := some (fileOf pool16 2 #[] #[] 1537 4 #[] #[])
  fields := #[]
  methods := #[]
  instanceTypes := #[]
  staticTypes := #[]
  resolved := Array.replicate 8 none
  statics := none }

/-- the primitive byte -/
def k17 : Class := { plain "byte" none with kind := .primitive 'B', accessFlags := 0x411 }
/-- [B -/
def k18 : Class := { plain "[B" (some 0) with kind := .array 17 .byte, interfaces := #[16, 4], accessFlags := 1041 }

/-- the primitive char -/
def k19 : Class := { plain "char" none with kind := .primitive 'C', accessFlags := 0x411 }
/-- [C -/
def k20 : Class := { plain "[C" (some 0) with kind := .array 19 .char, interfaces := #[16, 4], accessFlags := 1041 }

/-- the primitive int -/
def k21 : Class := { plain "int" none with kind := .primitive 'I', accessFlags := 0x411 }
/-- [I -/
def k22 : Class := { plain "[I" (some 0) with kind := .array 21 .int, interfaces := #[16, 4], accessFlags := 1041 }

def heap : Heap := #[{ cls := 6, slots := #[.ref 3, .ref 4, .null], vm := .statics 6 },
  { cls := 9, slots := #[.long 0, .int 1, .null, .int 0, .null, .int 0, .int 0], vm := .statics 9 },
  { cls := 14, slots := #[.null, .null, .null], vm := .statics 14 },
  { cls := 6, slots := #[.null, .int 0, .int 0, .null, .null], vm := .none },
  { cls := 6, slots := #[.null, .int 1, .int 0, .null, .null], vm := .none }]
def classes : Array Class := #[k0, k1, k2, k3, k4, k5, k6, k7, k8, k9, k10, k11, k12, k13, k14, k15, k16, k17, k18, k19, k20, k21, k22]
def interned : List (Array UInt16 × Addr) := []
def slotsUsed : Nat := 23
def theMethod : MethodId := ⟨1, 2⟩
def args0 : Array Value := #[.int 5, .int 6, .int 7, .int 8]
def aboutOver (below : List Frame) : State where
  vm := { classes := classes, interned := interned.toArray }
  heap := heap
  slotsUsed := slotsUsed
  threads := #[{ frames := .invoking theMethod args0 :: below }]
def below0 : List Frame := [.native { method := ⟨0, 0⟩, args := #[] }]
def about1 : State := aboutOver below0
def p0 : Program := .bare "" "" ""
def e0 : Env := launch0.env 0 0 0
theorem w_frames : about1.frames = Frame.invoking theMethod args0 :: below0 := rfl
set_option maxRecDepth 65536 in
theorem w_args : argsFit about1.vm theMethod args0 = true := by decide +kernel
set_option maxRecDepth 65536 in
theorem w_heap : heapFits about1 = true := by decide +kernel
set_option maxRecDepth 65536 in
theorem w_runnable : about1.curStatus? = some .runnable := by decide +kernel
set_option maxRecDepth 65536 in
theorem w_alone : about1.alone = true := by decide +kernel
set_option maxRecDepth 65536 in
theorem w_named : about1.methodNamed? x = some theMethod := by decide +kernel
set_option maxRecDepth 65536 in
theorem w_hears : about1.hears theMethod below0 = true := by decide +kernel
set_option maxRecDepth 65536 in
theorem w_ripe : about1.ripe theMethod args0 below0 = true := by decide +kernel
theorem w_running : about1.status = .running := rfl
set_option maxRecDepth 65536 in
theorem w_room : about1.hasRoom e0.platform room_1 = true :=
  launch0.hasRoom_least _ room_1 (by decide +kernel) (by decide +kernel) (by decide +kernel) (by decide +kernel) (by decide +kernel) (by decide +kernel)
theorem allAtoms_all (ts : List Jvm.Cond) (a : Array Jvm.Value) (st : Jvm.State) : (allAtoms ts).before a st = ts.all (fun c => c.before a st) := by
  induction ts with
  | nil => rfl
  | cons c t ih =>
    show (Jvm.Cond.and c (allAtoms t)).before a st = _
    rw [Jvm.Cond.before_and, ih, List.all_cons]
def words1 : List Jvm.Cond := Jvm.Cond.code x code maxLocals ret :: tables_1
/-- a 'code' word, met by the world's own term for the bytes: nothing is compared byte by byte -/
theorem code_word {y : MethodName} {bytes : ByteArray} {mx : Nat} {rt : Option FieldType} {a : Array Value} {s : State} {m : MethodId} {meth : Method} {c : Code} (h1 : s.methodNamed? y = some m) (h2 : s.vm.method? m = some meth) (h3 : meth.code = some c) (h4 : c.code = bytes)
    (h5 : (c.maxLocals == mx && c.exceptionTable.isEmpty && decide (c.maxStack ≤ mostOperands) && decide (meth.sig.returnType = rt) && !meth.locks && decide (parseMethodDescriptor y.desc = some meth.sig)) = true) : (Jvm.Cond.code y bytes mx rt).before a s = true := by
  simp only [Bool.and_eq_true, beq_iff_eq, Bool.not_eq_true', decide_eq_true_eq] at h5
  obtain ⟨⟨⟨⟨⟨g1, g2⟩, g3⟩, g4⟩, g5⟩, g6⟩ := h5
  simp [Cond.before, Cond.holds, Cond.value, h1, h2, h3, h4, g1, g2, g3, g4, g5, g6]
def isCode : Jvm.Cond → Bool
  | .code _ _ _ _ => true
  | _ => false
theorem all_split {L : List Jvm.Cond} {P : Jvm.Cond → Bool} (h1 : L.all (fun c => isCode c || P c) = true) (h2 : ∀ c ∈ L.filter isCode, P c = true) : L.all P = true := by
  refine List.all_eq_true.mpr fun c hc => ?_
  have h := List.all_eq_true.mp h1 c hc
  rcases Bool.eq_false_or_eq_true (isCode c) with hi | hi
  · exact h2 c (List.mem_filter.mpr ⟨hc, hi⟩)
  · simpa [hi] using h
set_option maxRecDepth 65536 in
theorem w_c0 : (Jvm.Cond.code x code maxLocals ret).before args0 about1 = true := code_word (m := ⟨1, 2⟩) (meth := k1m2) (c := k1c2) (by decide +kernel) rfl rfl rfl (by decide +kernel)
set_option maxRecDepth 65536 in
theorem w_c1 : (Jvm.Cond.code ({ cls := "com/example/tariffwright/tariffwright/core/AreaEqualsPinLaw", name := "mk", desc := "(II)Ljava/lang/String;" } : Jvm.MethodName) method_2_code (5 : Nat) (Option.some (Jvm.ClassFile.FieldType.object "java/lang/String"))).before args0 about1 = true := code_word (m := ⟨1, 1⟩) (meth := k1m1) (c := k1c1) (by decide +kernel) rfl rfl rfl (by decide +kernel)
set_option maxRecDepth 65536 in
theorem w_c2 : (Jvm.Cond.code ({ cls := "java/lang/String", name := "<init>", desc := "([C)V" } : Jvm.MethodName) jdk_42_method_3_code (2 : Nat) (Option.none : Option Jvm.ClassFile.FieldType)).before args0 about1 = true := code_word (m := ⟨9, 1⟩) (meth := k9m1) (c := k9c1) (by decide +kernel) rfl rfl rfl (by decide +kernel)
set_option maxRecDepth 65536 in
theorem w_c3 : (Jvm.Cond.code ({ cls := "java/lang/String", name := "<init>", desc := "([CIILjava/lang/Void;)V" } : Jvm.MethodName) jdk_42_method_149_code (6 : Nat) (Option.none : Option Jvm.ClassFile.FieldType)).before args0 about1 = true := code_word (m := ⟨9, 4⟩) (meth := k9m4) (c := k9c4) (by decide +kernel) rfl rfl rfl (by decide +kernel)
set_option maxRecDepth 65536 in
theorem w_c4 : (Jvm.Cond.code ({ cls := "java/lang/Object", name := "<init>", desc := "()V" } : Jvm.MethodName) object_method_1_code (1 : Nat) (Option.none : Option Jvm.ClassFile.FieldType)).before args0 about1 = true := code_word (m := ⟨0, 0⟩) (meth := k0m0) (c := k0c0) (by decide +kernel) rfl rfl rfl (by decide +kernel)
set_option maxRecDepth 65536 in
theorem w_c5 : (Jvm.Cond.code ({ cls := "java/lang/StringUTF16", name := "compress", desc := "([CII)[B" } : Jvm.MethodName) jdk_52_method_16_code (6 : Nat) (Option.some (Jvm.ClassFile.FieldType.array Jvm.ClassFile.FieldType.byte))).before args0 about1 = true := code_word (m := ⟨10, 2⟩) (meth := k10m2) (c := k10c2) (by decide +kernel) rfl rfl rfl (by decide +kernel)
set_option maxRecDepth 65536 in
theorem w_c6 : (Jvm.Cond.code ({ cls := "java/lang/StringUTF16", name := "compress", desc := "([CI[BII)I" } : Jvm.MethodName) jdk_52_method_21_code (7 : Nat) (Option.some Jvm.ClassFile.FieldType.int)).before args0 about1 = true := code_word (m := ⟨10, 3⟩) (meth := k10m3) (c := k10c3) (by decide +kernel) rfl rfl rfl (by decide +kernel)
set_option maxRecDepth 65536 in
theorem w_c7 : (Jvm.Cond.code ({ cls := "java/lang/StringUTF16", name := "coderFromArrayLen", desc := "([BI)B" } : Jvm.MethodName) jdk_52_method_15_code (2 : Nat) (Option.some Jvm.ClassFile.FieldType.byte)).before args0 about1 = true := code_word (m := ⟨10, 1⟩) (meth := k10m1) (c := k10c1) (by decide +kernel) rfl rfl rfl (by decide +kernel)
set_option maxRecDepth 65536 in
theorem w_c8 : (Jvm.Cond.code ({ cls := "com/example/tariffwright/tariffwright/core/Area", name := "<init>", desc := "(Lcom/example/tariffwright/tariffwright/core/AreaKind;Ljava/lang/String;)V" } : Jvm.MethodName) prog_31_method_1_code (3 : Nat) (Option.none : Option Jvm.ClassFile.FieldType)).before args0 about1 = true := code_word (m := ⟨11, 0⟩) (meth := k11m0) (c := k11c0) (by decide +kernel) rfl rfl rfl (by decide +kernel)
set_option maxRecDepth 65536 in
theorem w_c9 : (Jvm.Cond.code ({ cls := "java/lang/String", name := "isEmpty", desc := "()Z" } : Jvm.MethodName) jdk_42_method_55_code (1 : Nat) (Option.some Jvm.ClassFile.FieldType.boolean)).before args0 about1 = true := code_word (m := ⟨9, 2⟩) (meth := k9m2) (c := k9c2) (by decide +kernel) rfl rfl rfl (by decide +kernel)
set_option maxRecDepth 65536 in
theorem w_c10 : (Jvm.Cond.code ({ cls := "java/util/Objects", name := "requireNonNull", desc := "(Ljava/lang/Object;)Ljava/lang/Object;" } : Jvm.MethodName) jdk_31_method_10_code (1 : Nat) (Option.some (Jvm.ClassFile.FieldType.object "java/lang/Object"))).before args0 about1 = true := code_word (m := ⟨12, 1⟩) (meth := k12m1) (c := k12c1) (by decide +kernel) rfl rfl rfl (by decide +kernel)
set_option maxRecDepth 65536 in
theorem w_c11 : (Jvm.Cond.code ({ cls := "com/example/tariffwright/tariffwright/core/Area", name := "equals", desc := "(Ljava/lang/Object;)Z" } : Jvm.MethodName) prog_31_method_4_code (3 : Nat) (Option.some Jvm.ClassFile.FieldType.boolean)).before args0 about1 = true := code_word (m := ⟨11, 1⟩) (meth := k11m1) (c := k11c1) (by decide +kernel) rfl rfl rfl (by decide +kernel)
set_option maxRecDepth 65536 in
theorem w_c12 : (Jvm.Cond.code ({ cls := "java/lang/String", name := "equals", desc := "(Ljava/lang/Object;)Z" } : Jvm.MethodName) jdk_42_method_66_code (3 : Nat) (Option.some Jvm.ClassFile.FieldType.boolean)).before args0 about1 = true := code_word (m := ⟨9, 3⟩) (meth := k9m3) (c := k9c3) (by decide +kernel) rfl rfl rfl (by decide +kernel)
set_option maxRecDepth 65536 in
theorem w_c13 : (Jvm.Cond.code ({ cls := "java/lang/StringLatin1", name := "equals", desc := "([B[B)Z" } : Jvm.MethodName) jdk_43_method_13_code (3 : Nat) (Option.some Jvm.ClassFile.FieldType.boolean)).before args0 about1 = true := code_word (m := ⟨13, 1⟩) (meth := k13m1) (c := k13c1) (by decide +kernel) rfl rfl rfl (by decide +kernel)
def codes1 : List Jvm.Cond := [Jvm.Cond.code x code maxLocals ret, Jvm.Cond.code ({ cls := "com/example/tariffwright/tariffwright/core/AreaEqualsPinLaw", name := "mk", desc := "(II)Ljava/lang/String;" } : Jvm.MethodName) method_2_code (5 : Nat) (Option.some (Jvm.ClassFile.FieldType.object "java/lang/String")), Jvm.Cond.code ({ cls := "java/lang/String", name := "<init>", desc := "([C)V" } : Jvm.MethodName) jdk_42_method_3_code (2 : Nat) (Option.none : Option Jvm.ClassFile.FieldType), Jvm.Cond.code ({ cls := "java/lang/String", name := "<init>", desc := "([CIILjava/lang/Void;)V" } : Jvm.MethodName) jdk_42_method_149_code (6 : Nat) (Option.none : Option Jvm.ClassFile.FieldType), Jvm.Cond.code ({ cls := "java/lang/Object", name := "<init>", desc := "()V" } : Jvm.MethodName) object_method_1_code (1 : Nat) (Option.none : Option Jvm.ClassFile.FieldType), Jvm.Cond.code ({ cls := "java/lang/StringUTF16", name := "compress", desc := "([CII)[B" } : Jvm.MethodName) jdk_52_method_16_code (6 : Nat) (Option.some (Jvm.ClassFile.FieldType.array Jvm.ClassFile.FieldType.byte)), Jvm.Cond.code ({ cls := "java/lang/StringUTF16", name := "compress", desc := "([CI[BII)I" } : Jvm.MethodName) jdk_52_method_21_code (7 : Nat) (Option.some Jvm.ClassFile.FieldType.int), Jvm.Cond.code ({ cls := "java/lang/StringUTF16", name := "coderFromArrayLen", desc := "([BI)B" } : Jvm.MethodName) jdk_52_method_15_code (2 : Nat) (Option.some Jvm.ClassFile.FieldType.byte), Jvm.Cond.code ({ cls := "com/example/tariffwright/tariffwright/core/Area", name := "<init>", desc := "(Lcom/example/tariffwright/tariffwright/core/AreaKind;Ljava/lang/String;)V" } : Jvm.MethodName) prog_31_method_1_code (3 : Nat) (Option.none : Option Jvm.ClassFile.FieldType), Jvm.Cond.code ({ cls := "java/lang/String", name := "isEmpty", desc := "()Z" } : Jvm.MethodName) jdk_42_method_55_code (1 : Nat) (Option.some Jvm.ClassFile.FieldType.boolean), Jvm.Cond.code ({ cls := "java/util/Objects", name := "requireNonNull", desc := "(Ljava/lang/Object;)Ljava/lang/Object;" } : Jvm.MethodName) jdk_31_method_10_code (1 : Nat) (Option.some (Jvm.ClassFile.FieldType.object "java/lang/Object")), Jvm.Cond.code ({ cls := "com/example/tariffwright/tariffwright/core/Area", name := "equals", desc := "(Ljava/lang/Object;)Z" } : Jvm.MethodName) prog_31_method_4_code (3 : Nat) (Option.some Jvm.ClassFile.FieldType.boolean), Jvm.Cond.code ({ cls := "java/lang/String", name := "equals", desc := "(Ljava/lang/Object;)Z" } : Jvm.MethodName) jdk_42_method_66_code (3 : Nat) (Option.some Jvm.ClassFile.FieldType.boolean), Jvm.Cond.code ({ cls := "java/lang/StringLatin1", name := "equals", desc := "([B[B)Z" } : Jvm.MethodName) jdk_43_method_13_code (3 : Nat) (Option.some Jvm.ClassFile.FieldType.boolean)]
set_option maxRecDepth 65536 in
theorem codes_eq : words1.filter isCode = codes1 := rfl
theorem w_codes : ∀ c ∈ words1.filter isCode, c.before args0 about1 = true := by
  rw [codes_eq]
  intro c hc
  simp only [codes1, List.mem_cons, List.not_mem_nil, or_false] at hc
  rcases hc with rfl | rfl | rfl | rfl | rfl | rfl | rfl | rfl | rfl | rfl | rfl | rfl | rfl | rfl
  · exact w_c0
  · exact w_c1
  · exact w_c2
  · exact w_c3
  · exact w_c4
  · exact w_c5
  · exact w_c6
  · exact w_c7
  · exact w_c8
  · exact w_c9
  · exact w_c10
  · exact w_c11
  · exact w_c12
  · exact w_c13
set_option maxRecDepth 65536 in
theorem w_t1 : (words1.take 24).all (fun c => isCode c || c.before args0 about1) = true := by decide +kernel
set_option maxRecDepth 65536 in
theorem w_t2 : ((words1.drop 24).take 24).all (fun c => isCode c || c.before args0 about1) = true := by decide +kernel
set_option maxRecDepth 65536 in
theorem w_t3 : (((words1.drop 24).drop 24).take 24).all (fun c => isCode c || c.before args0 about1) = true := by decide +kernel
set_option maxRecDepth 65536 in
theorem w_t4 : (((words1.drop 24).drop 24).drop 24).all (fun c => isCode c || c.before args0 about1) = true := by decide +kernel
theorem w_tables : (allAtoms (Jvm.Cond.code x code maxLocals ret :: tables_1)).before args0 about1 = true := by
  rw [allAtoms_all]
  show words1.all (fun c => c.before args0 about1) = true
  refine all_split ?_ w_codes
  rw [← List.take_append_drop 24 words1, List.all_append, w_t1, ← List.take_append_drop 24 (words1.drop 24), List.all_append, w_t2, ← List.take_append_drop 24 ((words1.drop 24).drop 24), List.all_append, w_t3, w_t4]
  rfl
set_option maxRecDepth 65536 in
theorem w_rest : rest_1_c.before args0 about1 = true := by decide +kernel
set_option maxRecDepth 65536 in
theorem w_case : (Jvm.Cond.and given_1 narrow_1).before args0 about1 = true := by decide +kernel
theorem w_applies : (headSpec (Jvm.Cond.code x code maxLocals ret :: tables_1) room_1).applies x e0.platform about1 = true :=
  (Spec.applies_iff w_frames).mpr ⟨w_running, w_runnable, w_alone, w_named, w_hears, w_ripe, w_room, w_tables⟩
theorem atStart : AtStart classFile x code maxLocals ret World_1 tables_1 room_1 Calls_1 rest_1 Pre_1 launch0 p0 e0 about1 theMethod args0 below0 :=
  ⟨lists_1, trivial, launch0.admits_env _ _ _, launch0.least_env, fairChoices_fair.cas, fairChoices_fair.clock, w_frames, w_args, w_heap, w_applies, trivial, w_rest, w_case⟩
end start1
theorem witness_1 : WitnessClaimed_1 := ⟨start1.p0, start1.e0, start1.about1, start1.theMethod, start1.args0, start1.below0, start1.atStart⟩
end Jvm.Pilot.@@N@@
