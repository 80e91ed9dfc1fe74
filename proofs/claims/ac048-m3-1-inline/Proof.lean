import JvmDerived
import JvmDerived.Pilot.@@N@@Statement
import JvmDerived.Pilot.@@N@@Code
set_option linter.unusedVariables false
set_option linter.unusedSimpArgs false
namespace Jvm.Pilot.@@N@@
open Jvm Jvm.ClassFile Sem Op Lib Jvm.Free Jvm.Stand Jvm.LawKit Jvm.RoadKit Bundle Jvm.Pilot.@@N@@.Jvm.D
/-! own_: what is left of a walk, read forwards -/
def own_WP (p : Program) (e : Env) (below : List Frame) (FE : Outcome → State → List Loc → Nat → Nat → Prop) (Q : Option Value → Heap → List Loc → Prop) (k n : Nat) (a : State) : Prop :=
  ∃ s₂ o, Steps p.tables e below a s₂ ∧ s₂.status = .running ∧ Ended s₂ below o ∧ ∃ v L, o = .returned v ∧ Q v s₂.heap L ∧ FE o s₂ L k n
def own_Con (l : Launch) (Z : State) (y : MethodName) (bytes : ByteArray) (maxL : Nat) (ret : Option FieldType) (rm : Room) (as' : Array Value) (h0 : Heap) (Q : Option Value → Heap → List Loc → Prop) : Prop :=
  ∀ ws, MetFree l y (head1 (Jvm.Cond.code y bytes maxL ret :: ws) rm) (fun a U => a = as' ∧ Z.Warmed39 U.vm ∧ U.heap = h0) (fun _ _ _ _ _ => True) (fun _ U o U' => ∃ v L, o = .returned v ∧ Q v U'.heap L ∧ FrameEnd U o U' L rm.cells rm.slots)
theorem own_Con_of {l : Launch} {Z : State} {y : MethodName} {bytes : ByteArray} {maxL : Nat} {ret : Option FieldType} {rm : Room} {as' : Array Value} {h0 : Heap} {Q : Option Value → Heap → List Loc → Prop} (hp : plainFor y = true)
    (hb : ∀ (p : Program) (e : Env) (s : State) (m : MethodId) (below : List Frame) (meth : Method) (c : Code) (s₁ : State), Stand p l e rm s m as' below meth c s₁ [] 0 0 → p.tables.exec = Jvm.exec → c.code = bytes → c.maxLocals = maxL → meth.sig.returnType = ret → meth.locks = false → meth.name = y.name → s.vm.findClass y.cls = some m.cls → Z.Warmed39 s.vm → s₁.heap = h0 →
      own_WP p e below (FrameEnd s) Q rm.cells rm.slots (s₁.setTop (entryFrame m as' maxL))) : own_Con l Z y bytes maxL ret rm as' h0 Q := by
  intro ws
  refine MetFree.of_bodySF hp hisR ?_
  intro p e s m args below meth c s₁ Bd hml0 hP hK
  obtain ⟨rfl, hZ, hh⟩ := hP
  exact hb p e s m below meth c s₁ (Stand.of_body Bd) Bd.exec Bd.bytes hml0 Bd.returns Bd.notSynchronized (name_of_methodNamed Bd.named Bd.method).1 (findClass_of_methodNamed Bd.named) hZ (by rw [← hh, Bd.state]; rfl)
theorem own_w {Z : State} {a0 : Array Value} {ts : List Jvm.Cond} {d : Jvm.Cond} (hw : ∀ d ∈ ts, d.before a0 Z = true) (i : Nat) (hi : ts[i]? = some d) : d.before a0 Z = true := hw _ (List.mem_of_getElem? hi)
section OwnWP
variable {p : Program} {l : Launch} {e : Env} {R : Room} {s : State} {m : MethodId} {args : Array Value} {below : List Frame} {meth : Method} {c : Code} {T : State} {locs : List Loc} {cells slots : Nat} {Z : State} {a0 : Array Value} {h : Heap} {Q : Option Value → Heap → List Loc → Prop} {FE : Outcome → State → List Loc → Nat → Nat → Prop} {k n : Nat} {a a' : State} {pc pc' : Nat} {ls l' : Array Slot} {rest : List Value}
theorem own_of (hs : ∀ t, Steps p.tables e below a' t → Steps p.tables e below a t) (w : own_WP p e below FE Q k n a') : own_WP p e below FE Q k n a := by
  obtain ⟨s₂, o, st, r⟩ := w
  exact ⟨s₂, o, hs _ st, r⟩
theorem own_join {α : Type} (P : α → Prop) (f : α → State) (h1 : (∀ x, P x → own_WP p e below FE Q k n (f x)) → own_WP p e below FE Q k n a) (h2 : ∀ x, P x → own_WP p e below FE Q k n (f x)) : own_WP p e below FE Q k n a := h1 h2
theorem own_done (X : Stand p l e R s m args below meth c T locs cells slots) {v : Option Value} (hF : ∀ o s₂ L, s₂.heap = T.heap → FrameEnd s o s₂ L k n → FE o s₂ L k n) (hlk : meth.locks = false) (hv : meth.sig.returnType = none → v = none) (hc : cells ≤ k) (hn : slots ≤ n) (hq : Q v T.heap locs)
    (st : ∀ fs, (∀ (f : JFrame) (acts : List Action), f.method = m → f.locked = none → f.entered = [] → (doReturn e (T.setTop f) acts v).1 = T.setFrames fs) → Steps p.tables e below a (T.setFrames fs)) : own_WP p e below FE Q k n a := by
  obtain ⟨fs, hr, hrun, hended, hW, hsame⟩ := X.leave hv hlk
  exact ⟨_, _, st fs hr, hrun, hended, _, _, rfl, hq, hF _ _ _ rfl ⟨⟨_, rfl⟩, hW, hsame.mono hc hn⟩⟩
theorem own_retI (X : Stand p l e R s m args below meth c T locs cells slots) (hx : p.tables.exec = Jvm.exec) (hF : ∀ o s₂ L, s₂.heap = T.heap → FrameEnd s o s₂ L k n → FE o s₂ L k n) (hlk : meth.locks = false) (hret : meth.sig.returnType = some .int) {z : Int32} (hd : decode c.code pc = .ok (.ireturn, 1)) (hc : cells ≤ k) (hn : slots ≤ n) (hq : Q (some (.int z)) T.heap locs) : own_WP p e below FE Q k n (T.setTop (mkF m pc ls (.int z :: rest))) :=
  own_done X hF hlk (fun q => by rw [hret] at q; cases q) hc hn hq fun fs hr => retOut X hx hret rfl (Or.inl ⟨rfl, Or.inl rfl, z, rfl⟩) hd hr
theorem own_retN (X : Stand p l e R s m args below meth c T locs cells slots) (hx : p.tables.exec = Jvm.exec) (hF : ∀ o s₂ L, s₂.heap = T.heap → FrameEnd s o s₂ L k n → FE o s₂ L k n) (hlk : meth.locks = false) {t : FieldType} (ht : t = .boolean ∨ t = .byte ∨ t = .char ∨ t = .short) (hret : meth.sig.returnType = some t) {z : Int32} (hd : decode c.code pc = .ok (.ireturn, 1)) (hc : cells ≤ k) (hn : slots ≤ n) (hq : Q (some (.int (nar t z))) T.heap locs) : own_WP p e below FE Q k n (T.setTop (mkF m pc ls (.int z :: rest))) :=
  own_done X hF hlk (fun q => by rw [hret] at q; cases q) hc hn hq fun fs hr => retN X hx hret ht hd hr
theorem own_retJ (X : Stand p l e R s m args below meth c T locs cells slots) (hx : p.tables.exec = Jvm.exec) (hF : ∀ o s₂ L, s₂.heap = T.heap → FrameEnd s o s₂ L k n → FE o s₂ L k n) (hlk : meth.locks = false) (hret : meth.sig.returnType = some .long) {z : Int64} (hd : decode c.code pc = .ok (.lreturn, 1)) (hc : cells ≤ k) (hn : slots ≤ n) (hq : Q (some (.long z)) T.heap locs) : own_WP p e below FE Q k n (T.setTop (mkF m pc ls (.long z :: rest))) :=
  own_done X hF hlk (fun q => by rw [hret] at q; cases q) hc hn hq fun fs hr => retOut X hx hret rfl (Or.inr (Or.inl ⟨rfl, rfl, z, rfl⟩)) hd hr
theorem own_retA (X : Stand p l e R s m args below meth c T locs cells slots) (hx : p.tables.exec = Jvm.exec) (hF : ∀ o s₂ L, s₂.heap = T.heap → FrameEnd s o s₂ L k n → FE o s₂ L k n) (hlk : meth.locks = false) {t : FieldType} (ht : t.isReference = true) (hret : meth.sig.returnType = some t) {w : Value} (hw : w.isRef = true) (hnw : narrow t w = w) (hd : decode c.code pc = .ok (.areturn, 1)) (hc : cells ≤ k) (hn : slots ≤ n) (hq : Q (some w) T.heap locs) : own_WP p e below FE Q k n (T.setTop (mkF m pc ls (w :: rest))) :=
  own_done X hF hlk (fun q => by rw [hret] at q; cases q) hc hn hq fun fs hr => retOut X hx hret hnw (Or.inr (Or.inr (Or.inr (Or.inr ⟨rfl, ht, hw⟩)))) hd hr
theorem own_ret0 (X : Stand p l e R s m args below meth c T locs cells slots) (hx : p.tables.exec = Jvm.exec) (hF : ∀ o s₂ L, s₂.heap = T.heap → FrameEnd s o s₂ L k n → FE o s₂ L k n) (hlk : meth.locks = false) (hret : meth.sig.returnType = none) (hd : decode c.code pc = .ok (.return_, 1)) (hc : cells ≤ k) (hn : slots ≤ n) (hq : Q none T.heap locs) : own_WP p e below FE Q k n (T.setTop (mkF m pc ls [])) :=
  own_done X hF hlk (fun _ => rfl) hc hn hq fun fs hr => X.returnOut hx hret hd hr
theorem own_iload (X : Stand p l e R s m args below meth c T locs cells slots) (hx : p.tables.exec = Jvm.exec) {j : Nat} {v : Int32} (hd : decode c.code pc = .ok (.iload j, 2)) (hl : ls[j]? = some (.val (.int v))) (hpc : pc + 2 = pc') (w : own_WP p e below FE Q k n (T.setTop (mkF m pc' ls (.int v :: rest)))) : own_WP p e below FE Q k n (T.setTop (mkF m pc ls rest)) := by
  subst hpc
  exact own_of (fun t q => XS.iload X.here hx rfl hd hl q) w
theorem own_iloadN (X : Stand p l e R s m args below meth c T locs cells slots) (hx : p.tables.exec = Jvm.exec) {j : Fin 4} {v : Int32} (hd : decode c.code pc = .ok (.iload_n j, 1)) (hl : ls[j.val]? = some (.val (.int v))) (hpc : pc + 1 = pc') (w : own_WP p e below FE Q k n (T.setTop (mkF m pc' ls (.int v :: rest)))) : own_WP p e below FE Q k n (T.setTop (mkF m pc ls rest)) := by
  subst hpc
  exact own_of (fun t q => XS.iloadN X.here hx rfl hd hl q) w
theorem own_lload (X : Stand p l e R s m args below meth c T locs cells slots) (hx : p.tables.exec = Jvm.exec) {j : Nat} {v : Int64} (hd : decode c.code pc = .ok (.lload j, 2)) (hl : ls[j]? = some (.val (.long v))) (hpc : pc + 2 = pc') (w : own_WP p e below FE Q k n (T.setTop (mkF m pc' ls (.long v :: rest)))) : own_WP p e below FE Q k n (T.setTop (mkF m pc ls rest)) := by
  subst hpc
  exact own_of (fun t q => XS.lload X.here hx rfl hd hl q) w
theorem own_lloadN (X : Stand p l e R s m args below meth c T locs cells slots) (hx : p.tables.exec = Jvm.exec) {j : Fin 4} {v : Int64} (hd : decode c.code pc = .ok (.lload_n j, 1)) (hl : ls[j.val]? = some (.val (.long v))) (hpc : pc + 1 = pc') (w : own_WP p e below FE Q k n (T.setTop (mkF m pc' ls (.long v :: rest)))) : own_WP p e below FE Q k n (T.setTop (mkF m pc ls rest)) := by
  subst hpc
  exact own_of (fun t q => XS.lloadN X.here hx rfl hd hl q) w
theorem own_aload (X : Stand p l e R s m args below meth c T locs cells slots) (hx : p.tables.exec = Jvm.exec) {j : Nat} {v : Value} (hd : decode c.code pc = .ok (.aload j, 2)) (hl : ls[j]? = some (.val v)) (hv : v.isRef = true) (hpc : pc + 2 = pc') (w : own_WP p e below FE Q k n (T.setTop (mkF m pc' ls (v :: rest)))) : own_WP p e below FE Q k n (T.setTop (mkF m pc ls rest)) := by
  subst hpc
  exact own_of (fun t q => XS.aload X.here hx rfl hd hl hv q) w
theorem own_aloadN (X : Stand p l e R s m args below meth c T locs cells slots) (hx : p.tables.exec = Jvm.exec) {j : Fin 4} {v : Value} (hd : decode c.code pc = .ok (.aload_n j, 1)) (hl : ls[j.val]? = some (.val v)) (hv : v.isRef = true) (hpc : pc + 1 = pc') (w : own_WP p e below FE Q k n (T.setTop (mkF m pc' ls (v :: rest)))) : own_WP p e below FE Q k n (T.setTop (mkF m pc ls rest)) := by
  subst hpc
  exact own_of (fun t q => XS.aloadN X.here hx rfl hd hl hv q) w
theorem own_istore (X : Stand p l e R s m args below meth c T locs cells slots) (hx : p.tables.exec = Jvm.exec) {j : Nat} {v z : Int32} (hd : decode c.code pc = .ok (.istore j, 2)) (hz : z = v) (hl : storeLocals ls j (.int z) = some l') (hpc : pc + 2 = pc') (w : own_WP p e below FE Q k n (T.setTop (mkF m pc' l' rest))) : own_WP p e below FE Q k n (T.setTop (mkF m pc ls (.int v :: rest))) := by
  subst hpc
  exact own_of (fun t q => XS.istore X.here hx rfl hd rfl (hz ▸ hl) q) w
theorem own_istoreN (X : Stand p l e R s m args below meth c T locs cells slots) (hx : p.tables.exec = Jvm.exec) {j : Fin 4} {v z : Int32} (hd : decode c.code pc = .ok (.istore_n j, 1)) (hz : z = v) (hl : storeLocals ls j.val (.int z) = some l') (hpc : pc + 1 = pc') (w : own_WP p e below FE Q k n (T.setTop (mkF m pc' l' rest))) : own_WP p e below FE Q k n (T.setTop (mkF m pc ls (.int v :: rest))) := by
  subst hpc
  exact own_of (fun t q => XS.istoreN X.here hx rfl hd rfl (hz ▸ hl) q) w
theorem own_lstore (X : Stand p l e R s m args below meth c T locs cells slots) (hx : p.tables.exec = Jvm.exec) {j : Nat} {v z : Int64} (hd : decode c.code pc = .ok (.lstore j, 2)) (hz : z = v) (hl : storeLocals ls j (.long z) = some l') (hpc : pc + 2 = pc') (w : own_WP p e below FE Q k n (T.setTop (mkF m pc' l' rest))) : own_WP p e below FE Q k n (T.setTop (mkF m pc ls (.long v :: rest))) := by
  subst hpc
  exact own_of (fun t q => XS.lstore X.here hx rfl hd rfl (hz ▸ hl) q) w
theorem own_lstoreN (X : Stand p l e R s m args below meth c T locs cells slots) (hx : p.tables.exec = Jvm.exec) {j : Fin 4} {v z : Int64} (hd : decode c.code pc = .ok (.lstore_n j, 1)) (hz : z = v) (hl : storeLocals ls j.val (.long z) = some l') (hpc : pc + 1 = pc') (w : own_WP p e below FE Q k n (T.setTop (mkF m pc' l' rest))) : own_WP p e below FE Q k n (T.setTop (mkF m pc ls (.long v :: rest))) := by
  subst hpc
  exact own_of (fun t q => XS.lstoreN X.here hx rfl hd rfl (hz ▸ hl) q) w
theorem own_astore (X : Stand p l e R s m args below meth c T locs cells slots) (hx : p.tables.exec = Jvm.exec) {j : Nat} {v : Value} (hd : decode c.code pc = .ok (.astore j, 2)) (hv : v.isRef = true) (hl : storeLocals ls j v = some l') (hpc : pc + 2 = pc') (w : own_WP p e below FE Q k n (T.setTop (mkF m pc' l' rest))) : own_WP p e below FE Q k n (T.setTop (mkF m pc ls (v :: rest))) := by
  subst hpc
  exact own_of (fun t q => XS.astore X.here hx rfl hd rfl hv hl q) w
theorem own_astoreN (X : Stand p l e R s m args below meth c T locs cells slots) (hx : p.tables.exec = Jvm.exec) {j : Fin 4} {v : Value} (hd : decode c.code pc = .ok (.astore_n j, 1)) (hv : v.isRef = true) (hl : storeLocals ls j.val v = some l') (hpc : pc + 1 = pc') (w : own_WP p e below FE Q k n (T.setTop (mkF m pc' l' rest))) : own_WP p e below FE Q k n (T.setTop (mkF m pc ls (v :: rest))) := by
  subst hpc
  exact own_of (fun t q => XS.astoreN X.here hx rfl hd rfl hv hl q) w
theorem own_iinc (X : Stand p l e R s m args below meth c T locs cells slots) (hx : p.tables.exec = Jvm.exec) {j : Nat} {i : Int} {v z : Int32} (hd : decode c.code pc = .ok (.iinc j i, 3)) (hl0 : ls[j]? = some (.val (.int v))) (hz : z = v + Int32.ofInt i) (hl : storeLocals ls j (.int z) = some l') (hpc : pc + 3 = pc') (w : own_WP p e below FE Q k n (T.setTop (mkF m pc' l' rest))) : own_WP p e below FE Q k n (T.setTop (mkF m pc ls rest)) := by
  subst hpc
  exact own_of (fun t q => XS.iinc X.here hx rfl hd hl0 (hz ▸ hl) q) w
theorem own_iconst (X : Stand p l e R s m args below meth c T locs cells slots) (hx : p.tables.exec = Jvm.exec) {i : Int} (v : Int32) (hd : decode c.code pc = .ok (.iconst i, 1)) (hv : v = Int32.ofInt i) (hpc : pc + 1 = pc') (w : own_WP p e below FE Q k n (T.setTop (mkF m pc' ls (.int v :: rest)))) : own_WP p e below FE Q k n (T.setTop (mkF m pc ls rest)) := by
  subst hpc
  exact own_of (fun t q => XS.iconst X.here hx rfl hd (hv ▸ q)) w
theorem own_bipush (X : Stand p l e R s m args below meth c T locs cells slots) (hx : p.tables.exec = Jvm.exec) {i : Int} (v : Int32) (hd : decode c.code pc = .ok (.bipush i, 2)) (hv : v = (Int8.ofInt i).toInt32) (hpc : pc + 2 = pc') (w : own_WP p e below FE Q k n (T.setTop (mkF m pc' ls (.int v :: rest)))) : own_WP p e below FE Q k n (T.setTop (mkF m pc ls rest)) := by
  subst hpc
  exact own_of (fun t q => XS.bipush X.here hx rfl hd (hv ▸ q)) w
theorem own_sipush (X : Stand p l e R s m args below meth c T locs cells slots) (hx : p.tables.exec = Jvm.exec) {i : Int} (v : Int32) (hd : decode c.code pc = .ok (.sipush i, 3)) (hv : v = (Int16.ofInt i).toInt32) (hpc : pc + 3 = pc') (w : own_WP p e below FE Q k n (T.setTop (mkF m pc' ls (.int v :: rest)))) : own_WP p e below FE Q k n (T.setTop (mkF m pc ls rest)) := by
  subst hpc
  exact own_of (fun t q => XS.sipush X.here hx rfl hd (hv ▸ q)) w
theorem own_anull (X : Stand p l e R s m args below meth c T locs cells slots) (hx : p.tables.exec = Jvm.exec)  (hd : decode c.code pc = .ok (.aconst_null, 1)) (hpc : pc + 1 = pc') (w : own_WP p e below FE Q k n (T.setTop (mkF m pc' ls (.null :: rest)))) : own_WP p e below FE Q k n (T.setTop (mkF m pc ls rest)) := by
  subst hpc
  exact own_of (fun t q => XS.aconstNull X.here hx rfl hd q) w
theorem own_lconst0 (X : Stand p l e R s m args below meth c T locs cells slots) (hx : p.tables.exec = Jvm.exec)  (hd : decode c.code pc = .ok (.lconst 0, 1)) (hpc : pc + 1 = pc') (w : own_WP p e below FE Q k n (T.setTop (mkF m pc' ls (.long 0 :: rest)))) : own_WP p e below FE Q k n (T.setTop (mkF m pc ls rest)) := by
  subst hpc
  exact own_of (fun t q => XS.lconst X.here hx rfl hd q) w
theorem own_lconst1 (X : Stand p l e R s m args below meth c T locs cells slots) (hx : p.tables.exec = Jvm.exec)  (hd : decode c.code pc = .ok (.lconst 1, 1)) (hpc : pc + 1 = pc') (w : own_WP p e below FE Q k n (T.setTop (mkF m pc' ls (.long 1 :: rest)))) : own_WP p e below FE Q k n (T.setTop (mkF m pc ls rest)) := by
  subst hpc
  exact own_of (fun t q => XS.lconst X.here hx rfl hd q) w
theorem own_ldcInt (X : Stand p l e R s m args below meth c T locs cells slots) (hx : p.tables.exec = Jvm.exec) (hZ : Z.Warmed39 s.vm) {own : String} {idx : Nat} {v : Int32} (hown : s.vm.findClass own = some m.cls) (w1 : (Jvm.Cond.constant own idx v).before a0 Z = true) (hd : decode c.code pc = .ok (.ldc idx, 2)) (hpc : pc + 2 = pc') (w : own_WP p e below FE Q k n (T.setTop (mkF m pc' ls (.int v :: rest)))) : own_WP p e below FE Q k n (T.setTop (mkF m pc ls rest)) := by
  subst hpc
  exact own_of (fun t q => X.ldcInt hx hown (mvT hZ w1) (g := mkF m pc ls rest) rfl hd _ q) w
theorem own_ldc2Long (X : Stand p l e R s m args below meth c T locs cells slots) (hx : p.tables.exec = Jvm.exec) (hZ : Z.Warmed39 s.vm) {own : String} {idx : Nat} {v : Int64} (hown : s.vm.findClass own = some m.cls) (w1 : (Jvm.Cond.constantLong own idx v).before a0 Z = true) (hd : decode c.code pc = .ok (.ldc2_w idx, 3)) (hpc : pc + 3 = pc') (w : own_WP p e below FE Q k n (T.setTop (mkF m pc' ls (.long v :: rest)))) : own_WP p e below FE Q k n (T.setTop (mkF m pc ls rest)) := by
  subst hpc
  exact own_of (fun t q => X.ldc2Long hx hown (mvT hZ w1) (g := mkF m pc ls rest) rfl hd _ q) w
theorem own_iadd (X : Stand p l e R s m args below meth c T locs cells slots) (hx : p.tables.exec = Jvm.exec) {x y : Int32} (hd : decode c.code pc = .ok (.iadd, 1)) (hpc : pc + 1 = pc') (w : own_WP p e below FE Q k n (T.setTop (mkF m pc' ls (.int (x + y) :: rest)))) : own_WP p e below FE Q k n (T.setTop (mkF m pc ls (.int y :: .int x :: rest))) := by
  subst hpc
  exact own_of (fun t q => XS.iadd X.here hx rfl hd rfl q) w
theorem own_isub (X : Stand p l e R s m args below meth c T locs cells slots) (hx : p.tables.exec = Jvm.exec) {x y : Int32} (hd : decode c.code pc = .ok (.isub, 1)) (hpc : pc + 1 = pc') (w : own_WP p e below FE Q k n (T.setTop (mkF m pc' ls (.int (x - y) :: rest)))) : own_WP p e below FE Q k n (T.setTop (mkF m pc ls (.int y :: .int x :: rest))) := by
  subst hpc
  exact own_of (fun t q => XS.isub X.here hx rfl hd rfl q) w
theorem own_lsub (X : Stand p l e R s m args below meth c T locs cells slots) (hx : p.tables.exec = Jvm.exec) {x y : Int64} (hd : decode c.code pc = .ok (.lsub, 1)) (hpc : pc + 1 = pc') (w : own_WP p e below FE Q k n (T.setTop (mkF m pc' ls (.long (x - y) :: rest)))) : own_WP p e below FE Q k n (T.setTop (mkF m pc ls (.long y :: .long x :: rest))) := by
  subst hpc
  exact own_of (fun t q => XS.lsub X.here hx rfl hd rfl q) w
theorem own_imul (X : Stand p l e R s m args below meth c T locs cells slots) (hx : p.tables.exec = Jvm.exec) {x y : Int32} (hd : decode c.code pc = .ok (.imul, 1)) (hpc : pc + 1 = pc') (w : own_WP p e below FE Q k n (T.setTop (mkF m pc' ls (.int (x * y) :: rest)))) : own_WP p e below FE Q k n (T.setTop (mkF m pc ls (.int y :: .int x :: rest))) := by
  subst hpc
  exact own_of (fun t q => XS.imul X.here hx rfl hd rfl q) w
theorem own_lmul (X : Stand p l e R s m args below meth c T locs cells slots) (hx : p.tables.exec = Jvm.exec) {x y : Int64} (hd : decode c.code pc = .ok (.lmul, 1)) (hpc : pc + 1 = pc') (w : own_WP p e below FE Q k n (T.setTop (mkF m pc' ls (.long (x * y) :: rest)))) : own_WP p e below FE Q k n (T.setTop (mkF m pc ls (.long y :: .long x :: rest))) := by
  subst hpc
  exact own_of (fun t q => XS.lmul X.here hx rfl hd rfl q) w
theorem own_iand (X : Stand p l e R s m args below meth c T locs cells slots) (hx : p.tables.exec = Jvm.exec) {x y : Int32} (hd : decode c.code pc = .ok (.iand, 1)) (hpc : pc + 1 = pc') (w : own_WP p e below FE Q k n (T.setTop (mkF m pc' ls (.int (x &&& y) :: rest)))) : own_WP p e below FE Q k n (T.setTop (mkF m pc ls (.int y :: .int x :: rest))) := by
  subst hpc
  exact own_of (fun t q => XS.iand X.here hx rfl hd rfl q) w
theorem own_ishl (X : Stand p l e R s m args below meth c T locs cells slots) (hx : p.tables.exec = Jvm.exec) {x y : Int32} (hd : decode c.code pc = .ok (.ishl, 1)) (hpc : pc + 1 = pc') (w : own_WP p e below FE Q k n (T.setTop (mkF m pc' ls (.int (x <<< (y &&& 31)) :: rest)))) : own_WP p e below FE Q k n (T.setTop (mkF m pc ls (.int y :: .int x :: rest))) := by
  subst hpc
  exact own_of (fun t q => XS.ishl X.here hx rfl hd rfl q) w
theorem own_ishr (X : Stand p l e R s m args below meth c T locs cells slots) (hx : p.tables.exec = Jvm.exec) {x y : Int32} (hd : decode c.code pc = .ok (.ishr, 1)) (hpc : pc + 1 = pc') (w : own_WP p e below FE Q k n (T.setTop (mkF m pc' ls (.int (x >>> (y &&& 31)) :: rest)))) : own_WP p e below FE Q k n (T.setTop (mkF m pc ls (.int y :: .int x :: rest))) := by
  subst hpc
  exact own_of (fun t q => XS.ishr X.here hx rfl hd rfl q) w
theorem own_iushr (X : Stand p l e R s m args below meth c T locs cells slots) (hx : p.tables.exec = Jvm.exec) {x y : Int32} (hd : decode c.code pc = .ok (.iushr, 1)) (hpc : pc + 1 = pc') (w : own_WP p e below FE Q k n (T.setTop (mkF m pc' ls (.int ((x.toUInt32 >>> (y &&& 31).toUInt32).toInt32) :: rest)))) : own_WP p e below FE Q k n (T.setTop (mkF m pc ls (.int y :: .int x :: rest))) := by
  subst hpc
  exact own_of (fun t q => XS.iushr X.here hx rfl hd rfl q) w
theorem own_idiv (X : Stand p l e R s m args below meth c T locs cells slots) (hx : p.tables.exec = Jvm.exec) {x y : Int32} (hd : decode c.code pc = .ok (.idiv, 1)) (hy : y ≠ 0) (hpc : pc + 1 = pc') (w : own_WP p e below FE Q k n (T.setTop (mkF m pc' ls (.int (x / y) :: rest)))) : own_WP p e below FE Q k n (T.setTop (mkF m pc ls (.int y :: .int x :: rest))) := by
  subst hpc
  exact own_of (fun t q => XS.idiv X.here hx rfl hd rfl hy q) w
theorem own_ldiv (X : Stand p l e R s m args below meth c T locs cells slots) (hx : p.tables.exec = Jvm.exec) {x y : Int64} (hd : decode c.code pc = .ok (.ldiv, 1)) (hy : y ≠ 0) (hpc : pc + 1 = pc') (w : own_WP p e below FE Q k n (T.setTop (mkF m pc' ls (.long (x / y) :: rest)))) : own_WP p e below FE Q k n (T.setTop (mkF m pc ls (.long y :: .long x :: rest))) := by
  subst hpc
  exact own_of (fun t q => XS.ldiv X.here hx rfl hd rfl hy q) w
theorem own_lrem (X : Stand p l e R s m args below meth c T locs cells slots) (hx : p.tables.exec = Jvm.exec) {x y : Int64} (hd : decode c.code pc = .ok (.lrem, 1)) (hy : y ≠ 0) (hpc : pc + 1 = pc') (w : own_WP p e below FE Q k n (T.setTop (mkF m pc' ls (.long (x % y) :: rest)))) : own_WP p e below FE Q k n (T.setTop (mkF m pc ls (.long y :: .long x :: rest))) := by
  subst hpc
  exact own_of (fun t q => XS.lrem X.here hx rfl hd rfl hy ((lrem_mod x y).symm ▸ q)) w
theorem own_ineg (X : Stand p l e R s m args below meth c T locs cells slots) (hx : p.tables.exec = Jvm.exec) {x : Int32} (hd : decode c.code pc = .ok (.ineg, 1)) (hpc : pc + 1 = pc') (w : own_WP p e below FE Q k n (T.setTop (mkF m pc' ls (.int (-x) :: rest)))) : own_WP p e below FE Q k n (T.setTop (mkF m pc ls (.int x :: rest))) := by
  subst hpc
  exact own_of (fun t q => XS.ineg X.here hx rfl hd rfl q) w
theorem own_lneg (X : Stand p l e R s m args below meth c T locs cells slots) (hx : p.tables.exec = Jvm.exec) {x : Int64} (hd : decode c.code pc = .ok (.lneg, 1)) (hpc : pc + 1 = pc') (w : own_WP p e below FE Q k n (T.setTop (mkF m pc' ls (.long (-x) :: rest)))) : own_WP p e below FE Q k n (T.setTop (mkF m pc ls (.long x :: rest))) := by
  subst hpc
  exact own_of (fun t q => XS.lneg X.here hx rfl hd rfl q) w
theorem own_l2i (X : Stand p l e R s m args below meth c T locs cells slots) (hx : p.tables.exec = Jvm.exec) {x : Int64} (hd : decode c.code pc = .ok (.l2i, 1)) (hpc : pc + 1 = pc') (w : own_WP p e below FE Q k n (T.setTop (mkF m pc' ls (.int (x.toInt32) :: rest)))) : own_WP p e below FE Q k n (T.setTop (mkF m pc ls (.long x :: rest))) := by
  subst hpc
  exact own_of (fun t q => XS.l2i X.here hx rfl hd rfl q) w
theorem own_i2b (X : Stand p l e R s m args below meth c T locs cells slots) (hx : p.tables.exec = Jvm.exec) {x : Int32} (hd : decode c.code pc = .ok (.i2b, 1)) (hpc : pc + 1 = pc') (w : own_WP p e below FE Q k n (T.setTop (mkF m pc' ls (.int (x.toInt8.toInt32) :: rest)))) : own_WP p e below FE Q k n (T.setTop (mkF m pc ls (.int x :: rest))) := by
  subst hpc
  exact own_of (fun t q => XS.i2b X.here hx rfl hd rfl q) w
theorem own_i2c (X : Stand p l e R s m args below meth c T locs cells slots) (hx : p.tables.exec = Jvm.exec) {x : Int32} (hd : decode c.code pc = .ok (.i2c, 1)) (hpc : pc + 1 = pc') (w : own_WP p e below FE Q k n (T.setTop (mkF m pc' ls (.int (x.toUInt32.toUInt16.toUInt32.toInt32) :: rest)))) : own_WP p e below FE Q k n (T.setTop (mkF m pc ls (.int x :: rest))) := by
  subst hpc
  exact own_of (fun t q => XS.i2c X.here hx rfl hd rfl q) w
theorem own_lcmp (X : Stand p l e R s m args below meth c T locs cells slots) (hx : p.tables.exec = Jvm.exec) {x y : Int64} (hd : decode c.code pc = .ok (.lcmp, 1)) (hpc : pc + 1 = pc') (w : own_WP p e below FE Q k n (T.setTop (mkF m pc' ls (.int (lcmpW x y) :: rest)))) : own_WP p e below FE Q k n (T.setTop (mkF m pc ls (.long y :: .long x :: rest))) := by
  subst hpc
  exact own_of (fun t q => XS.lcmp X.here hx rfl hd rfl q) w
theorem own_dup (X : Stand p l e R s m args below meth c T locs cells slots) (hx : p.tables.exec = Jvm.exec) {v : Value} (hd : decode c.code pc = .ok (.dup, 1)) (hv : v.category = 1) (hpc : pc + 1 = pc') (w : own_WP p e below FE Q k n (T.setTop (mkF m pc' ls (v :: v :: rest)))) : own_WP p e below FE Q k n (T.setTop (mkF m pc ls (v :: rest))) := by
  subst hpc
  exact own_of (fun t q => XS.dup X.here hx rfl hd rfl hv q) w
theorem own_pop (X : Stand p l e R s m args below meth c T locs cells slots) (hx : p.tables.exec = Jvm.exec) {v : Value} (hd : decode c.code pc = .ok (.pop, 1)) (hv : v.category = 1) (hpc : pc + 1 = pc') (w : own_WP p e below FE Q k n (T.setTop (mkF m pc' ls rest))) : own_WP p e below FE Q k n (T.setTop (mkF m pc ls (v :: rest))) := by
  subst hpc
  exact own_of (fun t q => XS.pop X.here hx rfl hd rfl hv q) w
theorem own_goto (X : Stand p l e R s m args below meth c T locs cells slots) (hx : p.tables.exec = Jvm.exec) {o : Int} (hd : decode c.code pc = .ok (.goto o, 3)) (ho : 0 ≤ (pc : Int) + o) (hpc : ((pc : Int) + o).toNat = pc') (w : own_WP p e below FE Q k n (T.setTop (mkF m pc' ls rest))) : own_WP p e below FE Q k n (T.setTop (mkF m pc ls rest)) :=
  own_of (fun t q => XS.goto X.here hx rfl (pc0 := pc) (pc' := pc') rfl hd ho hpc q) w
theorem own_icmp_lt (X : Stand p l e R s m args below meth c T locs cells slots) (hx : p.tables.exec = Jvm.exec) {x y : Int32} {o : Int} {pf pt : Nat} (hd : decode c.code pc = .ok (.if_icmp .lt o, 3)) (hpf : pc + 3 = pf) (ho : 0 ≤ (pc : Int) + o) (hpt : ((pc : Int) + o).toNat = pt)
    (yes : x < y → own_WP p e below FE Q k n (T.setTop (mkF m pt ls rest))) (no : ¬ x < y → own_WP p e below FE Q k n (T.setTop (mkF m pf ls rest))) : own_WP p e below FE Q k n (T.setTop (mkF m pc ls (.int y :: .int x :: rest))) := by
  subst hpf
  by_cases hq : x < y
  · exact own_of (fun t q => XS.icmpYes X.here hx rfl (pc0 := pc) (pc' := pt) rfl hd rfl ((tlt hq).1) ho hpt q) (yes hq)
  · exact own_of (fun t q => XS.icmpNo X.here hx rfl hd rfl ((flt hq).1) q) (no hq)
theorem own_if_lt (X : Stand p l e R s m args below meth c T locs cells slots) (hx : p.tables.exec = Jvm.exec) {x : Int32} {o : Int} {pf pt : Nat} (hd : decode c.code pc = .ok (.ifCond .lt o, 3)) (hpf : pc + 3 = pf) (ho : 0 ≤ (pc : Int) + o) (hpt : ((pc : Int) + o).toNat = pt)
    (yes : x < 0 → own_WP p e below FE Q k n (T.setTop (mkF m pt ls rest))) (no : ¬ x < 0 → own_WP p e below FE Q k n (T.setTop (mkF m pf ls rest))) : own_WP p e below FE Q k n (T.setTop (mkF m pc ls (.int x :: rest))) := by
  subst hpf
  by_cases hq : x < 0
  · exact own_of (fun t q => XS.ifYes X.here hx rfl (pc0 := pc) (pc' := pt) rfl hd rfl ((if0 _ _).trans (tlt hq).1) ho hpt q) (yes hq)
  · exact own_of (fun t q => XS.ifNo X.here hx rfl hd rfl ((if0 _ _).trans (flt hq).1) q) (no hq)
theorem own_ifl_lt (X : Stand p l e R s m args below meth c T locs cells slots) (hx : p.tables.exec = Jvm.exec) {x y : Int64} {o : Int} {pf pt : Nat} (hd : decode c.code pc = .ok (.ifCond .lt o, 3)) (hpf : pc + 3 = pf) (ho : 0 ≤ (pc : Int) + o) (hpt : ((pc : Int) + o).toNat = pt)
    (yes : x < y → own_WP p e below FE Q k n (T.setTop (mkF m pt ls rest))) (no : ¬ x < y → own_WP p e below FE Q k n (T.setTop (mkF m pf ls rest))) : own_WP p e below FE Q k n (T.setTop (mkF m pc ls (.int (lcmpW x y) :: rest))) := by
  subst hpf
  by_cases hq : x < y
  · exact own_of (fun t q => XS.ifYes X.here hx rfl (pc0 := pc) (pc' := pt) rfl hd rfl ((if0 _ _).trans (tlt ((lw_lt x y).mpr hq)).1) ho hpt q) (yes hq)
  · exact own_of (fun t q => XS.ifNo X.here hx rfl hd rfl ((if0 _ _).trans (flt (fun z => hq ((lw_lt x y).mp z))).1) q) (no hq)
theorem own_icmp_ge (X : Stand p l e R s m args below meth c T locs cells slots) (hx : p.tables.exec = Jvm.exec) {x y : Int32} {o : Int} {pf pt : Nat} (hd : decode c.code pc = .ok (.if_icmp .ge o, 3)) (hpf : pc + 3 = pf) (ho : 0 ≤ (pc : Int) + o) (hpt : ((pc : Int) + o).toNat = pt)
    (yes : ¬ x < y → own_WP p e below FE Q k n (T.setTop (mkF m pt ls rest))) (no : x < y → own_WP p e below FE Q k n (T.setTop (mkF m pf ls rest))) : own_WP p e below FE Q k n (T.setTop (mkF m pc ls (.int y :: .int x :: rest))) := by
  subst hpf
  by_cases hq : ¬ x < y
  · exact own_of (fun t q => XS.icmpYes X.here hx rfl (pc0 := pc) (pc' := pt) rfl hd rfl ((flt hq).2.1) ho hpt q) (yes hq)
  · exact own_of (fun t q => XS.icmpNo X.here hx rfl hd rfl ((tlt (Classical.not_not.mp hq)).2.1) q) (no (Classical.not_not.mp hq))
theorem own_ifl_ge (X : Stand p l e R s m args below meth c T locs cells slots) (hx : p.tables.exec = Jvm.exec) {x y : Int64} {o : Int} {pf pt : Nat} (hd : decode c.code pc = .ok (.ifCond .ge o, 3)) (hpf : pc + 3 = pf) (ho : 0 ≤ (pc : Int) + o) (hpt : ((pc : Int) + o).toNat = pt)
    (yes : ¬ x < y → own_WP p e below FE Q k n (T.setTop (mkF m pt ls rest))) (no : x < y → own_WP p e below FE Q k n (T.setTop (mkF m pf ls rest))) : own_WP p e below FE Q k n (T.setTop (mkF m pc ls (.int (lcmpW x y) :: rest))) := by
  subst hpf
  by_cases hq : ¬ x < y
  · exact own_of (fun t q => XS.ifYes X.here hx rfl (pc0 := pc) (pc' := pt) rfl hd rfl ((if0 _ _).trans (flt (fun z => hq ((lw_lt x y).mp z))).2.1) ho hpt q) (yes hq)
  · exact own_of (fun t q => XS.ifNo X.here hx rfl hd rfl ((if0 _ _).trans (tlt ((lw_lt x y).mpr (Classical.not_not.mp hq))).2.1) q) (no (Classical.not_not.mp hq))
theorem own_icmp_gt (X : Stand p l e R s m args below meth c T locs cells slots) (hx : p.tables.exec = Jvm.exec) {x y : Int32} {o : Int} {pf pt : Nat} (hd : decode c.code pc = .ok (.if_icmp .gt o, 3)) (hpf : pc + 3 = pf) (ho : 0 ≤ (pc : Int) + o) (hpt : ((pc : Int) + o).toNat = pt)
    (yes : y < x → own_WP p e below FE Q k n (T.setTop (mkF m pt ls rest))) (no : ¬ y < x → own_WP p e below FE Q k n (T.setTop (mkF m pf ls rest))) : own_WP p e below FE Q k n (T.setTop (mkF m pc ls (.int y :: .int x :: rest))) := by
  subst hpf
  by_cases hq : y < x
  · exact own_of (fun t q => XS.icmpYes X.here hx rfl (pc0 := pc) (pc' := pt) rfl hd rfl ((tlt hq).2.2.1) ho hpt q) (yes hq)
  · exact own_of (fun t q => XS.icmpNo X.here hx rfl hd rfl ((flt hq).2.2.1) q) (no hq)
theorem own_ifl_gt (X : Stand p l e R s m args below meth c T locs cells slots) (hx : p.tables.exec = Jvm.exec) {x y : Int64} {o : Int} {pf pt : Nat} (hd : decode c.code pc = .ok (.ifCond .gt o, 3)) (hpf : pc + 3 = pf) (ho : 0 ≤ (pc : Int) + o) (hpt : ((pc : Int) + o).toNat = pt)
    (yes : y < x → own_WP p e below FE Q k n (T.setTop (mkF m pt ls rest))) (no : ¬ y < x → own_WP p e below FE Q k n (T.setTop (mkF m pf ls rest))) : own_WP p e below FE Q k n (T.setTop (mkF m pc ls (.int (lcmpW x y) :: rest))) := by
  subst hpf
  by_cases hq : y < x
  · exact own_of (fun t q => XS.ifYes X.here hx rfl (pc0 := pc) (pc' := pt) rfl hd rfl ((if0 _ _).trans (tlt ((lw_gt x y).mpr hq)).2.2.1) ho hpt q) (yes hq)
  · exact own_of (fun t q => XS.ifNo X.here hx rfl hd rfl ((if0 _ _).trans (flt (fun z => hq ((lw_gt x y).mp z))).2.2.1) q) (no hq)
theorem own_icmp_le (X : Stand p l e R s m args below meth c T locs cells slots) (hx : p.tables.exec = Jvm.exec) {x y : Int32} {o : Int} {pf pt : Nat} (hd : decode c.code pc = .ok (.if_icmp .le o, 3)) (hpf : pc + 3 = pf) (ho : 0 ≤ (pc : Int) + o) (hpt : ((pc : Int) + o).toNat = pt)
    (yes : ¬ y < x → own_WP p e below FE Q k n (T.setTop (mkF m pt ls rest))) (no : y < x → own_WP p e below FE Q k n (T.setTop (mkF m pf ls rest))) : own_WP p e below FE Q k n (T.setTop (mkF m pc ls (.int y :: .int x :: rest))) := by
  subst hpf
  by_cases hq : ¬ y < x
  · exact own_of (fun t q => XS.icmpYes X.here hx rfl (pc0 := pc) (pc' := pt) rfl hd rfl ((flt hq).2.2.2) ho hpt q) (yes hq)
  · exact own_of (fun t q => XS.icmpNo X.here hx rfl hd rfl ((tlt (Classical.not_not.mp hq)).2.2.2) q) (no (Classical.not_not.mp hq))
theorem own_if_le (X : Stand p l e R s m args below meth c T locs cells slots) (hx : p.tables.exec = Jvm.exec) {x : Int32} {o : Int} {pf pt : Nat} (hd : decode c.code pc = .ok (.ifCond .le o, 3)) (hpf : pc + 3 = pf) (ho : 0 ≤ (pc : Int) + o) (hpt : ((pc : Int) + o).toNat = pt)
    (yes : ¬ 0 < x → own_WP p e below FE Q k n (T.setTop (mkF m pt ls rest))) (no : 0 < x → own_WP p e below FE Q k n (T.setTop (mkF m pf ls rest))) : own_WP p e below FE Q k n (T.setTop (mkF m pc ls (.int x :: rest))) := by
  subst hpf
  by_cases hq : ¬ 0 < x
  · exact own_of (fun t q => XS.ifYes X.here hx rfl (pc0 := pc) (pc' := pt) rfl hd rfl ((if0 _ _).trans (flt hq).2.2.2) ho hpt q) (yes hq)
  · exact own_of (fun t q => XS.ifNo X.here hx rfl hd rfl ((if0 _ _).trans (tlt (Classical.not_not.mp hq)).2.2.2) q) (no (Classical.not_not.mp hq))
theorem own_ifl_le (X : Stand p l e R s m args below meth c T locs cells slots) (hx : p.tables.exec = Jvm.exec) {x y : Int64} {o : Int} {pf pt : Nat} (hd : decode c.code pc = .ok (.ifCond .le o, 3)) (hpf : pc + 3 = pf) (ho : 0 ≤ (pc : Int) + o) (hpt : ((pc : Int) + o).toNat = pt)
    (yes : ¬ y < x → own_WP p e below FE Q k n (T.setTop (mkF m pt ls rest))) (no : y < x → own_WP p e below FE Q k n (T.setTop (mkF m pf ls rest))) : own_WP p e below FE Q k n (T.setTop (mkF m pc ls (.int (lcmpW x y) :: rest))) := by
  subst hpf
  by_cases hq : ¬ y < x
  · exact own_of (fun t q => XS.ifYes X.here hx rfl (pc0 := pc) (pc' := pt) rfl hd rfl ((if0 _ _).trans (flt (fun z => hq ((lw_gt x y).mp z))).2.2.2) ho hpt q) (yes hq)
  · exact own_of (fun t q => XS.ifNo X.here hx rfl hd rfl ((if0 _ _).trans (tlt ((lw_gt x y).mpr (Classical.not_not.mp hq))).2.2.2) q) (no (Classical.not_not.mp hq))
theorem own_icmp_eq (X : Stand p l e R s m args below meth c T locs cells slots) (hx : p.tables.exec = Jvm.exec) {x y : Int32} {o : Int} {pf pt : Nat} (hd : decode c.code pc = .ok (.if_icmp .eq o, 3)) (hpf : pc + 3 = pf) (ho : 0 ≤ (pc : Int) + o) (hpt : ((pc : Int) + o).toNat = pt)
    (yes : x = y → own_WP p e below FE Q k n (T.setTop (mkF m pt ls rest))) (no : ¬ x = y → own_WP p e below FE Q k n (T.setTop (mkF m pf ls rest))) : own_WP p e below FE Q k n (T.setTop (mkF m pc ls (.int y :: .int x :: rest))) := by
  subst hpf
  by_cases hq : x = y
  · exact own_of (fun t q => XS.icmpYes X.here hx rfl (pc0 := pc) (pc' := pt) rfl hd rfl ((teq hq).1) ho hpt q) (yes hq)
  · exact own_of (fun t q => XS.icmpNo X.here hx rfl hd rfl ((feq hq).1) q) (no hq)
theorem own_if_eq (X : Stand p l e R s m args below meth c T locs cells slots) (hx : p.tables.exec = Jvm.exec) {x : Int32} {o : Int} {pf pt : Nat} (hd : decode c.code pc = .ok (.ifCond .eq o, 3)) (hpf : pc + 3 = pf) (ho : 0 ≤ (pc : Int) + o) (hpt : ((pc : Int) + o).toNat = pt)
    (yes : x = 0 → own_WP p e below FE Q k n (T.setTop (mkF m pt ls rest))) (no : ¬ x = 0 → own_WP p e below FE Q k n (T.setTop (mkF m pf ls rest))) : own_WP p e below FE Q k n (T.setTop (mkF m pc ls (.int x :: rest))) := by
  subst hpf
  by_cases hq : x = 0
  · exact own_of (fun t q => XS.ifYes X.here hx rfl (pc0 := pc) (pc' := pt) rfl hd rfl ((if0 _ _).trans (teq hq).1) ho hpt q) (yes hq)
  · exact own_of (fun t q => XS.ifNo X.here hx rfl hd rfl ((if0 _ _).trans (feq hq).1) q) (no hq)
theorem own_icmp_ne (X : Stand p l e R s m args below meth c T locs cells slots) (hx : p.tables.exec = Jvm.exec) {x y : Int32} {o : Int} {pf pt : Nat} (hd : decode c.code pc = .ok (.if_icmp .ne o, 3)) (hpf : pc + 3 = pf) (ho : 0 ≤ (pc : Int) + o) (hpt : ((pc : Int) + o).toNat = pt)
    (yes : ¬ x = y → own_WP p e below FE Q k n (T.setTop (mkF m pt ls rest))) (no : x = y → own_WP p e below FE Q k n (T.setTop (mkF m pf ls rest))) : own_WP p e below FE Q k n (T.setTop (mkF m pc ls (.int y :: .int x :: rest))) := by
  subst hpf
  by_cases hq : ¬ x = y
  · exact own_of (fun t q => XS.icmpYes X.here hx rfl (pc0 := pc) (pc' := pt) rfl hd rfl ((feq hq).2) ho hpt q) (yes hq)
  · exact own_of (fun t q => XS.icmpNo X.here hx rfl hd rfl ((teq (Classical.not_not.mp hq)).2) q) (no (Classical.not_not.mp hq))
theorem own_if_ne (X : Stand p l e R s m args below meth c T locs cells slots) (hx : p.tables.exec = Jvm.exec) {x : Int32} {o : Int} {pf pt : Nat} (hd : decode c.code pc = .ok (.ifCond .ne o, 3)) (hpf : pc + 3 = pf) (ho : 0 ≤ (pc : Int) + o) (hpt : ((pc : Int) + o).toNat = pt)
    (yes : ¬ x = 0 → own_WP p e below FE Q k n (T.setTop (mkF m pt ls rest))) (no : x = 0 → own_WP p e below FE Q k n (T.setTop (mkF m pf ls rest))) : own_WP p e below FE Q k n (T.setTop (mkF m pc ls (.int x :: rest))) := by
  subst hpf
  by_cases hq : ¬ x = 0
  · exact own_of (fun t q => XS.ifYes X.here hx rfl (pc0 := pc) (pc' := pt) rfl hd rfl ((if0 _ _).trans (feq hq).2) ho hpt q) (yes hq)
  · exact own_of (fun t q => XS.ifNo X.here hx rfl hd rfl ((if0 _ _).trans (teq (Classical.not_not.mp hq)).2) q) (no (Classical.not_not.mp hq))
theorem own_getF (X : Stand p l e R s m args below meth c T locs cells slots) (hx : p.tables.exec = Jvm.exec) (hZ : Z.Warmed39 s.vm) {own R0 O nm d host : String} {idx : Nat} (hown : s.vm.findClass own = some m.cls) (w1 : (Jvm.Cond.fieldLink own idx R0 nm d).before a0 Z = true ∨ (Jvm.Cond.fieldLinkNest own idx R0 nm d host).before a0 Z = true) (via : Via Z R0 O nm d) (eT : T.heap = h) {b : Addr} {v : Value} (F : Fld Z h b O nm d v) (hd : decode c.code pc = .ok (.getfield idx, 3)) (hpc : pc + 3 = pc')
    (w : ∀ T', Stand p l e R s m args below meth c T' locs cells slots → T'.heap = h → own_WP p e below FE Q k n (T'.setTop (mkF m pc' ls (v :: rest)))) : own_WP p e below FE Q k n (T.setTop (mkF m pc ls (.ref b :: rest))) := by
  subst hpc
  obtain ⟨T', X', e', st⟩ := getF X hx hZ hown w1 via eT F (g := mkF m pc ls (.ref b :: rest)) rfl rfl hd
  exact own_of st (w T' X' e')
theorem own_putF (X : Stand p l e R s m args below meth c T locs cells slots) (hx : p.tables.exec = Jvm.exec) (hZ : Z.Warmed39 s.vm) {own R0 O nm d host C : String} {idx kk : Nat} {ty : FieldType} (hown : s.vm.findClass own = some m.cls) (w1 : (Jvm.Cond.fieldLink own idx R0 nm d).before a0 Z = true ∨ (Jvm.Cond.fieldLinkNest own idx R0 nm d host).before a0 Z = true) (via : Via Z R0 O nm d) (eT : T.heap = h) {b : Addr} {v old : Value} (F : Fld Z h b O nm d old) (E : Exa Z h b C) (L : (Jvm.Cond.lays C O nm d).before a0 Z = true ∨ ((Jvm.Cond.laysFinal C O nm d).before a0 Z = true ∧ own = O ∧ meth.name = "<init>")) (wi : (Jvm.Cond.instantiable C kk).before a0 Z = true) (hty : parseFieldDescriptor d = some ty) (hn : narrow ty v = v) (hf : fits ty v = true) (hd : decode c.code pc = .ok (.putfield idx, 3)) (hpc : pc + 3 = pc')
    (w : ∀ T' h', Stand p l e R s m args below meth c T' (locs ++ [⟨b, Jvm.RoadKit.slotOf Z O nm d⟩]) cells slots → T'.heap = h' → Wr h h' b (Jvm.RoadKit.slotOf Z O nm d) v → own_WP p e below FE Q k n (T'.setTop (mkF m pc' ls rest))) : own_WP p e below FE Q k n (T.setTop (mkF m pc ls (v :: .ref b :: rest))) := by
  subst hpc
  obtain ⟨T', h', X', e', W', st⟩ := putF X hx hZ hown w1 via eT F E L wi hty hn hf (g := mkF m pc ls (v :: .ref b :: rest)) rfl rfl hd
  exact own_of st (w T' h' X' e' W')
theorem own_new (X : Stand p l e R s m args below meth c T locs cells slots) (hx : p.tables.exec = Jvm.exec) (hZ : Z.Warmed39 s.vm) {own C : String} {idx nn : Nat} (hown : s.vm.findClass own = some m.cls) (w1 : (Jvm.Cond.classLink own idx C).before a0 Z = true) (wi : (Jvm.Cond.instantiable C nn).before a0 Z = true) (wz : (Jvm.Cond.initialized C).before a0 Z = true) (eT : T.heap = h) (hd : decode c.code pc = .ok (.new idx, 3)) (hc : cells + 1 ≤ R.cells) (hl : slots + nn ≤ R.slots) (hpc : pc + 3 = pc')
    (w : ∀ T' h' b, b = h.size → Stand p l e R s m args below meth c T' locs (cells + 1) (slots + nn) → T'.heap = h' → Ext h h' → Exa Z h' b C → (∀ {O nm d : String} {ty : FieldType}, Laid Z a0 C O nm d → parseFieldDescriptor d = some ty → Fld Z h' b O nm d (defaultValue ty)) → own_WP p e below FE Q k n (T'.setTop (mkF m pc' ls (.ref b :: rest)))) : own_WP p e below FE Q k n (T.setTop (mkF m pc ls rest)) := by
  subst hpc
  obtain ⟨T', h', X', e', E', A', D', -, st⟩ := newO X hx hZ hown w1 wi wz eT (g := mkF m pc ls rest) rfl hd hc hl
  exact own_of st (w T' h' _ rfl X' e' E' A' D')
theorem own_newP (X : Stand p l e R s m args below meth c T locs cells slots) (hx : p.tables.exec = Jvm.exec) (hZ : Z.Warmed39 s.vm) {aty : ArrayType} (w1 : (Jvm.Cond.arrayClass (newarray.typeOf aty)).before a0 Z = true) (eT : T.heap = h) (hd : decode c.code pc = .ok (.newarray aty, 2)) {z : Int32} (hz : ¬ z < 0) {cap : Nat} (hcap : z.toNatClampNeg ≤ cap) (hb : cap * 8 ≤ 536870912) (hc : cells + 1 ≤ R.cells) (hl : slots + cap ≤ R.slots) (hpc : pc + 2 = pc')
    (w : ∀ T' h' cA b, b = h.size → Stand p l e R s m args below meth c T' locs (cells + 1) (slots + cap) → T'.heap = h' → Ext h h' → Arr Z h' b (newA cA (newarray.typeOf aty) z) (newarray.typeOf aty) → own_WP p e below FE Q k n (T'.setTop (mkF m pc' ls (.ref b :: rest)))) : own_WP p e below FE Q k n (T.setTop (mkF m pc ls (.int z :: rest))) := by
  subst hpc
  obtain ⟨T', h', cA, X', e', E', A', st⟩ := newP X hx hZ w1 eT (g := mkF m pc ls (.int z :: rest)) rfl hd rfl hz hcap hb hc hl
  exact own_of st (w T' h' cA _ rfl X' e' E' A')
theorem own_initO (X : Stand p l e R s m args below meth c T locs cells slots) (hx : p.tables.exec = Jvm.exec) (hZ : Z.Warmed39 s.vm) {own : String} {idx : Nat} (hown : s.vm.findClass own = some m.cls) (w1 : (Jvm.Cond.methodLink own idx Lib.objectInit).before a0 Z = true) (w2 : (Jvm.Cond.instanceMethod Lib.objectInit).before a0 Z = true) (w3 : (Jvm.Cond.code Lib.objectInit ⟨#[0xb1]⟩ 1 none).before a0 Z = true) (eT : T.heap = h) (hsz : ls.size = c.maxLocals) {b : Addr} (hd : decode c.code pc = .ok (.invokespecial idx, 3)) (hf : 1 ≤ R.frames) {W : Nat} (hW : (rest.map fun v => v.category).sum ≤ W) (hl : W + 12 ≤ R.locals) (hpc : pc + 3 = pc')
    (w : ∀ T', Stand p l e R s m args below meth c T' locs cells slots → T'.heap = h → own_WP p e below FE Q k n (T'.setTop (mkF m pc' ls rest))) : own_WP p e below FE Q k n (T.setTop (mkF m pc ls (.ref b :: rest))) := by
  subst hpc
  obtain ⟨T', X', e', st⟩ := initO X hx hZ hown w1 w2 w3 eT (g := mkF m pc ls (.ref b :: rest)) rfl hsz rfl hd hf (W := W) (by show 2 * 0 + _ ≤ _; omega) hl
  exact own_of st (w T' X' e')
theorem own_callS (X : Stand p l e R s m args below meth c T locs cells slots) (hx : p.tables.exec = Jvm.exec) (hZ : Z.Warmed39 s.vm) {own : String} {idx : Nat} {y : MethodName} {bytes : ByteArray} {maxL : Nat} {ret : Option FieldType} {rm : Room} {as' : Array Value} {Q' : Option Value → Heap → List Loc → Prop} (hown : s.vm.findClass own = some m.cls) (w1 : (Jvm.Cond.methodLink own idx y).before a0 Z = true) (w2 : (Jvm.Cond.static y).before a0 Z = true) (w3 : (Jvm.Cond.initialized y.cls).before a0 Z = true) (w4 : (Jvm.Cond.code y bytes maxL ret).before a0 Z = true) (hy : y.cls ≠ "java/lang/invoke/MethodHandle" ∧ y.cls ≠ "java/lang/invoke/VarHandle")
    (C : own_Con l Z y bytes maxL ret rm as' h Q') (eT : T.heap = h) {ps : List FieldType} {rt : Option FieldType} (hpd : parseMethodDescriptor y.desc = some ⟨ps, rt⟩) (argsL rest : List Value) (ha : argsL.toArray = as') (hal : argsL.length = ps.length) {st : List Value} (hst : st = argsL.reverse ++ rest) {W : Nat} (hW : (rest.map fun v => v.category).sum ≤ W) (hf : rm.frames + 1 ≤ R.frames) (hl : W + (maxL + 11) + rm.locals ≤ R.locals) (hsz : ls.size = c.maxLocals) (hd : decode c.code pc = .ok (.invokestatic idx, 3)) (hc : cells + rm.cells ≤ R.cells) (hs : slots + rm.slots ≤ R.slots) (hpc : pc + 3 = pc')
    (w : ∀ v T' L, Stand p l e R s m args below meth c T' (locs ++ L) (cells + rm.cells) (slots + rm.slots) → Q' v T'.heap L → own_WP p e below FE Q k n (T'.setTop (mkF m pc' ls (v.toList ++ rest)))) : own_WP p e below FE Q k n (T.setTop (mkF m pc ls st)) := by
  subst hpc hst ha
  obtain ⟨v, vm1, ⟨T', L', k', n'⟩, -, X', ⟨Lc, hQ, l1, y1, z1⟩, stp⟩ := Jvm.LawKit.callS X hx (y := y) hown (mvT hZ w1) (mvT hZ w2) (mvT hZ w3) (mvT hZ w4) hy (backOf (W := W) (C []) hZ w4 w3 hf hl) (g := mkF m pc ls (argsL.reverse ++ rest)) rfl hsz (argsL := argsL) (rest := rest) (lenOf hpd hal) rfl (by show 2 * 0 + _ ≤ _; omega) hd (fun _ _ => ⟨rfl, eT, hc, hs⟩)
  dsimp only [Pt.U, Pt.locs, Pt.cells, Pt.slots] at X' l1 y1 z1 stp hQ
  subst l1 y1 z1
  exact own_of stp (w _ _ _ X' hQ)
theorem own_callN (X : Stand p l e R s m args below meth c T locs cells slots) (hx : p.tables.exec = Jvm.exec) (hZ : Z.Warmed39 s.vm) {own : String} {idx : Nat} {y : MethodName} {bytes : ByteArray} {maxL : Nat} {rm : Room} {as' : Array Value} {Q' : Option Value → Heap → List Loc → Prop} (hy1 : y.name = "<init>") (hown : s.vm.findClass own = some m.cls) (w1 : (Jvm.Cond.methodLink own idx y).before a0 Z = true) (w2 : (Jvm.Cond.instanceMethod y).before a0 Z = true) (w3 : (Jvm.Cond.initialized y.cls).before a0 Z = true) (w4 : (Jvm.Cond.code y bytes maxL none).before a0 Z = true) (hy : y.cls ≠ "java/lang/invoke/MethodHandle" ∧ y.cls ≠ "java/lang/invoke/VarHandle")
    (C : own_Con l Z y bytes maxL none rm as' h Q') (eT : T.heap = h) {ps : List FieldType} {rt : Option FieldType} (hpd : parseMethodDescriptor y.desc = some ⟨ps, rt⟩) (b : Addr) (argsL rest : List Value) (ha : (.ref b :: argsL).toArray = as') (hal : argsL.length = ps.length) {st : List Value} (hst : st = argsL.reverse ++ .ref b :: rest) {W : Nat} (hW : (rest.map fun v => v.category).sum ≤ W) (hf : rm.frames + 1 ≤ R.frames) (hl : W + (maxL + 11) + rm.locals ≤ R.locals) (hsz : ls.size = c.maxLocals) (hd : decode c.code pc = .ok (.invokespecial idx, 3)) (hc : cells + rm.cells ≤ R.cells) (hs : slots + rm.slots ≤ R.slots) (hpc : pc + 3 = pc')
    (w : ∀ v T' L, Stand p l e R s m args below meth c T' (locs ++ L) (cells + rm.cells) (slots + rm.slots) → Q' v T'.heap L → own_WP p e below FE Q k n (T'.setTop (mkF m pc' ls (v.toList ++ rest)))) : own_WP p e below FE Q k n (T.setTop (mkF m pc ls st)) := by
  subst hpc hst ha
  obtain ⟨v, vm1, ⟨T', L', k', n'⟩, -, X', ⟨Lc, hQ, l1, y1, z1⟩, stp⟩ := X.specialBack hx (y := y) hy1 hown (mvT hZ w1) (mvT hZ w2) (mvT hZ w4) hy (backOf (W := W) (C []) hZ w4 w3 hf hl) (g := mkF m pc ls (argsL.reverse ++ .ref b :: rest)) rfl hsz (Steps.refl _) (a := b) (argsL := argsL) (rest := rest) (lenOf hpd hal) rfl (by show 2 * 0 + _ ≤ _; omega) hd (fun _ _ => ⟨rfl, eT, hc, hs⟩)
  dsimp only [Pt.U, Pt.locs, Pt.cells, Pt.slots] at X' l1 y1 z1 stp hQ
  subst l1 y1 z1
  exact own_of (fun t q => stp.trans q) (w _ _ _ X' hQ)
theorem own_callV (X : Stand p l e R s m args below meth c T locs cells slots) (hx : p.tables.exec = Jvm.exec) (hZ : Z.Warmed39 s.vm) {own D : String} {idx : Nat} {y z : MethodName} {bytes : ByteArray} {maxL : Nat} {ret : Option FieldType} {rm : Room} {as' : Array Value} {Q' : Option Value → Heap → List Loc → Prop} (hown : s.vm.findClass own = some m.cls) (w1 : (Jvm.Cond.methodLink own idx y).before a0 Z = true) (wd : (Jvm.Cond.declares y).before a0 Z = true) (hnf : NotFace s y) (ws : (Jvm.Cond.selects D y z).before a0 Z = true) (w2 : (Jvm.Cond.instanceMethod z).before a0 Z = true) (w3 : (Jvm.Cond.initialized z.cls).before a0 Z = true) (w4 : (Jvm.Cond.code z bytes maxL ret).before a0 Z = true) (hy : y.cls ≠ "java/lang/invoke/MethodHandle" ∧ y.cls ≠ "java/lang/invoke/VarHandle") {b : Addr} (E : Exa Z h b D)
    (C : own_Con l Z z bytes maxL ret rm as' h Q') (eT : T.heap = h) {ps : List FieldType} {rt : Option FieldType} (hpd : parseMethodDescriptor y.desc = some ⟨ps, rt⟩) (argsL rest : List Value) (ha : (.ref b :: argsL).toArray = as') (hal : argsL.length = ps.length) {st : List Value} (hst : st = argsL.reverse ++ .ref b :: rest) {W : Nat} (hW : (rest.map fun v => v.category).sum ≤ W) (hf : rm.frames + 1 ≤ R.frames) (hl : W + (maxL + 11) + rm.locals ≤ R.locals) (hsz : ls.size = c.maxLocals) (hd : decode c.code pc = .ok (.invokevirtual idx, 3)) (hc : cells + rm.cells ≤ R.cells) (hs : slots + rm.slots ≤ R.slots) (hpc : pc + 3 = pc')
    (w : ∀ v T' L, Stand p l e R s m args below meth c T' (locs ++ L) (cells + rm.cells) (slots + rm.slots) → Q' v T'.heap L → own_WP p e below FE Q k n (T'.setTop (mkF m pc' ls (v.toList ++ rest)))) : own_WP p e below FE Q k n (T.setTop (mkF m pc ls st)) := by
  subst hpc hst ha
  obtain ⟨cq, kq, qa, qb, qc⟩ := isOf (T := T) hZ eT E
  obtain ⟨v, vm1, ⟨T', L', k', n'⟩, -, X', ⟨Lc, hQ, l1, y1, z1⟩, stp⟩ := X.virtualBack hx (y := y) (z := z) hown (mvT hZ w1) (mvT hZ wd) hnf (mvT hZ ws) (mvT hZ w2) hy (backOf (W := W) (C []) hZ w4 w3 hf hl) qa qc (g := mkF m pc ls (argsL.reverse ++ .ref b :: rest)) rfl hsz (Steps.refl _) (argsL := argsL) (rest := rest) (lenOf hpd hal) rfl (by show 2 * 0 + _ ≤ _; omega) hd (fun _ _ => ⟨rfl, eT, hc, hs⟩)
  dsimp only [Pt.U, Pt.locs, Pt.cells, Pt.slots] at X' l1 y1 z1 stp hQ
  subst l1 y1 z1
  exact own_of (fun t q => stp.trans q) (w _ _ _ X' hQ)

theorem own_laload (X : Stand p l e R s m args below meth c T locs cells slots) (hx : p.tables.exec = Jvm.exec) (hZ : Z.Warmed39 s.vm) (eT : T.heap = h) {b : Addr} {kk : ClassId} {z j : Int32} {vs : List Value} {dv v : Value} (F : Arv Z h b kk .long z vs dv) (hj : ¬ j < 0 ∧ j < z) (hv : vs.getD j.toNatClampNeg dv = v) (hd : decode c.code pc = .ok (.laload, 1)) (hpc : pc + 1 = pc') (w : own_WP p e below FE Q k n (T.setTop (mkF m pc' ls (v :: rest)))) : own_WP p e below FE Q k n (T.setTop (mkF m pc ls (.int j :: .ref b :: rest))) := by
  subst hpc
  obtain ⟨cl, A, q1, S, q3, H, G⟩ := F
  exact own_of (fun t q => X.laload hx (j := j) (v := v) (by rw [eT]; exact A.1) (State.isArrayOf_alike hZ.alike A.2.1) A.2.2 (inb_of S hj) (H.at (inb_of S hj) hv) (g := mkF m pc ls (.int j :: .ref b :: rest)) rfl rfl hd _ q) w
theorem own_baload (X : Stand p l e R s m args below meth c T locs cells slots) (hx : p.tables.exec = Jvm.exec) (hZ : Z.Warmed39 s.vm) (eT : T.heap = h) {b : Addr} {kk : ClassId} {z j : Int32} {vs : List Value} {dv v : Value} (F : Arv Z h b kk .byte z vs dv) (hj : ¬ j < 0 ∧ j < z) (hv : vs.getD j.toNatClampNeg dv = v) (hd : decode c.code pc = .ok (.baload, 1)) (hpc : pc + 1 = pc') (w : own_WP p e below FE Q k n (T.setTop (mkF m pc' ls (v :: rest)))) : own_WP p e below FE Q k n (T.setTop (mkF m pc ls (.int j :: .ref b :: rest))) := by
  subst hpc
  obtain ⟨cl, A, q1, S, q3, H, G⟩ := F
  exact own_of (fun t q => X.baloadBytes hx (j := j) (v := v) (by rw [eT]; exact A.1) (State.isArrayOf_alike hZ.alike A.2.1) A.2.2 (inb_of S hj) (H.at (inb_of S hj) hv) (g := mkF m pc ls (.int j :: .ref b :: rest)) rfl rfl hd _ q) w
theorem own_caload (X : Stand p l e R s m args below meth c T locs cells slots) (hx : p.tables.exec = Jvm.exec) (hZ : Z.Warmed39 s.vm) (eT : T.heap = h) {b : Addr} {kk : ClassId} {z j : Int32} {vs : List Value} {dv v : Value} (F : Arv Z h b kk .char z vs dv) (hj : ¬ j < 0 ∧ j < z) (hv : vs.getD j.toNatClampNeg dv = v) (hd : decode c.code pc = .ok (.caload, 1)) (hpc : pc + 1 = pc') (w : own_WP p e below FE Q k n (T.setTop (mkF m pc' ls (v :: rest)))) : own_WP p e below FE Q k n (T.setTop (mkF m pc ls (.int j :: .ref b :: rest))) := by
  subst hpc
  obtain ⟨cl, A, q1, S, q3, H, G⟩ := F
  exact own_of (fun t q => X.caload hx (j := j) (v := v) (by rw [eT]; exact A.1) (State.isArrayOf_alike hZ.alike A.2.1) A.2.2 (inb_of S hj) (H.at (inb_of S hj) hv) (g := mkF m pc ls (.int j :: .ref b :: rest)) rfl rfl hd _ q) w
theorem own_lastore (X : Stand p l e R s m args below meth c T locs cells slots) (hx : p.tables.exec = Jvm.exec) (hZ : Z.Warmed39 s.vm) (eT : T.heap = h) {b : Addr} {kk : ClassId} {z j : Int32} {vs : List Value} {dv : Value} {x : Int64} (F : Arv Z h b kk .long z vs dv) (hj : ¬ j < 0 ∧ j < z) (i : Nat) (hi : j.toNatClampNeg = i) (hlen : i < vs.length) (hd : decode c.code pc = .ok (.lastore, 1)) (hpc : pc + 1 = pc') (w : ∀ T' h', Stand p l e R s m args below meth c T' (locs ++ [⟨b, j.toNatClampNeg⟩]) cells slots → T'.heap = h' → Wr h h' b j.toNatClampNeg (.long x) → Arv Z h' b kk .long z (vs.set i (.long x)) dv → own_WP p e below FE Q k n (T'.setTop (mkF m pc' ls rest))) : own_WP p e below FE Q k n (T.setTop (mkF m pc ls (.long x :: .int j :: .ref b :: rest))) := by
  subst hpc
  obtain ⟨cl, A, q1, S, q3, H, G⟩ := F
  obtain ⟨T', h', X', e', W', st⟩ := stJ X hx hZ eT A (j := j) (inb_of S hj) (g := mkF m pc ls (.long x :: .int j :: .ref b :: rest)) rfl rfl hd
  exact own_of st (w T' h' X' e' W' (Arv.set A q1 S q3 H G rfl W' i hi hlen))
theorem own_bastore (X : Stand p l e R s m args below meth c T locs cells slots) (hx : p.tables.exec = Jvm.exec) (hZ : Z.Warmed39 s.vm) (eT : T.heap = h) {b : Addr} {kk : ClassId} {z j : Int32} {vs : List Value} {dv : Value} {x : Int32} (F : Arv Z h b kk .byte z vs dv) (hj : ¬ j < 0 ∧ j < z) (i : Nat) (hi : j.toNatClampNeg = i) (hlen : i < vs.length) (hd : decode c.code pc = .ok (.bastore, 1)) (hpc : pc + 1 = pc') (w : ∀ T' h', Stand p l e R s m args below meth c T' (locs ++ [⟨b, j.toNatClampNeg⟩]) cells slots → T'.heap = h' → Wr h h' b j.toNatClampNeg (.int (nar .byte x)) → Arv Z h' b kk .byte z (vs.set i (.int (nar .byte x))) dv → own_WP p e below FE Q k n (T'.setTop (mkF m pc' ls rest))) : own_WP p e below FE Q k n (T.setTop (mkF m pc ls (.int x :: .int j :: .ref b :: rest))) := by
  subst hpc
  obtain ⟨cl, A, q1, S, q3, H, G⟩ := F
  obtain ⟨T', h', X', e', W', st⟩ := stB X hx hZ eT A (j := j) (inb_of S hj) (g := mkF m pc ls (.int x :: .int j :: .ref b :: rest)) rfl rfl hd
  exact own_of st (w T' h' X' e' W' (Arv.set A q1 S q3 H G (fits_nar_byte x) W' i hi hlen))
theorem own_arrlen (X : Stand p l e R s m args below meth c T locs cells slots) (hx : p.tables.exec = Jvm.exec) (hZ : Z.Warmed39 s.vm) (eT : T.heap = h) {b : Addr} {kk : ClassId} {z : Int32} {vs : List Value} {dv : Value} {ty : FieldType} (F : Arv Z h b kk ty z vs dv) (hd : decode c.code pc = .ok (.arraylength, 1)) (hpc : pc + 1 = pc') (w : own_WP p e below FE Q k n (T.setTop (mkF m pc' ls (.int z :: rest)))) : own_WP p e below FE Q k n (T.setTop (mkF m pc ls (.ref b :: rest))) := by
  subst hpc
  obtain ⟨cl, A, q1, S, q3, H, G⟩ := F
  refine own_of (fun t q => X.arraylength hx (by rw [eT]; exact A.1) (State.isArrayOf_alike hZ.alike A.2.1) (g := mkF m pc ls (.ref b :: rest)) rfl rfl hd _ ?_) w
  rw [len_of S q3]
  exact q
end OwnWP
/-! own_: bodies that may intern -/
theorem own_FW {s0 : State} {vm1 : Vm} {k1 : Nat} {T : State} {k n : Nat} (hS : s0.Since vm1 k1) (hk : k1 ≤ T.heap.size) : ∀ o s₂ L, s₂.heap = T.heap → FrameEnd (s0.setVm vm1) o s₂ L k n → ReturnedEndW s0 o s₂ L k n := by
  intro o s₂ L hh ⟨h1, h2, h3⟩
  obtain ⟨a, b, c'⟩ := hS.ended (U := s₂) h2 (by rw [hh]; exact hk) h3
  exact ⟨h1, a, b, c'⟩
def own_Old (Z : State) (n0 : Nat) (h : Heap) : Prop := Old Z Z.heap.size h ∧ Z.heap.size ≤ n0
theorem own_Old.x {Z : State} {h : Heap} {n0 : Nat} (X : own_Old Z n0 h) : Ext Z.heap h := X.1.2
theorem own_Old.ext {Z : State} {h h' : Heap} {n0 : Nat} (X : own_Old Z n0 h) (E : Ext h h') : own_Old Z n0 h' := ⟨X.1.ext E, X.2⟩
theorem own_Old.keep {Z : State} {h h' : Heap} {n0 : Nat} {ws : List Addr} (X : own_Old Z n0 h) (K : Keep h h' ws) (q : ∀ x ∈ ws, n0 ≤ x) : own_Old Z n0 h' := ⟨X.1.keep K fun x hx => Nat.le_trans X.2 (q x hx), X.2⟩
theorem own_Old.wr {Z : State} {h h' : Heap} {n0 : Nat} {a : Addr} {sl : Nat} {v : Value} (X : own_Old Z n0 h) (W : Wr h h' a sl v) (q : n0 ≤ a) : own_Old Z n0 h' := ⟨X.1.wr W (Nat.le_trans X.2 q), X.2⟩
section OwnStr
variable {p : Program} {l : Launch} {e : Env} {R : Room} {s : State} {m : MethodId} {args : Array Value} {below : List Frame} {meth : Method} {c : Code} {T : State} {locs : List Loc} {cells slots : Nat} {Z : State} {a0 : Array Value} {h : Heap} {Q : Option Value → Heap → List Loc → Prop} {FE : Outcome → State → List Loc → Nat → Nat → Prop} {k n : Nat} {a a' : State} {pc pc' : Nat} {ls l' : Array Slot} {rest : List Value}
theorem own_getS (X : Stand p l e R s m args below meth c T locs cells slots) (hx : p.tables.exec = Jvm.exec) (hZ : Z.Warmed39 s.vm) {own R0 O nm d host : String} {idx : Nat} (hown : s.vm.findClass own = some m.cls) (w1 : (Jvm.Cond.fieldLink own idx R0 nm d).before a0 Z = true ∨ (Jvm.Cond.fieldLinkNest own idx R0 nm d host).before a0 Z = true) (via : Via Z R0 O nm d) (eT : T.heap = h) {v : Value} (F' : Sta Z h O nm d v) (hd : decode c.code pc = .ok (.getstatic idx, 3)) (hpc : pc + 3 = pc')
    (w : ∀ T', Stand p l e R s m args below meth c T' locs cells slots → T'.heap = h → own_WP p e below FE Q k n (T'.setTop (mkF m pc' ls (v :: rest)))) : own_WP p e below FE Q k n (T.setTop (mkF m pc ls rest)) := by
  subst hpc
  obtain ⟨T', X', e', st⟩ := getS2 X hx hZ hown w1 via eT F' (g := mkF m pc ls rest) rfl hd
  exact own_of st (w T' X' e')
def own_BA (Z : State) (k : ClassId) : Prop := Z.vm.findClass "[B" = some k
theorem own_newPB (X : Stand p l e R s m args below meth c T locs cells slots) (hx : p.tables.exec = Jvm.exec) (hZ : Z.Warmed39 s.vm) (w1 : (Jvm.Cond.arrayClass (newarray.typeOf .byte)).before a0 Z = true) (eT : T.heap = h) (hd : decode c.code pc = .ok (.newarray .byte, 2)) {z : Int32} (hz : ¬ z < 0) {cap : Nat} (hcap : z.toNatClampNeg ≤ cap) (hb : cap * 8 ≤ 536870912) (hc : cells + 1 ≤ R.cells) (hl : slots + cap ≤ R.slots) (hpc : pc + 2 = pc')
    (w : ∀ T' h' cA b, b = h.size → Stand p l e R s m args below meth c T' locs (cells + 1) (slots + cap) → T'.heap = h' → Ext h h' → Arr Z h' b (newA cA (newarray.typeOf .byte) z) (newarray.typeOf .byte) → own_BA Z cA → own_WP p e below FE Q k n (T'.setTop (mkF m pc' ls (.ref b :: rest)))) : own_WP p e below FE Q k n (T.setTop (mkF m pc ls (.int z :: rest))) := by
  subst hpc
  obtain ⟨T', h', cA, X', e', E', A', F', st⟩ := newPE X hx hZ w1 eT (g := mkF m pc ls (.int z :: rest)) rfl hd rfl hz hcap hb hc hl (ad := "[B") (by decide)
  refine own_of st (w T' h' cA _ rfl X' e' E' A' ?_)
  obtain ⟨c2, k2, e1, e2, -⟩ := F'
  cases A'.1.symm.trans e1
  exact e2
theorem own_castore (X : Stand p l e R s m args below meth c T locs cells slots) (hx : p.tables.exec = Jvm.exec) (hZ : Z.Warmed39 s.vm) (eT : T.heap = h) {b : Addr} {kk : ClassId} {z j : Int32} {vs : List Value} {dv : Value} {x : Int32} (F : Arv Z h b kk .char z vs dv) (hj : ¬ j < 0 ∧ j < z) (i : Nat) (hi : j.toNatClampNeg = i) (hlen : i < vs.length) (hd : decode c.code pc = .ok (.castore, 1)) (hpc : pc + 1 = pc') (w : ∀ T' h', Stand p l e R s m args below meth c T' (locs ++ [⟨b, j.toNatClampNeg⟩]) cells slots → T'.heap = h' → Wr h h' b j.toNatClampNeg (.int (nar .char x)) → Arv Z h' b kk .char z (vs.set i (.int (nar .char x))) dv → own_WP p e below FE Q k n (T'.setTop (mkF m pc' ls rest))) : own_WP p e below FE Q k n (T.setTop (mkF m pc ls (.int x :: .int j :: .ref b :: rest))) := by
  subst hpc
  obtain ⟨cl, A, q1, S, q3, H, G⟩ := F
  obtain ⟨T', h', X', e', W', st⟩ := stC X hx hZ eT A (j := j) (inb_of S hj) (g := mkF m pc ls (.int x :: .int j :: .ref b :: rest)) rfl rfl hd
  exact own_of st (w T' h' X' e' W' (Arv.set A q1 S q3 H G (fits_nar_char x) W' i hi hlen))
theorem own_nnY (X : Stand p l e R s m args below meth c T locs cells slots) (hx : p.tables.exec = Jvm.exec) {b : Addr} {o : Int} (hd : decode c.code pc = .ok (.ifnonnull o, 3)) (ho : 0 ≤ (pc : Int) + o) (hpc : ((pc : Int) + o).toNat = pc') (w : own_WP p e below FE Q k n (T.setTop (mkF m pc' ls rest))) : own_WP p e below FE Q k n (T.setTop (mkF m pc ls (.ref b :: rest))) :=
  own_of (fun t q => XS.ifnonnullYes X.here hx rfl (pc0 := pc) (pc' := pc') rfl hd rfl ho hpc q) w
theorem own_castY (X : Stand p l e R s m args below meth c T locs cells slots) (hx : p.tables.exec = Jvm.exec) (hZ : Z.Warmed39 s.vm) {own K : String} {idx : Nat} (hown : s.vm.findClass own = some m.cls) (w1 : (Jvm.Cond.classLink own idx K).before a0 Z = true) (eT : T.heap = h) {b : Addr} (F : Ins Z h b K true) (hd : decode c.code pc = .ok (.checkcast idx, 3)) (hpc : pc + 3 = pc')
    (w : ∀ T', Stand p l e R s m args below meth c T' locs cells slots → T'.heap = h → own_WP p e below FE Q k n (T'.setTop (mkF m pc' ls (.ref b :: rest)))) : own_WP p e below FE Q k n (T.setTop (mkF m pc ls (.ref b :: rest))) := by
  subst hpc
  obtain ⟨T', X', e', st⟩ := castY X hx hZ hown w1 eT F (g := mkF m pc ls (.ref b :: rest)) rfl rfl hd
  exact own_of st (w T' X' e')
theorem own_nif {D : String} {y : MethodName} (ws : (Jvm.Cond.selects D y y).before a0 Z = true) : ∃ c k, Z.vm.findClass y.cls = some c ∧ Z.vm.classes[c]? = some k ∧ k.isInterface = false := by
  obtain ⟨c, r, m, q1, q2, q3, q4, mk, hmk, hni⟩ := Cond.selects_spec ws
  exact ⟨m.cls, mk, findClass_of_methodNamed q3, hmk, hni⟩
theorem own_notface {D : String} {y y1 : MethodName} (he : y.cls = y1.cls) (ws : (Jvm.Cond.selects D y1 y1).before a0 s = true) : NotFace s y := fun r0 h0 => by
  obtain ⟨c, k, hc, hk, hni⟩ := own_nif ws
  have q := findClass_of_methodNamed h0
  rw [he] at q
  cases hc.symm.trans q
  exact ⟨k, hk, hni⟩
theorem own_same {y : MethodName} (hy : y.cls ≠ "java/lang/invoke/MethodHandle" ∧ y.cls ≠ "java/lang/invoke/VarHandle") (wi : (Jvm.Cond.instanceMethod y).before a0 Z = true) (wn : ∃ c k, Z.vm.findClass y.cls = some c ∧ Z.vm.classes[c]? = some k ∧ k.isInterface = false) : (Jvm.Cond.sameMethod y.cls y.cls y.name y.desc).before a0 Z = true := by
  obtain ⟨mk, methM, hnamed, hmethM, -, -⟩ := Cond.instanceMethod_spec wi
  have hfound : Z.methodFound? y.cls y.name y.desc = some mk := State.methodFound?_of_named hnamed hy
  obtain ⟨c, k, hc, hk, hni⟩ := wn
  have hn : Z.methodNamed? ⟨y.cls, y.name, y.desc⟩ = some mk := hnamed
  simp only [Cond.before, Cond.holds, Cond.value, hc, hfound, hn, hk]
  simp [hni]
theorem own_callP (X : Stand p l e R s m args below meth c T locs cells slots) (hx : p.tables.exec = Jvm.exec) (hZ : Z.Warmed39 s.vm) {own D K : String} {idx : Nat} {y : MethodName} {bytes : ByteArray} {maxL : Nat} {ret : Option FieldType} {rm : Room} {as' : Array Value} {Q' : Option Value → Heap → List Loc → Prop} {b : Addr} (hown : s.vm.findClass own = some m.cls) (w1 : (Jvm.Cond.methodLink own idx y).before a0 Z = true) (w2 : (Jvm.Cond.instanceMethod y).before a0 Z = true) (wp : (Jvm.Cond.privateMethod y).before a0 Z = true) (ws : (Jvm.Cond.selects D y y).before a0 Z = true) (w3 : (Jvm.Cond.initialized y.cls).before a0 Z = true) (w4 : (Jvm.Cond.code y bytes maxL ret).before a0 Z = true) (hy : y.cls ≠ "java/lang/invoke/MethodHandle" ∧ y.cls ≠ "java/lang/invoke/VarHandle") (E : Exa Z h b K)
    (C : own_Con l Z y bytes maxL ret rm as' h Q') (eT : T.heap = h) {ps : List FieldType} {rt : Option FieldType} (hpd : parseMethodDescriptor y.desc = some ⟨ps, rt⟩) (argsL rest : List Value) (ha : (.ref b :: argsL).toArray = as') (hal : argsL.length = ps.length) {st : List Value} (hst : st = argsL.reverse ++ .ref b :: rest) {W : Nat} (hW : (rest.map fun v => v.category).sum ≤ W) (hf : rm.frames + 1 ≤ R.frames) (hl : W + (maxL + 11) + rm.locals ≤ R.locals) (hsz : ls.size = c.maxLocals) (hd : decode c.code pc = .ok (.invokevirtual idx, 3)) (hc : cells + rm.cells ≤ R.cells) (hs : slots + rm.slots ≤ R.slots) (hpc : pc + 3 = pc')
    (w : ∀ v T' L, Stand p l e R s m args below meth c T' (locs ++ L) (cells + rm.cells) (slots + rm.slots) → Q' v T'.heap L → own_WP p e below FE Q k n (T'.setTop (mkF m pc' ls (v.toList ++ rest)))) : own_WP p e below FE Q k n (T.setTop (mkF m pc ls st)) := by
  subst hpc hst ha
  have wsS : (Jvm.Cond.selects D y y).before #[] s = true := mvT hZ ws
  obtain ⟨c2, k2, hc2, hk2, hni2⟩ := own_nif wsS
  have hpv := Cond.privateMethod_at (args := args) (mvT hZ wp)
  have hsel := selects_self_of_private (args := args) hc2 hk2 hni2 hpv (mvT hZ w2) hy
  obtain ⟨cell, kk, q1, q2, q3, q4, -⟩ := E
  have hcell : T.heap[b]? = some cell := by rw [eT]; exact q1
  obtain ⟨v, vm1, ⟨T', L', k', n'⟩, -, X', ⟨Lc, hQ, l1, y1, z1⟩, stp⟩ := X.privateBack hx (y := y) hown (mvT hZ w1) (mvT hZ w2) hsel hpv (mvT hZ w4) hy (backOf (W := W) (C []) hZ w4 w3 hf hl) (g := mkF m pc ls (argsL.reverse ++ .ref b :: rest)) rfl hsz (Steps.refl _) (a := b) hcell (fun q r => by rw [r] at q4; cases q4) (argsL := argsL) (rest := rest) (lenOf hpd hal) rfl (by show 2 * 0 + _ ≤ _; omega) hd (fun _ _ => ⟨rfl, eT, hc, hs⟩)
  dsimp only [Pt.U, Pt.locs, Pt.cells, Pt.slots] at X' l1 y1 z1 stp hQ
  subst l1 y1 z1
  exact own_of (fun t q => stp.trans q) (w _ _ _ X' hQ)
theorem own_callSup (X : Stand p l e R s m args below meth c T locs cells slots) (hx : p.tables.exec = Jvm.exec) (hZ : Z.Warmed39 s.vm) {own K : String} {idx : Nat} {y : MethodName} {bytes : ByteArray} {maxL : Nat} {ret : Option FieldType} {rm : Room} {as' : Array Value} {Q' : Option Value → Heap → List Loc → Prop} {b : Addr} (hown : s.vm.findClass own = some m.cls) (w1 : (Jvm.Cond.methodLink own idx y).before a0 Z = true) (w2 : (Jvm.Cond.instanceMethod y).before a0 Z = true) (wsm : (Jvm.Cond.sameMethod y.cls y.cls y.name y.desc).before a0 Z = true) (wsu : (Jvm.Cond.superclass own y.cls).before a0 Z = true) (hn : y.name ≠ "<init>") (w3 : (Jvm.Cond.initialized y.cls).before a0 Z = true) (w4 : (Jvm.Cond.code y bytes maxL ret).before a0 Z = true) (E : Exa Z h b K)
    (C : own_Con l Z y bytes maxL ret rm as' h Q') (eT : T.heap = h) {ps : List FieldType} {rt : Option FieldType} (hpd : parseMethodDescriptor y.desc = some ⟨ps, rt⟩) (argsL rest : List Value) (ha : (.ref b :: argsL).toArray = as') (hal : argsL.length = ps.length) {st : List Value} (hst : st = argsL.reverse ++ .ref b :: rest) {W : Nat} (hW : (rest.map fun v => v.category).sum ≤ W) (hf : rm.frames + 1 ≤ R.frames) (hl : W + (maxL + 11) + rm.locals ≤ R.locals) (hsz : ls.size = c.maxLocals) (hd : decode c.code pc = .ok (.invokespecial idx, 3)) (hc : cells + rm.cells ≤ R.cells) (hs : slots + rm.slots ≤ R.slots) (hpc : pc + 3 = pc')
    (w : ∀ v T' L, Stand p l e R s m args below meth c T' (locs ++ L) (cells + rm.cells) (slots + rm.slots) → Q' v T'.heap L → own_WP p e below FE Q k n (T'.setTop (mkF m pc' ls (v.toList ++ rest)))) : own_WP p e below FE Q k n (T.setTop (mkF m pc ls st)) := by
  subst hpc hst ha
  obtain ⟨v, vm1, ⟨T', L', k', n'⟩, -, X', ⟨Lc, hQ, l1, y1, z1⟩, stp⟩ := superBack X hx hZ (y := y) hown w1 wsm w2 wsu hn (backOf (W := W) (C []) hZ w4 w3 hf hl) eT (Ins.self E) (g := mkF m pc ls (argsL.reverse ++ .ref b :: rest)) rfl hsz w4 (argsL := argsL) (rest := rest) (lenOf hpd hal) rfl (by show 2 * 0 + _ ≤ _; omega) hd (fun _ _ => ⟨rfl, eT, hc, hs⟩)
  dsimp only [Pt.U, Pt.locs, Pt.cells, Pt.slots] at X' l1 y1 z1 stp hQ
  subst l1 y1 z1
  exact own_of (fun t q => stp.trans q) (w _ _ _ X' hQ)
theorem own_cpA (X : Stand p l e R s m args below meth c T locs cells slots) (hx : p.tables.exec = Jvm.exec) (hZ : Z.Warmed39 s.vm) {own : String} {idx : Nat} (hown : s.vm.findClass own = some m.cls)
    (w1 : (Jvm.Cond.methodLink own idx Jvm.Stand.acN).before a0 Z = true) (w2 : (Jvm.Cond.native Jvm.Stand.acN).before a0 Z = true) (w3 : (Jvm.Cond.static Jvm.Stand.acN).before a0 Z = true) (w4 : (Jvm.Cond.initialized "java/lang/System").before a0 Z = true) (eT : T.heap = h)
    {x b : Addr} {k1 k2 : ClassId} {z z' sp dp nn : Int32} {vs vd us : List Value} {dv dd : Value} (A : Arv Z h x k1 .byte z vs dv) (B : Arv Z h b k2 .byte z' vd dd)
    (h1 : ¬ sp < 0) (h2 : ¬ dp < 0) (h3 : ¬ nn < 0) (h4 : sp.toNatClampNeg + nn.toNatClampNeg ≤ z.toNatClampNeg) (h5 : dp.toNatClampNeg + nn.toNatClampNeg ≤ z'.toNatClampNeg)
    (hus : us = (List.range nn.toNatClampNeg).map fun i => vs.getD (sp.toNatClampNeg + i) dv) (hl : dp.toNatClampNeg + nn.toNatClampNeg ≤ vd.length) {n0 : Nat} (N : Fr n0 locs) (ge : n0 ≤ b) (hsz : ls.size = c.maxLocals) (hd : decode c.code pc = .ok (.invokestatic idx, 3))
    (hf : 1 ≤ R.frames) {W : Nat} (hW : (rest.map fun v => v.category).sum ≤ W) (hlo : W + (nativeFrameWords "java/lang/System" "arraycopy" 5 + 11) ≤ R.locals) (hpc : pc + 3 = pc')
    (w : ∀ T' h' L, Stand p l e R s m args below meth c T' L cells slots → T'.heap = h' → Fr n0 L → Keep h h' [b] → Arv Z h' b k2 .byte z' (vd.take dp.toNatClampNeg ++ us ++ vd.drop (dp.toNatClampNeg + nn.toNatClampNeg)) dd → own_WP p e below FE Q k n (T'.setTop (mkF m pc' ls rest))) : own_WP p e below FE Q k n (T.setTop (mkF m pc ls (.int nn :: .int dp :: .ref b :: .int sp :: .ref x :: rest))) := by
  subst hpc
  obtain ⟨T', h', L, X', e', N', K', V', st⟩ := cpA X hx hZ hown w1 w2 w3 w4 eT A B (Or.inl ⟨rfl, rfl⟩) h1 h2 h3 h4 h5 hus hl N ge (g := mkF m pc ls (.int nn :: .int dp :: .ref b :: .int sp :: .ref x :: rest)) rfl hsz rfl hd hf (W := W) (by show 2 * 0 + _ ≤ _; omega) hlo
  exact own_of st (w T' h' L X' e' N' K' V')
end OwnStr

def own_G (Z : State) (G1 : Int32) (fm : Value) : Prop := Sta Z Z.heap "java/lang/String" "COMPACT_STRINGS" "Z" (.int G1) ∧ ¬ G1 = 0 ∧ Sta Z Z.heap "jdk/internal/util/Preconditions" "SIOOBE_FORMATTER" "Ljava/util/function/BiFunction;" fm ∧ fm.isRef = true
def own_ch (b : Int32) : Int32 := b &&& 255
theorem own_isbE {v x : Int32} (h : v = x.toInt8.toInt32) : nar .byte v = v := by
  rw [h]
  show (x.toInt8.toInt32).toInt8.toInt32 = x.toInt8.toInt32
  simp
theorem own_us {vs : List Value} {dv : Value} {sp n : Nat} (h : sp + n ≤ vs.length) : (vs.drop sp).take n = (List.range n).map (fun i => vs.getD (sp + i) dv) := by
  apply List.ext_getElem
  · simp; omega
  · intro i h1 h2
    simp at h1 h2 ⊢
    rw [List.getElem?_eq_getElem (by omega)]
    rfl
theorem own_cpl {vd us : List Value} {p n : Nat} (h : p + n ≤ vd.length) (hu : us.length = n) : (vd.take p ++ us ++ vd.drop (p + n)).length = vd.length ∧ (vd.take p ++ us ++ vd.drop (p + n)).take (p + n) = vd.take p ++ us := by
  constructor
  · simp; omega
  · rw [List.take_append_of_le_length (by simp; omega)]
    exact List.take_of_length_le (by simp; omega)
theorem own_ne2 {x d d' : Addr} {n : Nat} (h1 : x ≠ d) (h2 : x < n) (h : d' = d ∨ n ≤ d') : x ≠ d' := by
  rcases h with rfl | h
  · exact h1
  · exact Nat.ne_of_lt (Nat.lt_of_lt_of_le h2 h)
def own_cap (cap mi : Int) : Int := if mi ≤ cap then cap else max mi (2 * cap + 2)
theorem own_cap_ge {cap mi : Int} : mi ≤ own_cap cap mi := by unfold own_cap; split <;> omega
theorem own_cap_le {cap mi : Int} (h0 : 0 ≤ cap) (h1 : cap ≤ 80) (h2 : mi ≤ 162) : 0 ≤ own_cap cap mi ∧ own_cap cap mi ≤ 162 := by unfold own_cap; split <;> omega
def own_dgs (a k : Nat) : Prop := 1 ≤ k ∧ a < 10 ^ k ∧ (k = 1 ∨ 10 ^ (k - 1) ≤ a)
theorem own_dgs_uniq {a k k' : Nat} (h : own_dgs a k) (h' : own_dgs a k') : k = k' := by
  obtain ⟨h1, h2, h3⟩ := h
  obtain ⟨g1, g2, g3⟩ := h'
  have key : ∀ {x y : Nat}, 1 ≤ x → a < 10 ^ x → (y = 1 ∨ 10 ^ (y - 1) ≤ a) → y ≤ x := by
    intro x y hx ha hy
    rcases hy with rfl | hy
    · exact hx
    · have q : 10 ^ (y - 1) < 10 ^ x := Nat.lt_of_le_of_lt hy ha
      have r := (Nat.pow_lt_pow_iff_right (by decide : 1 < 10)).mp q
      omega
  have a1 := key h1 h2 g3
  have a2 := key g1 g2 h3
  omega
theorem own_negJ {x v : Int64} (h : v = -x) (h0 : 0 ≤ x.toInt) : v.toInt = -x.toInt := by
  have q := c_lneg x; have r := rng64 x; have r2 := rng64 (-x); rw [h]; omega
theorem own_t0 : Int32.toNatClampNeg 0 = 0 := rfl
theorem own_shl0 (x : Int32) : x <<< ((0 : Int32) &&& 31) = x := by simp
theorem own_shr0 (x : Int32) : x >>> ((0 : Int32) &&& 31) = x := by simp
theorem own_nat {x : Int32} (h : 0 ≤ x.toInt) : (x.toNatClampNeg : Int) = x.toInt := by
  have q := nat_of (j := x) (by rw [Int32.lt_iff_toInt_lt]; show ¬ x.toInt < 0; omega)
  omega
theorem own_nn {x : Int32} (h : 0 ≤ x.toInt) : ¬ x < 0 := by rw [Int32.lt_iff_toInt_lt]; show ¬ x.toInt < 0; omega
theorem own_mx {a b r : Int32} (h : r = if a < b then b else a) : r.toInt = max a.toInt b.toInt := by
  rw [h]
  split
  · rename_i q; rw [Int32.lt_iff_toInt_lt] at q; omega
  · rename_i q; rw [Int32.lt_iff_toInt_lt] at q; omega
theorem own_mn {a b r : Int32} (h : r = if b < a then b else a) : r.toInt = min a.toInt b.toInt := by
  rw [h]
  split
  · rename_i q; rw [Int32.lt_iff_toInt_lt] at q; omega
  · rename_i q; rw [Int32.lt_iff_toInt_lt] at q; omega
theorem own_add {a b z : Int32} (h : z = a + b) (h1 : -1000000 ≤ a.toInt ∧ a.toInt ≤ 1000000) (h2 : -1000000 ≤ b.toInt ∧ b.toInt ≤ 1000000) : z.toInt = a.toInt + b.toInt := by
  have q := c_iadd a b; have r := rng32 (a + b); rw [h]; omega
theorem own_sub {a b z : Int32} (h : z = a - b) (h1 : -1000000 ≤ a.toInt ∧ a.toInt ≤ 1000000) (h2 : -1000000 ≤ b.toInt ∧ b.toInt ≤ 1000000) : z.toInt = a.toInt - b.toInt := by
  have q := c_isub a b; have r := rng32 (a - b); rw [h]; omega
def own_by (c : Int32) : Int32 := c.toInt8.toInt32
theorem own_ch_c (b : Int32) : nar .char ((b &&& (255 : Int32)).toUInt32.toUInt16.toUInt32.toInt32) = own_ch b := by
  rw [i2c_mask]
  exact i2c_mask b
theorem own_ch_n (b : Int32) : nar .char (own_ch b) = own_ch b := i2c_mask b
section OwnE
variable {p : Program} {l : Launch} {e : Env} {R : Room} {s : State} {m : MethodId} {args : Array Value} {below : List Frame} {meth : Method} {c : Code} {T : State} {locs : List Loc} {cells slots : Nat} {Z : State} {a0 : Array Value} {h : Heap} {Q : Option Value → Heap → List Loc → Prop} {FE : Outcome → State → List Loc → Nat → Nat → Prop} {k n : Nat} {a a' : State} {pc pc' : Nat} {ls l' : Array Slot} {rest : List Value}
theorem own_instY (X : Stand p l e R s m args below meth c T locs cells slots) (hx : p.tables.exec = Jvm.exec) (hZ : Z.Warmed39 s.vm) {own K : String} {idx : Nat} (hown : s.vm.findClass own = some m.cls) (w1 : (Jvm.Cond.classLink own idx K).before a0 Z = true) (eT : T.heap = h) {b : Addr} (F : Ins Z h b K true) (hd : decode c.code pc = .ok (.instanceof idx, 3)) (hpc : pc + 3 = pc')
    (w : ∀ T', Stand p l e R s m args below meth c T' locs cells slots → T'.heap = h → own_WP p e below FE Q k n (T'.setTop (mkF m pc' ls (.int 1 :: rest)))) : own_WP p e below FE Q k n (T.setTop (mkF m pc ls (.ref b :: rest))) := by
  subst hpc
  obtain ⟨T', X', e', st⟩ := instY X hx hZ hown w1 eT F (g := mkF m pc ls (.ref b :: rest)) rfl rfl hd
  exact own_of st (w T' X' e')
theorem own_acmp (X : Stand p l e R s m args below meth c T locs cells slots) (hx : p.tables.exec = Jvm.exec) {cd : ACond} {x y : Value} {o : Int} (h1 : x.isRef = true) (h2 : y.isRef = true) (same : Bool) (hq : decide (x = y) = same) (hd : decode c.code pc = .ok (.if_acmp cd o, 3)) (ho : 0 ≤ (pc : Int) + o) (hpc : pc' = if acV cd same = true then ((pc : Int) + o).toNat else pc + 3)
    (w : own_WP p e below FE Q k n (T.setTop (mkF m pc' ls rest))) : own_WP p e below FE Q k n (T.setTop (mkF m pc ls (y :: x :: rest))) :=
  own_of (fun t q => Jvm.RoadKit.acmp (g := mkF m pc ls (y :: x :: rest)) X hx rfl h1 h2 (pc0 := pc) (pc' := pc') (same := same) rfl hd rfl hq ho hpc q) w
end OwnE

/-! own_: bodies that may intern a literal, by CHv -/
def own_FEH (Z s : State) (EL : List (String × Nat)) (o : Outcome) (s₂ : State) (L : List Loc) (k n : Nat) : Prop := ReturnedEndW s o s₂ L k n ∧ CHr Z EL s.vm s.heap s₂.vm s₂.heap
def own_ConH (l : Launch) (Z : State) (EL : List (String × Nat)) (Sx : List Addr) (y : MethodName) (bytes : ByteArray) (maxL : Nat) (ret : Option FieldType) (rm : Room) (as' : Array Value) (h0 : Heap) (Q : Option Value → Heap → List Loc → Prop) : Prop :=
  ∀ ws, MetFree l y (head1 (Jvm.Cond.code y bytes maxL ret :: ws) rm) (fun a U => a = as' ∧ Z.Warmed39 U.vm ∧ U.heap = h0 ∧ CHv Z EL U.vm h0 ∧ ∀ x ∈ Sx, Safe Z EL U.vm h0 x) (fun _ _ _ _ _ => True) (fun _ U o U' => ∃ v L, o = .returned v ∧ Q v U'.heap L ∧ own_FEH Z U EL o U' L rm.cells rm.slots)
theorem own_ConH_of {l : Launch} {Z : State} {EL : List (String × Nat)} {Sx : List Addr} {y : MethodName} {bytes : ByteArray} {maxL : Nat} {ret : Option FieldType} {rm : Room} {as' : Array Value} {h0 : Heap} {Q : Option Value → Heap → List Loc → Prop} (hp : plainFor y = true)
    (hb : ∀ (p : Program) (e : Env) (s : State) (vm0 : Vm) (m : MethodId) (below : List Frame) (meth : Method) (c : Code) (s₁ : State), Stand p l e rm (s.setVm vm0) m as' below meth c s₁ [] 0 0 → p.tables.exec = Jvm.exec → c.code = bytes → c.maxLocals = maxL → meth.sig.returnType = ret → meth.locks = false → meth.name = y.name → vm0.findClass y.cls = some m.cls → Z.Warmed39 vm0 → s₁.heap = h0 → CHv Z EL vm0 h0 → (∀ x ∈ Sx, Safe Z EL vm0 h0 x) → CHr Z EL s.vm s.heap vm0 h0 → s.Since vm0 h0.size →
      own_WP p e below (own_FEH Z s EL) Q rm.cells rm.slots (s₁.setTop (entryFrame m as' maxL))) : own_ConH l Z EL Sx y bytes maxL ret rm as' h0 Q := by
  intro ws
  refine MetFree.of_bodySF hp hisR ?_
  intro p e s m args below meth c s₁ Bd hml0 hP hK
  obtain ⟨rfl, hZ, hh, hI, hSx⟩ := hP
  have X := Stand.of_body Bd
  exact hb p e s s.vm m below meth c s₁ X Bd.exec Bd.bytes hml0 Bd.returns Bd.notSynchronized (name_of_methodNamed Bd.named Bd.method).1 (findClass_of_methodNamed Bd.named) hZ (by rw [← hh, Bd.state]; rfl) hI hSx (by rw [hh]; exact CHr.refl hI) ((State.WarmedH.refl s).since _)
section OwnHeld
variable {p : Program} {l : Launch} {e : Env} {R : Room} {s : State} {m : MethodId} {args : Array Value} {below : List Frame} {meth : Method} {c : Code} {T : State} {locs : List Loc} {cells slots : Nat} {Z : State} {a0 : Array Value} {h : Heap} {Q : Option Value → Heap → List Loc → Prop} {FE : Outcome → State → List Loc → Nat → Nat → Prop} {k n : Nat} {a a' : State} {pc pc' : Nat} {ls l' : Array Slot} {rest : List Value} {vm0 : Vm} {EL : List (String × Nat)} {Sx : List Addr}
theorem own_FH {k1 : Nat} (hZ : Z.Warmed39 vm0) (hEL : EW Z a0 EL) (H : CHv Z EL vm0 h) (Rr : CHr Z EL s.vm s.heap vm0 h) (hS : s.Since vm0 k1) (hk : k1 ≤ h.size) (eT : T.heap = h) : ∀ o s₂ L, s₂.heap = T.heap → FrameEnd (s.setVm vm0) o s₂ L k n → own_FEH Z s EL o s₂ L k n := by
  intro o s₂ L hh hF
  refine ⟨own_FW hS (by rw [eT]; exact hk) o s₂ L hh hF, ?_⟩
  have q := CHv.later (h' := h) hZ (hW := (show (Wst Z vm0 h).Warmed39 s₂.vm from hF.2.1.wide)) hEL ⟨Nat.le_refl _, fun _ _ q => q⟩ (Or.inl hF.2.1.interned_eq) H
  rw [hh, eT]
  exact Rr.trans ⟨q.1, Nat.le_refl _, q.2⟩
theorem own_ldcH {own text : String} {idx : Nat} (X : Stand p l e R (s.setVm vm0) m args below meth c T locs cells slots) (hx : p.tables.exec = Jvm.exec) (hZ : Z.Warmed39 vm0) (hown : vm0.findClass own = some m.cls) (w1 : (Cond.stringLink own idx text).before a0 Z = true) (wS : ∀ a ∈ Bundle.stringAtoms, a.before a0 Z = true)
    (eT : T.heap = h) {k0 : Nat} (hS : s.Since vm0 k0) (hk : k0 ≤ h.size) (hEL : EW Z a0 EL) (hmem : (own, idx) ∈ EL) (H : CHv Z EL vm0 h)
    {vs : List Value} {z : Int32} (ht : (∀ c ∈ text.toList, c.toNat < 256) ∧ text.toList.map (fun c => Value.int (Jvm.Lit.byteI c.toNat.toUInt16)) = vs) (hz : ¬ z < 0) (hl : z.toNatClampNeg = vs.length) (hd : decode c.code pc = .ok (.ldc idx, 2)) {nn : Nat} (hn : 4 * text.toList.length ≤ nn) (hbig : nn ≤ 536870912) (hc : cells + 2 ≤ R.cells) (hl' : slots + (nn + 4) ≤ R.slots) (hpc : pc + 2 = pc')
    (w : ∀ (a : Addr) (T' : State) (h' : Heap) (k1 : Nat) (b : Addr) (kb : ClassId), Stand p l e R (s.setVm T'.vm) m args below meth c T' locs (cells + 2) (slots + (nn + 4)) → T'.heap = h' → Ext h h' → s.Since T'.vm k1 → k1 ≤ h'.size → Z.Warmed39 T'.vm → T'.vm.findClass own = some m.cls →
      Exa Z h' a "java/lang/String" → Fld Z h' a "java/lang/String" "coder" "B" (.int 0) → Fld Z h' a "java/lang/String" "value" "[B" (.ref b) → Arv Z h' b kb .byte z vs (.int 0) → CHr Z EL vm0 h T'.vm h' → Lit (s.setVm T'.vm) own idx a → (∀ x, Safe Z EL T'.vm h' x → x ≠ a ∧ x ≠ b) → own_WP p e below FE Q k n (T'.setTop (mkF m pc' ls (.ref a :: rest)))) : own_WP p e below FE Q k n (T.setTop (mkF m pc ls rest)) := by
  subst hpc
  obtain ⟨a, T', h', k1, b, kb, X', e', E', hS', hk', hZ', hown', q1, q2, q3, q4, -, -, C', L', sf, st⟩ := ldcCH X hx hZ hown w1 wS eT hS hk hEL hmem H ht hz hl (g := mkF m pc ls rest) rfl hd hn hbig hc hl'
  exact own_of st (w a T' h' k1 b kb X' e' E' hS' hk' hZ' hown' q1 q2 q3 q4 C' L' sf)
theorem own_ldcA {own text : String} {idx : Nat} (X : Stand p l e R (s.setVm vm0) m args below meth c T locs cells slots) (hx : p.tables.exec = Jvm.exec) (hZ : Z.Warmed39 vm0) (hown : vm0.findClass own = some m.cls) (w1 : (Cond.stringLink own idx text).before a0 Z = true) {a : Addr} (L : Lit (s.setVm vm0) own idx a) (hd : decode c.code pc = .ok (.ldc idx, 2)) (hpc : pc + 2 = pc') (w : own_WP p e below FE Q k n (T.setTop (mkF m pc' ls (.ref a :: rest)))) : own_WP p e below FE Q k n (T.setTop (mkF m pc ls rest)) := by
  subst hpc
  exact own_of (ldcAgain X hx hZ hown w1 L (g := mkF m pc ls rest) rfl hd) w
theorem own_head {w : Jvm.Cond} {a : Array Value} {U : State} {rm : Room} (h : w.before a U = true) : (head1 [w] rm).pre.before a U = true := by
  show (Jvm.Cond.and w .tt).before a U = true
  simp only [Cond.before_and, h, Bool.true_and]
  rfl
theorem own_backG {y : MethodName} {bytes : ByteArray} {maxL : Nat} {ret : Option FieldType} {rm : Room} {len W : Nat} {as' : Array Value} {Q' : Option Value → Heap → List Loc → Prop} {P1 K1 : Vm → Prop} {R1 : Vm → Heap → Vm → Heap → Prop}
    (hM : MetFree l y (head1 [Jvm.Cond.code y bytes maxL ret] rm) (fun a U => a = as' ∧ Z.Warmed39 U.vm ∧ U.heap = h ∧ P1 U.vm) (fun _ _ _ _ _ => True) (fun _ U o U' => ∃ v L, o = .returned v ∧ Q' v U'.heap L ∧ ReturnedEndW U o U' L rm.cells rm.slots ∧ R1 U.vm U.heap U'.vm U'.heap))
    (hZ : Z.Warmed39 vm0) (hp1 : ∀ {m : MethodId} {meth : Method} {c : Code} {A : Pt}, Stand p l e R (s.setVm vm0) m args below meth c A.U A.locs A.cells A.slots → P1 A.U.vm ∧ K1 A.U.vm) (wc : (Cond.code y bytes maxL ret).before a0 Z = true) (wz : (Cond.initialized y.cls).before a0 Z = true) (hf : rm.frames + 1 ≤ R.frames) (hl : W + (maxL + 11) + rm.locals ≤ R.locals) :
    BackS l R p e below (s.setVm vm0) args y len W (fun A a => a = as' ∧ A.U.heap = h ∧ A.cells + rm.cells ≤ R.cells ∧ A.slots + rm.slots ≤ R.slots)
      (fun A _ v B => (∃ vmU, K1 vmU ∧ R1 vmU h B.U.vm B.U.heap) ∧ ∃ L, Q' v B.U.heap L ∧ B.locs = A.locs ++ L ∧ B.cells = A.cells + rm.cells ∧ B.slots = A.slots + rm.slots) := by
  have hU : ∀ {m : MethodId} {meth : Method} {c : Code} {A : Pt}, Stand p l e R (s.setVm vm0) m args below meth c A.U A.locs A.cells A.slots → Z.Warmed39 A.U.vm := fun Y => State.Warmed39.trans (t := s.setVm vm0) hZ Y.warmed.wide
  refine BackS.of_freeW (bytes := bytes) (maxL := maxL) (ret := ret) (E := fun _ U o t L k n => (k = rm.cells ∧ n = rm.slots) ∧ R1 U.vm U.heap t.vm t.heap ∧ ∃ v, o = .returned v ∧ Q' v t.heap L) hM hf hl ?_ ?_ ?_ ?_ ?_
  · intro m meth c A a Y hp
    have c1 : (Cond.code y bytes maxL ret).before a A.U = true := mv (hU Y) wc
    exact ⟨own_head c1, c1, mv (hU Y) wz, hp.2.2⟩
  · intro m meth c A a g mk Y hp
    exact ⟨hp.1, hU Y, hp.2.1, (hp1 Y).1⟩
  · intros; trivial
  · rintro a U o t ⟨v, L, h1, h2, h3, h4⟩
    exact ⟨L, rm.cells, rm.slots, h3, ⟨rfl, rfl⟩, h4, v, h1, h2⟩
  · intro m meth c A a g mk v t L k n Y hp _ _ hE
    obtain ⟨⟨rfl, rfl⟩, hR, v', hv, hq⟩ := hE
    cases hv
    have hh : (A.U.calling g mk a).heap = h := hp.2.1
    rw [hh] at hR
    exact ⟨⟨A.U.vm, (hp1 Y).2, hR⟩, L, hq, rfl, rfl, rfl⟩
theorem own_callNH (X : Stand p l e R (s.setVm vm0) m args below meth c T locs cells slots) (hx : p.tables.exec = Jvm.exec) (hZ : Z.Warmed39 vm0) {own : String} {idx : Nat} {y : MethodName} {bytes : ByteArray} {maxL : Nat} {rm : Room} {as' : Array Value} {Q' : Option Value → Heap → List Loc → Prop} {b : Addr} (hy1 : y.name = "<init>") (hown : vm0.findClass own = some m.cls) (w1 : (Jvm.Cond.methodLink own idx y).before a0 Z = true) (w2 : (Jvm.Cond.instanceMethod y).before a0 Z = true) (w3 : (Jvm.Cond.initialized y.cls).before a0 Z = true) (w4 : (Jvm.Cond.code y bytes maxL none).before a0 Z = true) (hy : y.cls ≠ "java/lang/invoke/MethodHandle" ∧ y.cls ≠ "java/lang/invoke/VarHandle")
    (C : own_ConH l Z EL Sx y bytes maxL none rm as' h Q') (eT : T.heap = h) (hEL : EW Z a0 EL) (H : CHv Z EL vm0 h) (hsx : ∀ x ∈ Sx, x < h.size ∧ Safe Z EL vm0 h x) {k0 : Nat} (hS : s.Since vm0 k0) (hk : k0 ≤ h.size) {ps : List FieldType} {rt : Option FieldType} (hpd : parseMethodDescriptor y.desc = some ⟨ps, rt⟩) (argsL rest : List Value) (ha : (.ref b :: argsL).toArray = as') (hal : argsL.length = ps.length) {st : List Value} (hst : st = argsL.reverse ++ .ref b :: rest) {W : Nat} (hW : (rest.map fun v => v.category).sum ≤ W) (hf : rm.frames + 1 ≤ R.frames) (hl : W + (maxL + 11) + rm.locals ≤ R.locals) (hsz : ls.size = c.maxLocals) (hd : decode c.code pc = .ok (.invokespecial idx, 3)) (hc : cells + rm.cells ≤ R.cells) (hs : slots + rm.slots ≤ R.slots) (hpc : pc + 3 = pc')
    (w : ∀ v T' L k1, Stand p l e R (s.setVm T'.vm) m args below meth c T' (locs ++ L) (cells + rm.cells) (slots + rm.slots) → s.Since T'.vm k1 → k1 ≤ T'.heap.size → Z.Warmed39 T'.vm → T'.vm.findClass own = some m.cls → CHr Z EL vm0 h T'.vm T'.heap → Q' v T'.heap L → own_WP p e below FE Q k n (T'.setTop (mkF m pc' ls (v.toList ++ rest)))) : own_WP p e below FE Q k n (T.setTop (mkF m pc ls st)) := by
  subst hpc hst ha
  obtain ⟨v, vm1, ⟨T', L', k', n'⟩, -, X', hS', hgr, ⟨⟨vmU, hk1, hr1⟩, Lc, hQ, l1, y1, z1⟩, stp⟩ := specialBackS X hx (y := y) hy1 hown (mvT (s := s.setVm vm0) hZ w1) (mvT (s := s.setVm vm0) hZ w2) (mvT (s := s.setVm vm0) hZ w4) hy (own_backG (W := W) (P1 := fun vm => CHv Z EL vm h ∧ ∀ x ∈ Sx, Safe Z EL vm h x) (K1 := fun vm => CHr Z EL vm0 h vm h) (R1 := fun vm hv vm1 hv1 => CHr Z EL vm hv vm1 hv1) (C []) hZ (fun Y => have A := CHv.at Y hZ hEL H; ⟨⟨A.1, fun x hx => A.safe (hsx x hx).1 (hsx x hx).2⟩, A⟩) w4 w3 hf hl) (g := mkF m pc ls (argsL.reverse ++ .ref b :: rest)) rfl hsz (Steps.refl _) (a := b) (argsL := argsL) (rest := rest) (lenOf hpd hal) rfl (by show 2 * 0 + _ ≤ _; omega) hd (fun _ _ => ⟨rfl, eT, hc, hs⟩)
  dsimp only [Pt.U, Pt.locs, Pt.cells, Pt.slots] at X' l1 y1 z1 stp hQ hS' hgr hr1
  subst l1 y1 z1
  have hC := hk1.trans hr1
  exact own_of (fun t q => stp.trans q) (w _ _ _ _ X' (hS.trans hS' (Nat.le_trans hk (by rw [← eT]; exact hgr))) (Nat.le_refl _) (State.Warmed39.trans (t := s.setVm vm0) hZ hS'.1) (by rw [hS'.1.alike.findClass]; exact hown) hC hQ)
theorem own_callVH (X : Stand p l e R (s.setVm vm0) m args below meth c T locs cells slots) (hx : p.tables.exec = Jvm.exec) (hZ : Z.Warmed39 vm0) {own D : String} {idx : Nat} {y z : MethodName} {bytes : ByteArray} {maxL : Nat} {ret : Option FieldType} {rm : Room} {as' : Array Value} {Q' : Option Value → Heap → List Loc → Prop} {b : Addr} (hown : vm0.findClass own = some m.cls) (w1 : (Jvm.Cond.methodLink own idx y).before a0 Z = true) (wd : (Jvm.Cond.declares y).before a0 Z = true) (hnf : NotFace (s.setVm vm0) y) (ws : (Jvm.Cond.selects D y z).before a0 Z = true) (w2 : (Jvm.Cond.instanceMethod z).before a0 Z = true) (w3 : (Jvm.Cond.initialized z.cls).before a0 Z = true) (w4 : (Jvm.Cond.code z bytes maxL ret).before a0 Z = true) (hy : y.cls ≠ "java/lang/invoke/MethodHandle" ∧ y.cls ≠ "java/lang/invoke/VarHandle") (E : Exa Z h b D)
    (C : own_ConH l Z EL Sx z bytes maxL ret rm as' h Q') (eT : T.heap = h) (hEL : EW Z a0 EL) (H : CHv Z EL vm0 h) (hsx : ∀ x ∈ Sx, x < h.size ∧ Safe Z EL vm0 h x) {k0 : Nat} (hS : s.Since vm0 k0) (hk : k0 ≤ h.size) {ps : List FieldType} {rt : Option FieldType} (hpd : parseMethodDescriptor y.desc = some ⟨ps, rt⟩) (argsL rest : List Value) (ha : (.ref b :: argsL).toArray = as') (hal : argsL.length = ps.length) {st : List Value} (hst : st = argsL.reverse ++ .ref b :: rest) {W : Nat} (hW : (rest.map fun v => v.category).sum ≤ W) (hf : rm.frames + 1 ≤ R.frames) (hl : W + (maxL + 11) + rm.locals ≤ R.locals) (hsz : ls.size = c.maxLocals) (hd : decode c.code pc = .ok (.invokevirtual idx, 3)) (hc : cells + rm.cells ≤ R.cells) (hs : slots + rm.slots ≤ R.slots) (hpc : pc + 3 = pc')
    (w : ∀ v T' L k1, Stand p l e R (s.setVm T'.vm) m args below meth c T' (locs ++ L) (cells + rm.cells) (slots + rm.slots) → s.Since T'.vm k1 → k1 ≤ T'.heap.size → Z.Warmed39 T'.vm → T'.vm.findClass own = some m.cls → CHr Z EL vm0 h T'.vm T'.heap → Q' v T'.heap L → own_WP p e below FE Q k n (T'.setTop (mkF m pc' ls (v.toList ++ rest)))) : own_WP p e below FE Q k n (T.setTop (mkF m pc ls st)) := by
  subst hpc hst ha
  obtain ⟨cq, kq, qa, qb, qc⟩ := isOf (s := s.setVm vm0) (T := T) hZ eT E
  obtain ⟨v, vm1, ⟨T', L', k', n'⟩, -, X', hS', hgr, ⟨⟨vmU, hk1, hr1⟩, Lc, hQ, l1, y1, z1⟩, stp⟩ := virtualBackS X hx (y := y) (z := z) hown (mvT (s := s.setVm vm0) hZ w1) (mvT (s := s.setVm vm0) hZ wd) hnf (mvT (s := s.setVm vm0) hZ ws) (mvT (s := s.setVm vm0) hZ w2) hy (own_backG (W := W) (P1 := fun vm => CHv Z EL vm h ∧ ∀ x ∈ Sx, Safe Z EL vm h x) (K1 := fun vm => CHr Z EL vm0 h vm h) (R1 := fun vm hv vm1 hv1 => CHr Z EL vm hv vm1 hv1) (C []) hZ (fun Y => have A := CHv.at Y hZ hEL H; ⟨⟨A.1, fun x hx => A.safe (hsx x hx).1 (hsx x hx).2⟩, A⟩) w4 w3 hf hl) qa qc (g := mkF m pc ls (argsL.reverse ++ .ref b :: rest)) rfl hsz (Steps.refl _) (argsL := argsL) (rest := rest) (lenOf hpd hal) rfl (by show 2 * 0 + _ ≤ _; omega) hd (fun _ _ => ⟨rfl, eT, hc, hs⟩)
  dsimp only [Pt.U, Pt.locs, Pt.cells, Pt.slots] at X' l1 y1 z1 stp hQ hS' hgr hr1
  subst l1 y1 z1
  have hC := hk1.trans hr1
  exact own_of (fun t q => stp.trans q) (w _ _ _ _ X' (hS.trans hS' (Nat.le_trans hk (by rw [← eT]; exact hgr))) (Nat.le_refl _) (State.Warmed39.trans (t := s.setVm vm0) hZ hS'.1) (by rw [hS'.1.alike.findClass]; exact hown) hC hQ)
end OwnHeld

theorem d12_0 : decode jdk_42_method_152_code 0 = .ok (.getstatic 38, 3) := by decide +kernel
theorem d12_3 : decode jdk_42_method_152_code 3 = .ok (.ifCond .eq 10, 3) := by decide +kernel
theorem d12_6 : decode jdk_42_method_152_code 6 = .ok (.aload_n 0, 1) := by decide +kernel
theorem d12_7 : decode jdk_42_method_152_code 7 = .ok (.getfield 15, 3) := by decide +kernel
theorem d12_10 : decode jdk_42_method_152_code 10 = .ok (.goto 4, 3) := by decide +kernel
theorem d12_14 : decode jdk_42_method_152_code 14 = .ok (.ireturn, 1) := by decide +kernel
theorem pn_12 : plainFor (⟨"java/lang/String", "coder", "()B"⟩ : MethodName) = true := plainFor_of_name (by first | (simp [plainName, overriddenIn]; done) | decide +kernel)
theorem ef_con_coder (m : MethodId) (a : Addr) : entryFrame m #[(.ref a)] 1 = mkF m 0 #[.val (.ref a)] [] := by first | (simp [entryFrame, mkF, argsToLocals, Value.category]; done) | rfl
set_option maxRecDepth 65536 in
set_option maxHeartbeats 4000000 in
theorem con_coder (l : Launch) (Z : State) (a0 : Array Value) (hw : ∀ d ∈ tables_1, d.before a0 Z = true) (a : Addr) (h0 : Heap) (n0 : Nat) (Z0 : n0 ≤ h0.size) (G1 : Int32) (fm : Value) (hG : own_G Z G1 fm) (X00 : own_Old Z n0 h0) (hC : Fld Z h0 a "java/lang/String" "coder" "B" (.int (0 : Int32))) :
    own_Con l Z (⟨"java/lang/String", "coder", "()B"⟩ : MethodName) jdk_42_method_152_code 1 (some .byte) ({ frames := 0, cells := 0, slots := 0, locals := 0 } : Room) #[(.ref a)] h0 (fun v h L => ∃ z : Int32, v = some (.int z) ∧ (z = 0) ∧ L = [] ∧ h = h0) := by
  refine own_Con_of pn_12 ?_
  intro p e s m below meth c s₁ X0 hx hby hml hret hlk hnm hown hZ e0
  have hown : s.vm.findClass "java/lang/String" = some m.cls := hown
  have hml : c.maxLocals = 1 := hml
  show own_WP _ _ _ _ _ _ _ (s₁.setTop (entryFrame m #[(.ref a)] 1))
  rw [ef_con_coder m a]
  refine own_getS (pc' := 3) X0 hx hZ hown (host := "") (Or.inl (own_w hw 82 rfl)) Via.refl e0 (hG.1.ext X00.x) (hb hby d12_0) rfl ?_
  intro T1 X1 e1
  refine own_if_eq (pt := 13) (pf := 6) X1 hx (hb hby d12_3) rfl (by decide) rfl (fun hc3 => absurd hc3 (hG.2.1)) (fun hc3 => ?_)
  refine own_aloadN (pc' := 7) X1 hx (hb hby d12_6) rfl rfl rfl ?_
  refine own_getF (pc' := 10) X1 hx hZ hown (host := "") (Or.inl (own_w hw 21 rfl)) Via.refl e1 hC (hb hby d12_7) rfl ?_
  intro T2 X2 e2
  refine own_goto (pc' := 14) X2 hx (hb hby d12_10) (by decide) rfl ?_
  refine own_retN X2 hx (fun _ _ _ _ q => q) hlk (t := .byte) (by decide) hret (hb hby d12_14) (by decide) (by decide) ?_
  exact ⟨(0 : Int32), rfl, rfl, rfl, e2⟩
theorem d11_0 : decode jdk_42_method_54_code 0 = .ok (.aload_n 0, 1) := by decide +kernel
theorem d11_1 : decode jdk_42_method_54_code 1 = .ok (.getfield 9, 3) := by decide +kernel
theorem d11_4 : decode jdk_42_method_54_code 4 = .ok (.arraylength, 1) := by decide +kernel
theorem d11_5 : decode jdk_42_method_54_code 5 = .ok (.aload_n 0, 1) := by decide +kernel
theorem d11_6 : decode jdk_42_method_54_code 6 = .ok (.invokevirtual 335, 3) := by decide +kernel
theorem d11_9 : decode jdk_42_method_54_code 9 = .ok (.ishr, 1) := by decide +kernel
theorem d11_10 : decode jdk_42_method_54_code 10 = .ok (.ireturn, 1) := by decide +kernel
theorem pn_11 : plainFor (⟨"java/lang/String", "length", "()I"⟩ : MethodName) = true := plainFor_of_name (by first | (simp [plainName, overriddenIn]; done) | decide +kernel)
theorem ef_con_length (m : MethodId) (a : Addr) : entryFrame m #[(.ref a)] 1 = mkF m 0 #[.val (.ref a)] [] := by first | (simp [entryFrame, mkF, argsToLocals, Value.category]; done) | rfl
theorem pd0 : parseMethodDescriptor "()B" = some ⟨[], some .byte⟩ := by decide +kernel
set_option maxRecDepth 65536 in
set_option maxHeartbeats 4000000 in
theorem con_length (l : Launch) (Z : State) (a0 : Array Value) (hw : ∀ d ∈ tables_1, d.before a0 Z = true) (a : Addr) (h0 : Heap) (n0 : Nat) (Z0 : n0 ≤ h0.size) (G1 : Int32) (fm : Value) (hG : own_G Z G1 fm) (X00 : own_Old Z n0 h0) (b : Addr) (kb : ClassId) (z1 : Int32) (vs : List Value) (hE : Exa Z h0 a "java/lang/String") (hC : Fld Z h0 a "java/lang/String" "coder" "B" (.int (0 : Int32))) (hV : Fld Z h0 a "java/lang/String" "value" "[B" (.ref b)) (hA : Arv Z h0 b kb .byte z1 vs (.int (0 : Int32))) :
    own_Con l Z (⟨"java/lang/String", "length", "()I"⟩ : MethodName) jdk_42_method_54_code 1 (some .int) ({ frames := 1, cells := 0, slots := 0, locals := 13 } : Room) #[(.ref a)] h0 (fun v h L => ∃ z : Int32, v = some (.int z) ∧ (z = z1) ∧ L = [] ∧ h = h0) := by
  refine own_Con_of pn_11 ?_
  intro p e s m below meth c s₁ X0 hx hby hml hret hlk hnm hown hZ e0
  have hown : s.vm.findClass "java/lang/String" = some m.cls := hown
  have hml : c.maxLocals = 1 := hml
  show own_WP _ _ _ _ _ _ _ (s₁.setTop (entryFrame m #[(.ref a)] 1))
  rw [ef_con_length m a]
  refine own_aloadN (pc' := 1) X0 hx (hb hby d11_0) rfl rfl rfl ?_
  refine own_getF (pc' := 4) X0 hx hZ hown (host := "") (Or.inl (own_w hw 20 rfl)) Via.refl e0 hV (hb hby d11_1) rfl ?_
  intro T1 X1 e1
  refine own_arrlen (pc' := 5) X1 hx hZ e1 hA (hb hby d11_4) rfl ?_
  refine own_aloadN (pc' := 6) X1 hx (hb hby d11_5) rfl rfl rfl ?_
  refine own_callV (pc' := 9) (W := 1) (y := (⟨"java/lang/String", "coder", "()B"⟩ : MethodName)) (z := (⟨"java/lang/String", "coder", "()B"⟩ : MethodName)) X1 hx hZ hown (own_w hw 77 rfl) (own_w hw 78 rfl) (notFace_of_selects (args := #[]) (mvT hZ (own_w hw 80 rfl))) (own_w hw 80 rfl) (own_w hw 79 rfl) (own_w hw 2 rfl) (own_w hw 81 rfl) (by decide) hE (con_coder l Z a0 hw a _ n0 Z0 G1 fm hG X00 hC) e1 pd0 [] [(.int z1)] rfl rfl rfl (Nat.le_of_eq rfl) (by decide) (by decide) (by rw [hml]; rfl) (hb hby d11_6) (by decide) (by decide) rfl ?_
  intro v2 T2 L2 X2 q2
  obtain ⟨r2, rfl, hr2, rfl, e2⟩ := q2
  show own_WP _ _ _ _ _ _ _ (T2.setTop (mkF m 9 #[.val (.ref a)] [(.int r2), (.int z1)]))
  refine own_ishr (pc' := 10) X2 hx (hb hby d11_9) rfl ?_
  refine own_retI X2 hx (fun _ _ _ _ q => q) hlk hret (hb hby d11_10) (by decide) (by decide) ?_
  exact ⟨(z1 >>> (r2 &&& 31)), rfl, by rw [hr2]; simp, rfl, e2⟩
theorem d38_0 : decode jdk_42_method_154_code 0 = .ok (.getstatic 38, 3) := by decide +kernel
theorem d38_3 : decode jdk_42_method_154_code 3 = .ok (.ifCond .eq 14, 3) := by decide +kernel
theorem d38_6 : decode jdk_42_method_154_code 6 = .ok (.aload_n 0, 1) := by decide +kernel
theorem d38_7 : decode jdk_42_method_154_code 7 = .ok (.getfield 15, 3) := by decide +kernel
theorem d38_10 : decode jdk_42_method_154_code 10 = .ok (.ifCond .ne 7, 3) := by decide +kernel
theorem d38_13 : decode jdk_42_method_154_code 13 = .ok (.iconst 1, 1) := by decide +kernel
theorem d38_14 : decode jdk_42_method_154_code 14 = .ok (.goto 4, 3) := by decide +kernel
theorem d38_18 : decode jdk_42_method_154_code 18 = .ok (.ireturn, 1) := by decide +kernel
theorem pn_38 : plainFor (⟨"java/lang/String", "isLatin1", "()Z"⟩ : MethodName) = true := plainFor_of_name (by first | (simp [plainName, overriddenIn]; done) | decide +kernel)
theorem ef_con_isL1 (m : MethodId) (a : Addr) : entryFrame m #[(.ref a)] 1 = mkF m 0 #[.val (.ref a)] [] := by first | (simp [entryFrame, mkF, argsToLocals, Value.category]; done) | rfl
set_option maxRecDepth 65536 in
set_option maxHeartbeats 4000000 in
theorem con_isL1 (l : Launch) (Z : State) (a0 : Array Value) (hw : ∀ d ∈ tables_1, d.before a0 Z = true) (a : Addr) (h0 : Heap) (n0 : Nat) (Z0 : n0 ≤ h0.size) (G1 : Int32) (fm : Value) (hG : own_G Z G1 fm) (X00 : own_Old Z n0 h0) (hC : Fld Z h0 a "java/lang/String" "coder" "B" (.int (0 : Int32))) :
    own_Con l Z (⟨"java/lang/String", "isLatin1", "()Z"⟩ : MethodName) jdk_42_method_154_code 1 (some .boolean) ({ frames := 0, cells := 0, slots := 0, locals := 0 } : Room) #[(.ref a)] h0 (fun v h L => ∃ z : Int32, v = some (.int z) ∧ (z = 1) ∧ L = [] ∧ h = h0) := by
  refine own_Con_of pn_38 ?_
  intro p e s m below meth c s₁ X0 hx hby hml hret hlk hnm hown hZ e0
  have hown : s.vm.findClass "java/lang/String" = some m.cls := hown
  have hml : c.maxLocals = 1 := hml
  show own_WP _ _ _ _ _ _ _ (s₁.setTop (entryFrame m #[(.ref a)] 1))
  rw [ef_con_isL1 m a]
  refine own_getS (pc' := 3) X0 hx hZ hown (host := "") (Or.inl (own_w hw 82 rfl)) Via.refl e0 (hG.1.ext X00.x) (hb hby d38_0) rfl ?_
  intro T1 X1 e1
  refine own_if_eq (pt := 17) (pf := 6) X1 hx (hb hby d38_3) rfl (by decide) rfl (fun hc3 => absurd hc3 (hG.2.1)) (fun hc3 => ?_)
  refine own_aloadN (pc' := 7) X1 hx (hb hby d38_6) rfl rfl rfl ?_
  refine own_getF (pc' := 10) X1 hx hZ hown (host := "") (Or.inl (own_w hw 21 rfl)) Via.refl e1 hC (hb hby d38_7) rfl ?_
  intro T2 X2 e2
  refine own_if_ne (pt := 17) (pf := 13) X2 hx (hb hby d38_10) rfl (by decide) rfl (fun hc10 => absurd (by decide) hc10) (fun hc10 => ?_)
  refine own_iconst (pc' := 14) X2 hx (1 : Int32) (hb hby d38_13) rfl rfl ?_
  refine own_goto (pc' := 18) X2 hx (hb hby d38_14) (by decide) rfl ?_
  refine own_retN X2 hx (fun _ _ _ _ q => q) hlk (t := .boolean) (by decide) hret (hb hby d38_18) (by decide) (by decide) ?_
  exact ⟨(1 : Int32), rfl, rfl, rfl, e2⟩
theorem d41_0 : decode jdk_41_method_11_code 0 = .ok (.iload_n 0, 1) := by decide +kernel
theorem d41_1 : decode jdk_41_method_11_code 1 = .ok (.ifCond .lt 8, 3) := by decide +kernel
theorem d41_4 : decode jdk_41_method_11_code 4 = .ok (.iload_n 0, 1) := by decide +kernel
theorem d41_5 : decode jdk_41_method_11_code 5 = .ok (.iload_n 1, 1) := by decide +kernel
theorem d41_6 : decode jdk_41_method_11_code 6 = .ok (.if_icmp .lt 10, 3) := by decide +kernel
theorem d41_16 : decode jdk_41_method_11_code 16 = .ok (.iload_n 0, 1) := by decide +kernel
theorem d41_17 : decode jdk_41_method_11_code 17 = .ok (.ireturn, 1) := by decide +kernel
theorem pn_41 : plainFor (⟨"jdk/internal/util/Preconditions", "checkIndex", "(IILjava/util/function/BiFunction;)I"⟩ : MethodName) = true := plainFor_of_name (by first | (simp [plainName, overriddenIn]; done) | decide +kernel)
theorem ef_con_ciP1 (m : MethodId) (i : Int32) (len : Int32) (fo : Addr) : entryFrame m #[(.int i), (.int len), (.ref fo)] 3 = mkF m 0 #[.val (.int i), .val (.int len), .val (.ref fo)] [] := by first | (simp [entryFrame, mkF, argsToLocals, Value.category]; done) | rfl
set_option maxRecDepth 65536 in
set_option maxHeartbeats 4000000 in
theorem con_ciP1 (l : Launch) (Z : State) (a0 : Array Value) (hw : ∀ d ∈ tables_1, d.before a0 Z = true) (i : Int32) (len : Int32) (fo : Addr) (h0 : Heap) (n0 : Nat) (Z0 : n0 ≤ h0.size) (hi : ¬ i < 0 ∧ i < len) :
    own_Con l Z (⟨"jdk/internal/util/Preconditions", "checkIndex", "(IILjava/util/function/BiFunction;)I"⟩ : MethodName) jdk_41_method_11_code 3 (some .int) ({ frames := 0, cells := 0, slots := 0, locals := 0 } : Room) #[(.int i), (.int len), (.ref fo)] h0 (fun v h L => ∃ z : Int32, v = some (.int z) ∧ (z = i) ∧ L = [] ∧ h = h0) := by
  refine own_Con_of pn_41 ?_
  intro p e s m below meth c s₁ X0 hx hby hml hret hlk hnm hown hZ e0
  have hown : s.vm.findClass "jdk/internal/util/Preconditions" = some m.cls := hown
  have hml : c.maxLocals = 3 := hml
  show own_WP _ _ _ _ _ _ _ (s₁.setTop (entryFrame m #[(.int i), (.int len), (.ref fo)] 3))
  rw [ef_con_ciP1 m i len fo]
  refine own_iloadN (pc' := 1) X0 hx (hb hby d41_0) rfl rfl ?_
  refine own_if_lt (pt := 9) (pf := 4) X0 hx (hb hby d41_1) rfl (by decide) rfl (fun hc1 => absurd hc1 (hi.1)) (fun hc1 => ?_)
  refine own_iloadN (pc' := 5) X0 hx (hb hby d41_4) rfl rfl ?_
  refine own_iloadN (pc' := 6) X0 hx (hb hby d41_5) rfl rfl ?_
  refine own_icmp_lt (pt := 16) (pf := 9) X0 hx (hb hby d41_6) rfl (by decide) rfl (fun hc6 => ?_) (fun hc6 => absurd (hi.2) hc6)
  refine own_iloadN (pc' := 17) X0 hx (hb hby d41_16) rfl rfl ?_
  refine own_retI X0 hx (fun _ _ _ _ q => q) hlk hret (hb hby d41_17) (by decide) (by decide) ?_
  exact ⟨i, rfl, rfl, rfl, e0⟩
theorem d40_0 : decode jdk_42_method_155_code 0 = .ok (.iload_n 0, 1) := by decide +kernel
theorem d40_1 : decode jdk_42_method_155_code 1 = .ok (.iload_n 1, 1) := by decide +kernel
theorem d40_2 : decode jdk_42_method_155_code 2 = .ok (.getstatic 1053, 3) := by decide +kernel
theorem d40_5 : decode jdk_42_method_155_code 5 = .ok (.invokestatic 1059, 3) := by decide +kernel
theorem d40_8 : decode jdk_42_method_155_code 8 = .ok (.pop, 1) := by decide +kernel
theorem d40_9 : decode jdk_42_method_155_code 9 = .ok (.return_, 1) := by decide +kernel
theorem pn_40 : plainFor (⟨"java/lang/String", "checkIndex", "(II)V"⟩ : MethodName) = true := plainFor_of_name (by first | (simp [plainName, overriddenIn]; done) | decide +kernel)
theorem ef_con_ciS1 (m : MethodId) (i : Int32) (len : Int32) : entryFrame m #[(.int i), (.int len)] 2 = mkF m 0 #[.val (.int i), .val (.int len)] [] := by first | (simp [entryFrame, mkF, argsToLocals, Value.category]; done) | rfl
theorem pd1 : parseMethodDescriptor "(IILjava/util/function/BiFunction;)I" = some ⟨[.int, .int, (.object "java/util/function/BiFunction")], some .int⟩ := by decide +kernel
set_option maxRecDepth 65536 in
set_option maxHeartbeats 4000000 in
theorem con_ciS1 (l : Launch) (Z : State) (a0 : Array Value) (hw : ∀ d ∈ tables_1, d.before a0 Z = true) (i : Int32) (len : Int32) (h0 : Heap) (n0 : Nat) (Z0 : n0 ≤ h0.size) (fo : Addr) (hF : Sta Z Z.heap "jdk/internal/util/Preconditions" "SIOOBE_FORMATTER" "Ljava/util/function/BiFunction;" (.ref fo)) (X00 : own_Old Z n0 h0) (hi : ¬ i < 0 ∧ i < len) :
    own_Con l Z (⟨"java/lang/String", "checkIndex", "(II)V"⟩ : MethodName) jdk_42_method_155_code 2 none ({ frames := 1, cells := 0, slots := 0, locals := 14 } : Room) #[(.int i), (.int len)] h0 (fun v h L => v = none ∧ L = [] ∧ h = h0) := by
  refine own_Con_of pn_40 ?_
  intro p e s m below meth c s₁ X0 hx hby hml hret hlk hnm hown hZ e0
  have hown : s.vm.findClass "java/lang/String" = some m.cls := hown
  have hml : c.maxLocals = 2 := hml
  show own_WP _ _ _ _ _ _ _ (s₁.setTop (entryFrame m #[(.int i), (.int len)] 2))
  rw [ef_con_ciS1 m i len]
  refine own_iloadN (pc' := 1) X0 hx (hb hby d40_0) rfl rfl ?_
  refine own_iloadN (pc' := 2) X0 hx (hb hby d40_1) rfl rfl ?_
  refine own_getS (pc' := 5) X0 hx hZ hown (host := "") (Or.inl (own_w hw 236 rfl)) Via.refl e0 (hF.ext X00.x) (hb hby d40_2) rfl ?_
  intro T1 X1 e1
  refine own_callS (pc' := 8) (W := 0) (y := (⟨"jdk/internal/util/Preconditions", "checkIndex", "(IILjava/util/function/BiFunction;)I"⟩ : MethodName)) X1 hx hZ hown (own_w hw 238 rfl) (own_w hw 239 rfl) (own_w hw 237 rfl) (own_w hw 240 rfl) (by decide) (con_ciP1 l Z a0 hw i len fo _ n0 Z0 hi) e1 pd1 [(.int i), (.int len), (.ref fo)] [] rfl rfl rfl (Nat.le_of_eq rfl) (by decide) (by decide) (by rw [hml]; rfl) (hb hby d40_5) (by decide) (by decide) rfl ?_
  intro v2 T2 L2 X2 q2
  obtain ⟨r2, rfl, hr2, rfl, e2⟩ := q2
  show own_WP _ _ _ _ _ _ _ (T2.setTop (mkF m 8 #[.val (.int i), .val (.int len)] [(.int r2)]))
  refine own_pop (pc' := 9) X2 hx (hb hby d40_8) rfl rfl ?_
  refine own_ret0 X2 hx (fun _ _ _ _ q => q) hlk hret (hb hby d40_9) (by decide) (by decide) ?_
  exact ⟨rfl, rfl, e2⟩
theorem ef_con_ciP0 (m : MethodId) (i : Int32) (len : Int32) : entryFrame m #[(.int i), (.int len), .null] 3 = mkF m 0 #[.val (.int i), .val (.int len), .val .null] [] := by first | (simp [entryFrame, mkF, argsToLocals, Value.category]; done) | rfl
set_option maxRecDepth 65536 in
set_option maxHeartbeats 4000000 in
theorem con_ciP0 (l : Launch) (Z : State) (a0 : Array Value) (hw : ∀ d ∈ tables_1, d.before a0 Z = true) (i : Int32) (len : Int32) (h0 : Heap) (n0 : Nat) (Z0 : n0 ≤ h0.size) (hi : ¬ i < 0 ∧ i < len) :
    own_Con l Z (⟨"jdk/internal/util/Preconditions", "checkIndex", "(IILjava/util/function/BiFunction;)I"⟩ : MethodName) jdk_41_method_11_code 3 (some .int) ({ frames := 0, cells := 0, slots := 0, locals := 0 } : Room) #[(.int i), (.int len), .null] h0 (fun v h L => ∃ z : Int32, v = some (.int z) ∧ (z = i) ∧ L = [] ∧ h = h0) := by
  refine own_Con_of pn_41 ?_
  intro p e s m below meth c s₁ X0 hx hby hml hret hlk hnm hown hZ e0
  have hown : s.vm.findClass "jdk/internal/util/Preconditions" = some m.cls := hown
  have hml : c.maxLocals = 3 := hml
  show own_WP _ _ _ _ _ _ _ (s₁.setTop (entryFrame m #[(.int i), (.int len), .null] 3))
  rw [ef_con_ciP0 m i len]
  refine own_iloadN (pc' := 1) X0 hx (hb hby d41_0) rfl rfl ?_
  refine own_if_lt (pt := 9) (pf := 4) X0 hx (hb hby d41_1) rfl (by decide) rfl (fun hc1 => absurd hc1 (hi.1)) (fun hc1 => ?_)
  refine own_iloadN (pc' := 5) X0 hx (hb hby d41_4) rfl rfl ?_
  refine own_iloadN (pc' := 6) X0 hx (hb hby d41_5) rfl rfl ?_
  refine own_icmp_lt (pt := 16) (pf := 9) X0 hx (hb hby d41_6) rfl (by decide) rfl (fun hc6 => ?_) (fun hc6 => absurd (hi.2) hc6)
  refine own_iloadN (pc' := 17) X0 hx (hb hby d41_16) rfl rfl ?_
  refine own_retI X0 hx (fun _ _ _ _ q => q) hlk hret (hb hby d41_17) (by decide) (by decide) ?_
  exact ⟨i, rfl, rfl, rfl, e0⟩
theorem ef_con_ciS0 (m : MethodId) (i : Int32) (len : Int32) : entryFrame m #[(.int i), (.int len)] 2 = mkF m 0 #[.val (.int i), .val (.int len)] [] := by first | (simp [entryFrame, mkF, argsToLocals, Value.category]; done) | rfl
set_option maxRecDepth 65536 in
set_option maxHeartbeats 4000000 in
theorem con_ciS0 (l : Launch) (Z : State) (a0 : Array Value) (hw : ∀ d ∈ tables_1, d.before a0 Z = true) (i : Int32) (len : Int32) (h0 : Heap) (n0 : Nat) (Z0 : n0 ≤ h0.size)  (hF : Sta Z Z.heap "jdk/internal/util/Preconditions" "SIOOBE_FORMATTER" "Ljava/util/function/BiFunction;" .null) (X00 : own_Old Z n0 h0) (hi : ¬ i < 0 ∧ i < len) :
    own_Con l Z (⟨"java/lang/String", "checkIndex", "(II)V"⟩ : MethodName) jdk_42_method_155_code 2 none ({ frames := 1, cells := 0, slots := 0, locals := 14 } : Room) #[(.int i), (.int len)] h0 (fun v h L => v = none ∧ L = [] ∧ h = h0) := by
  refine own_Con_of pn_40 ?_
  intro p e s m below meth c s₁ X0 hx hby hml hret hlk hnm hown hZ e0
  have hown : s.vm.findClass "java/lang/String" = some m.cls := hown
  have hml : c.maxLocals = 2 := hml
  show own_WP _ _ _ _ _ _ _ (s₁.setTop (entryFrame m #[(.int i), (.int len)] 2))
  rw [ef_con_ciS0 m i len]
  refine own_iloadN (pc' := 1) X0 hx (hb hby d40_0) rfl rfl ?_
  refine own_iloadN (pc' := 2) X0 hx (hb hby d40_1) rfl rfl ?_
  refine own_getS (pc' := 5) X0 hx hZ hown (host := "") (Or.inl (own_w hw 236 rfl)) Via.refl e0 (hF.ext X00.x) (hb hby d40_2) rfl ?_
  intro T1 X1 e1
  refine own_callS (pc' := 8) (W := 0) (y := (⟨"jdk/internal/util/Preconditions", "checkIndex", "(IILjava/util/function/BiFunction;)I"⟩ : MethodName)) X1 hx hZ hown (own_w hw 238 rfl) (own_w hw 239 rfl) (own_w hw 237 rfl) (own_w hw 240 rfl) (by decide) (con_ciP0 l Z a0 hw i len  _ n0 Z0 hi) e1 pd1 [(.int i), (.int len), .null] [] rfl rfl rfl (Nat.le_of_eq rfl) (by decide) (by decide) (by rw [hml]; rfl) (hb hby d40_5) (by decide) (by decide) rfl ?_
  intro v2 T2 L2 X2 q2
  obtain ⟨r2, rfl, hr2, rfl, e2⟩ := q2
  show own_WP _ _ _ _ _ _ _ (T2.setTop (mkF m 8 #[.val (.int i), .val (.int len)] [(.int r2)]))
  refine own_pop (pc' := 9) X2 hx (hb hby d40_8) rfl rfl ?_
  refine own_ret0 X2 hx (fun _ _ _ _ q => q) hlk hret (hb hby d40_9) (by decide) (by decide) ?_
  exact ⟨rfl, rfl, e2⟩
theorem con_ciS (l : Launch) (Z : State) (a0 : Array Value) (hw : ∀ d ∈ tables_1, d.before a0 Z = true) (i len : Int32) (h0 : Heap) (n0 : Nat) (Z0 : n0 ≤ h0.size) (G1 : Int32) (fm : Value) (hG : own_G Z G1 fm) (X00 : own_Old Z n0 h0) (hi : ¬ i < 0 ∧ i < len) : own_Con l Z (⟨"java/lang/String", "checkIndex", "(II)V"⟩ : MethodName) jdk_42_method_155_code 2 none ({ frames := 1, cells := 0, slots := 0, locals := 14 } : Room) #[.int i, .int len] h0 (fun v h L => v = none ∧ L = [] ∧ h = h0) := by
  obtain ⟨q1, q2, q3, q4⟩ := hG
  cases fm with
  | null => exact con_ciS0 l Z a0 hw i len h0 n0 Z0 q3 X00 hi
  | ref a => exact con_ciS1 l Z a0 hw i len h0 n0 Z0 a q3 X00 hi
  | _ => cases q4
theorem d39_0 : decode jdk_43_method_2_code 0 = .ok (.iload_n 1, 1) := by decide +kernel
theorem d39_1 : decode jdk_43_method_2_code 1 = .ok (.aload_n 0, 1) := by decide +kernel
theorem d39_2 : decode jdk_43_method_2_code 2 = .ok (.arraylength, 1) := by decide +kernel
theorem d39_3 : decode jdk_43_method_2_code 3 = .ok (.invokestatic 9, 3) := by decide +kernel
theorem d39_6 : decode jdk_43_method_2_code 6 = .ok (.aload_n 0, 1) := by decide +kernel
theorem d39_7 : decode jdk_43_method_2_code 7 = .ok (.iload_n 1, 1) := by decide +kernel
theorem d39_8 : decode jdk_43_method_2_code 8 = .ok (.baload, 1) := by decide +kernel
theorem d39_9 : decode jdk_43_method_2_code 9 = .ok (.sipush 255, 3) := by decide +kernel
theorem d39_12 : decode jdk_43_method_2_code 12 = .ok (.iand, 1) := by decide +kernel
theorem d39_13 : decode jdk_43_method_2_code 13 = .ok (.i2c, 1) := by decide +kernel
theorem d39_14 : decode jdk_43_method_2_code 14 = .ok (.ireturn, 1) := by decide +kernel
theorem pn_39 : plainFor (⟨"java/lang/StringLatin1", "charAt", "([BI)C"⟩ : MethodName) = true := plainFor_of_name (by first | (simp [plainName, overriddenIn]; done) | decide +kernel)
theorem ef_con_chL (m : MethodId) (b : Addr) (i : Int32) : entryFrame m #[(.ref b), (.int i)] 2 = mkF m 0 #[.val (.ref b), .val (.int i)] [] := by first | (simp [entryFrame, mkF, argsToLocals, Value.category]; done) | rfl
theorem pd2 : parseMethodDescriptor "(II)V" = some ⟨[.int, .int], none⟩ := by decide +kernel
set_option maxRecDepth 65536 in
set_option maxHeartbeats 4000000 in
theorem con_chL (l : Launch) (Z : State) (a0 : Array Value) (hw : ∀ d ∈ tables_1, d.before a0 Z = true) (b : Addr) (i : Int32) (h0 : Heap) (n0 : Nat) (Z0 : n0 ≤ h0.size) (G1 : Int32) (fm : Value) (hG : own_G Z G1 fm) (X00 : own_Old Z n0 h0) (kb : ClassId) (z1 : Int32) (vs : List Value) (hA : Arv Z h0 b kb .byte z1 vs (.int (0 : Int32))) (bv : Int32) (hi : ¬ i < 0 ∧ i < z1) (hb1 : vs.getD i.toNatClampNeg (.int (0 : Int32)) = .int bv) :
    own_Con l Z (⟨"java/lang/StringLatin1", "charAt", "([BI)C"⟩ : MethodName) jdk_43_method_2_code 2 (some .char) ({ frames := 2, cells := 0, slots := 0, locals := 27 } : Room) #[(.ref b), (.int i)] h0 (fun v h L => ∃ z : Int32, v = some (.int z) ∧ (z = own_ch bv) ∧ L = [] ∧ h = h0) := by
  refine own_Con_of pn_39 ?_
  intro p e s m below meth c s₁ X0 hx hby hml hret hlk hnm hown hZ e0
  have hown : s.vm.findClass "java/lang/StringLatin1" = some m.cls := hown
  have hml : c.maxLocals = 2 := hml
  show own_WP _ _ _ _ _ _ _ (s₁.setTop (entryFrame m #[(.ref b), (.int i)] 2))
  rw [ef_con_chL m b i]
  refine own_iloadN (pc' := 1) X0 hx (hb hby d39_0) rfl rfl ?_
  refine own_aloadN (pc' := 2) X0 hx (hb hby d39_1) rfl rfl rfl ?_
  refine own_arrlen (pc' := 3) X0 hx hZ e0 hA (hb hby d39_2) rfl ?_
  refine own_callS (pc' := 6) (W := 0) (y := (⟨"java/lang/String", "checkIndex", "(II)V"⟩ : MethodName)) X0 hx hZ hown (own_w hw 233 rfl) (own_w hw 234 rfl) (own_w hw 2 rfl) (own_w hw 235 rfl) (by decide) (con_ciS l Z a0 hw i z1 _ n0 Z0 G1 fm hG X00 hi) e0 pd2 [(.int i), (.int z1)] [] rfl rfl rfl (Nat.le_of_eq rfl) (by decide) (by decide) (by rw [hml]; rfl) (hb hby d39_3) (by decide) (by decide) rfl ?_
  intro v1 T1 L1 X1 q1
  obtain ⟨rfl, rfl, e1⟩ := q1
  show own_WP _ _ _ _ _ _ _ (T1.setTop (mkF m 6 #[.val (.ref b), .val (.int i)] []))
  refine own_aloadN (pc' := 7) X1 hx (hb hby d39_6) rfl rfl rfl ?_
  refine own_iloadN (pc' := 8) X1 hx (hb hby d39_7) rfl rfl ?_
  refine own_baload (pc' := 9) (v := (.int bv)) X1 hx hZ e1 hA hi hb1 (hb hby d39_8) rfl ?_
  refine own_sipush (pc' := 12) X1 hx (255 : Int32) (hb hby d39_9) rfl rfl ?_
  refine own_iand (pc' := 13) X1 hx (hb hby d39_12) rfl ?_
  refine own_i2c (pc' := 14) X1 hx (hb hby d39_13) rfl ?_
  refine own_retN X1 hx (fun _ _ _ _ q => q) hlk (t := .char) (by decide) hret (hb hby d39_14) (by decide) (by decide) ?_
  exact ⟨_, rfl, own_ch_c bv, rfl, e1⟩
theorem d37_0 : decode jdk_42_method_56_code 0 = .ok (.aload_n 0, 1) := by decide +kernel
theorem d37_1 : decode jdk_42_method_56_code 1 = .ok (.invokevirtual 492, 3) := by decide +kernel
theorem d37_4 : decode jdk_42_method_56_code 4 = .ok (.ifCond .eq 12, 3) := by decide +kernel
theorem d37_7 : decode jdk_42_method_56_code 7 = .ok (.aload_n 0, 1) := by decide +kernel
theorem d37_8 : decode jdk_42_method_56_code 8 = .ok (.getfield 9, 3) := by decide +kernel
theorem d37_11 : decode jdk_42_method_56_code 11 = .ok (.iload_n 1, 1) := by decide +kernel
theorem d37_12 : decode jdk_42_method_56_code 12 = .ok (.invokestatic 495, 3) := by decide +kernel
theorem d37_15 : decode jdk_42_method_56_code 15 = .ok (.ireturn, 1) := by decide +kernel
theorem pn_37 : plainFor (⟨"java/lang/String", "charAt", "(I)C"⟩ : MethodName) = true := plainFor_of_name (by first | (simp [plainName, overriddenIn]; done) | decide +kernel)
theorem ef_con_charAt (m : MethodId) (a : Addr) (i : Int32) : entryFrame m #[(.ref a), (.int i)] 2 = mkF m 0 #[.val (.ref a), .val (.int i)] [] := by first | (simp [entryFrame, mkF, argsToLocals, Value.category]; done) | rfl
theorem pd3 : parseMethodDescriptor "()Z" = some ⟨[], some .boolean⟩ := by decide +kernel
theorem pd4 : parseMethodDescriptor "([BI)C" = some ⟨[(.array .byte), .int], some .char⟩ := by decide +kernel
set_option maxRecDepth 65536 in
set_option maxHeartbeats 4000000 in
theorem con_charAt (l : Launch) (Z : State) (a0 : Array Value) (hw : ∀ d ∈ tables_1, d.before a0 Z = true) (a : Addr) (i : Int32) (h0 : Heap) (n0 : Nat) (Z0 : n0 ≤ h0.size) (G1 : Int32) (fm : Value) (hG : own_G Z G1 fm) (X00 : own_Old Z n0 h0) (b : Addr) (kb : ClassId) (z1 : Int32) (vs : List Value) (hE : Exa Z h0 a "java/lang/String") (hC : Fld Z h0 a "java/lang/String" "coder" "B" (.int (0 : Int32))) (hV : Fld Z h0 a "java/lang/String" "value" "[B" (.ref b)) (hA : Arv Z h0 b kb .byte z1 vs (.int (0 : Int32))) (bv : Int32) (hi : ¬ i < 0 ∧ i < z1) (hb1 : vs.getD i.toNatClampNeg (.int (0 : Int32)) = .int bv) :
    own_Con l Z (⟨"java/lang/String", "charAt", "(I)C"⟩ : MethodName) jdk_42_method_56_code 2 (some .char) ({ frames := 3, cells := 0, slots := 0, locals := 40 } : Room) #[(.ref a), (.int i)] h0 (fun v h L => ∃ z : Int32, v = some (.int z) ∧ (z = own_ch bv) ∧ L = [] ∧ h = h0) := by
  refine own_Con_of pn_37 ?_
  intro p e s m below meth c s₁ X0 hx hby hml hret hlk hnm hown hZ e0
  have hown : s.vm.findClass "java/lang/String" = some m.cls := hown
  have hml : c.maxLocals = 2 := hml
  show own_WP _ _ _ _ _ _ _ (s₁.setTop (entryFrame m #[(.ref a), (.int i)] 2))
  rw [ef_con_charAt m a i]
  refine own_aloadN (pc' := 1) X0 hx (hb hby d37_0) rfl rfl rfl ?_
  refine own_callV (pc' := 4) (W := 0) (y := (⟨"java/lang/String", "isLatin1", "()Z"⟩ : MethodName)) (z := (⟨"java/lang/String", "isLatin1", "()Z"⟩ : MethodName)) X0 hx hZ hown (own_w hw 224 rfl) (own_w hw 225 rfl) (notFace_of_selects (args := #[]) (mvT hZ (own_w hw 227 rfl))) (own_w hw 227 rfl) (own_w hw 226 rfl) (own_w hw 2 rfl) (own_w hw 228 rfl) (by decide) hE (con_isL1 l Z a0 hw a _ n0 Z0 G1 fm hG X00 hC) e0 pd3 [] [] rfl rfl rfl (Nat.le_of_eq rfl) (by decide) (by decide) (by rw [hml]; rfl) (hb hby d37_1) (by decide) (by decide) rfl ?_
  intro v1 T1 L1 X1 q1
  obtain ⟨r1, rfl, hr1, rfl, e1⟩ := q1
  show own_WP _ _ _ _ _ _ _ (T1.setTop (mkF m 4 #[.val (.ref a), .val (.int i)] [(.int r1)]))
  refine own_if_eq (pt := 16) (pf := 7) X1 hx (hb hby d37_4) rfl (by decide) rfl (fun hc4 => absurd hc4 (by rw [hr1]; decide)) (fun hc4 => ?_)
  refine own_aloadN (pc' := 8) X1 hx (hb hby d37_7) rfl rfl rfl ?_
  refine own_getF (pc' := 11) X1 hx hZ hown (host := "") (Or.inl (own_w hw 20 rfl)) Via.refl e1 hV (hb hby d37_8) rfl ?_
  intro T2 X2 e2
  refine own_iloadN (pc' := 12) X2 hx (hb hby d37_11) rfl rfl ?_
  refine own_callS (pc' := 15) (W := 0) (y := (⟨"java/lang/StringLatin1", "charAt", "([BI)C"⟩ : MethodName)) X2 hx hZ hown (own_w hw 229 rfl) (own_w hw 230 rfl) (own_w hw 231 rfl) (own_w hw 232 rfl) (by decide) (con_chL l Z a0 hw b i _ n0 Z0 G1 fm hG X00 kb z1 vs hA bv hi hb1) e2 pd4 [(.ref b), (.int i)] [] rfl rfl rfl (Nat.le_of_eq rfl) (by decide) (by decide) (by rw [hml]; rfl) (hb hby d37_12) (by decide) (by decide) rfl ?_
  intro v3 T3 L3 X3 q3
  obtain ⟨r3, rfl, hr3, rfl, e3⟩ := q3
  show own_WP _ _ _ _ _ _ _ (T3.setTop (mkF m 15 #[.val (.ref a), .val (.int i)] [(.int r3)]))
  refine own_retN X3 hx (fun _ _ _ _ q => q) hlk (t := .char) (by decide) hret (hb hby d37_15) (by decide) (by decide) ?_
  exact ⟨_, rfl, by rw [hr3]; exact own_ch_n bv, rfl, e3⟩
theorem d51_0 : decode jdk_43_method_3_code 0 = .ok (.iload_n 0, 1) := by decide +kernel
theorem d51_1 : decode jdk_43_method_3_code 1 = .ok (.sipush 255, 3) := by decide +kernel
theorem d51_4 : decode jdk_43_method_3_code 4 = .ok (.if_icmp .gt 7, 3) := by decide +kernel
theorem d51_7 : decode jdk_43_method_3_code 7 = .ok (.iconst 1, 1) := by decide +kernel
theorem d51_8 : decode jdk_43_method_3_code 8 = .ok (.goto 4, 3) := by decide +kernel
theorem d51_12 : decode jdk_43_method_3_code 12 = .ok (.ireturn, 1) := by decide +kernel
theorem pn_51 : plainFor (⟨"java/lang/StringLatin1", "canEncode", "(C)Z"⟩ : MethodName) = true := plainFor_of_name (by first | (simp [plainName, overriddenIn]; done) | decide +kernel)
theorem ef_con_can (m : MethodId) (c1 : Int32) : entryFrame m #[(.int c1)] 1 = mkF m 0 #[.val (.int c1)] [] := by first | (simp [entryFrame, mkF, argsToLocals, Value.category]; done) | rfl
set_option maxRecDepth 65536 in
set_option maxHeartbeats 4000000 in
theorem con_can (l : Launch) (Z : State) (a0 : Array Value) (hw : ∀ d ∈ tables_1, d.before a0 Z = true) (c1 : Int32) (h0 : Heap) (n0 : Nat) (Z0 : n0 ≤ h0.size) (hc : ¬ (255 : Int32) < c1) :
    own_Con l Z (⟨"java/lang/StringLatin1", "canEncode", "(C)Z"⟩ : MethodName) jdk_43_method_3_code 1 (some .boolean) ({ frames := 0, cells := 0, slots := 0, locals := 0 } : Room) #[(.int c1)] h0 (fun v h L => ∃ z : Int32, v = some (.int z) ∧ (z = 1) ∧ L = [] ∧ h = h0) := by
  refine own_Con_of pn_51 ?_
  intro p e s m below meth c s₁ X0 hx hby hml hret hlk hnm hown hZ e0
  have hown : s.vm.findClass "java/lang/StringLatin1" = some m.cls := hown
  have hml : c.maxLocals = 1 := hml
  show own_WP _ _ _ _ _ _ _ (s₁.setTop (entryFrame m #[(.int c1)] 1))
  rw [ef_con_can m c1]
  refine own_iloadN (pc' := 1) X0 hx (hb hby d51_0) rfl rfl ?_
  refine own_sipush (pc' := 4) X0 hx (255 : Int32) (hb hby d51_1) rfl rfl ?_
  refine own_icmp_gt (pt := 11) (pf := 7) X0 hx (hb hby d51_4) rfl (by decide) rfl (fun hc4 => absurd hc4 (hc)) (fun hc4 => ?_)
  refine own_iconst (pc' := 8) X0 hx (1 : Int32) (hb hby d51_7) rfl rfl ?_
  refine own_goto (pc' := 12) X0 hx (hb hby d51_8) (by decide) rfl ?_
  refine own_retN X0 hx (fun _ _ _ _ q => q) hlk (t := .boolean) (by decide) hret (hb hby d51_12) (by decide) (by decide) ?_
  exact ⟨(1 : Int32), rfl, rfl, rfl, e0⟩
theorem d52_0 : decode jdk_43_method_46_code 0 = .ok (.iconst 1, 1) := by decide +kernel
theorem d52_1 : decode jdk_43_method_46_code 1 = .ok (.newarray .byte, 2) := by decide +kernel
theorem d52_3 : decode jdk_43_method_46_code 3 = .ok (.dup, 1) := by decide +kernel
theorem d52_4 : decode jdk_43_method_46_code 4 = .ok (.iconst 0, 1) := by decide +kernel
theorem d52_5 : decode jdk_43_method_46_code 5 = .ok (.iload_n 0, 1) := by decide +kernel
theorem d52_6 : decode jdk_43_method_46_code 6 = .ok (.i2b, 1) := by decide +kernel
theorem d52_7 : decode jdk_43_method_46_code 7 = .ok (.bastore, 1) := by decide +kernel
theorem d52_8 : decode jdk_43_method_46_code 8 = .ok (.areturn, 1) := by decide +kernel
theorem pn_52 : plainFor (⟨"java/lang/StringLatin1", "toBytes", "(C)[B"⟩ : MethodName) = true := plainFor_of_name (by first | (simp [plainName, overriddenIn]; done) | decide +kernel)
theorem ef_con_tb (m : MethodId) (c1 : Int32) : entryFrame m #[(.int c1)] 1 = mkF m 0 #[.val (.int c1)] [] := by first | (simp [entryFrame, mkF, argsToLocals, Value.category]; done) | rfl
set_option maxRecDepth 65536 in
set_option maxHeartbeats 4000000 in
theorem con_tb (l : Launch) (Z : State) (a0 : Array Value) (hw : ∀ d ∈ tables_1, d.before a0 Z = true) (c1 : Int32) (h0 : Heap) (n0 : Nat) (Z0 : n0 ≤ h0.size) :
    own_Con l Z (⟨"java/lang/StringLatin1", "toBytes", "(C)[B"⟩ : MethodName) jdk_43_method_46_code 1 (some (.array .byte)) ({ frames := 0, cells := 1, slots := 1, locals := 0 } : Room) #[(.int c1)] h0 (fun v h L => ∃ (b : Addr) (kb : ClassId), v = some (.ref b) ∧ Fr n0 L ∧ Keep h0 h [] ∧ h0.size ≤ b ∧ Arv Z h b kb .byte (1 : Int32) [.int (own_by c1)] (.int (0 : Int32))) := by
  refine own_Con_of pn_52 ?_
  intro p e s m below meth c s₁ X0 hx hby hml hret hlk hnm hown hZ e0
  have hown : s.vm.findClass "java/lang/StringLatin1" = some m.cls := hown
  have hml : c.maxLocals = 1 := hml
  have N0 := Fr.nil n0
  show own_WP _ _ _ _ _ _ _ (s₁.setTop (entryFrame m #[(.int c1)] 1))
  rw [ef_con_tb m c1]
  refine own_iconst (pc' := 1) X0 hx (1 : Int32) (hb hby d52_0) rfl rfl ?_
  refine own_newP (pc' := 3) (cap := 1) X0 hx hZ (own_w hw 15 rfl) e0 (hb hby d52_1) (by decide) (by decide) (by decide) (by decide) (by decide) rfl ?_
  intro T1 h1 k1 b1 g1 X1 e1 E1 A1
  have g_b1 : n0 ≤ b1 := Nat.le_trans Z0 (Nat.le_of_eq g1.symm)
  have sz_b1 : h0.size ≤ b1 := Nat.le_trans (Keep.refl h0 []).1 (Nat.le_of_eq g1.symm)
  have K1 : Keep h0 h1 [] := (Keep.refl h0 []).ext E1
  have V1 : Arv Z h1 b1 k1 .byte (1 : Int32) [(.int (0 : Int32))] (.int (0 : Int32)) := (Arv.new A1 (by decide)).pad (pad_rep [] (.int (0 : Int32)) 1)
  refine own_dup (pc' := 4) X1 hx (hb hby d52_3) rfl rfl ?_
  refine own_iconst (pc' := 5) X1 hx (0 : Int32) (hb hby d52_4) rfl rfl ?_
  refine own_iloadN (pc' := 6) X1 hx (hb hby d52_5) rfl rfl ?_
  refine own_i2b (pc' := 7) X1 hx (hb hby d52_6) rfl ?_
  obtain ⟨v3, hv3⟩ : ∃ z : Int32, z = (c1.toInt8.toInt32) := ⟨_, rfl⟩
  rw [← hv3]
  refine own_bastore (pc' := 8) X1 hx hZ e1 V1 ⟨by decide, by decide⟩ 0 rfl (Nat.le_of_ble_eq_true rfl) (hb hby d52_7) rfl ?_
  intro T2 h2 X2 e2 W2 V2
  have V2 : Arv Z h2 b1 k1 .byte (1 : Int32) [(.int (nar .byte v3))] (.int (0 : Int32)) := V2
  have N2 := Fr.snoc X2 N0 g_b1
  have K2 : Keep h0 h2 [] := K1.wr W2 (Or.inr sz_b1)
  rw [(own_isbE hv3)] at V2
  refine own_retA X2 hx (fun _ _ _ _ q => q) hlk rfl hret rfl rfl (hb hby d52_8) (by decide) (by decide) ?_
  rw [e2]
  refine ⟨b1, k1, rfl, N2, K2, sz_b1, ?_⟩
  have q := V2
  rw [hv3] at q
  exact q
theorem d53_0 : decode jdk_42_method_151_code 0 = .ok (.aload_n 0, 1) := by decide +kernel
theorem d53_1 : decode jdk_42_method_151_code 1 = .ok (.invokespecial 1, 3) := by decide +kernel
theorem d53_4 : decode jdk_42_method_151_code 4 = .ok (.aload_n 0, 1) := by decide +kernel
theorem d53_5 : decode jdk_42_method_151_code 5 = .ok (.aload_n 1, 1) := by decide +kernel
theorem d53_6 : decode jdk_42_method_151_code 6 = .ok (.putfield 9, 3) := by decide +kernel
theorem d53_9 : decode jdk_42_method_151_code 9 = .ok (.aload_n 0, 1) := by decide +kernel
theorem d53_10 : decode jdk_42_method_151_code 10 = .ok (.iload_n 2, 1) := by decide +kernel
theorem d53_11 : decode jdk_42_method_151_code 11 = .ok (.putfield 15, 3) := by decide +kernel
theorem d53_14 : decode jdk_42_method_151_code 14 = .ok (.return_, 1) := by decide +kernel
theorem pn_53 : plainFor (⟨"java/lang/String", "<init>", "([BB)V"⟩ : MethodName) = true := plainFor_of_name (by first | (simp [plainName, overriddenIn]; done) | decide +kernel)
theorem ef_con_bb (m : MethodId) (a : Addr) (b : Addr) : entryFrame m #[(.ref a), (.ref b), (.int (0 : Int32))] 3 = mkF m 0 #[.val (.ref a), .val (.ref b), .val (.int (0 : Int32))] [] := by first | (simp [entryFrame, mkF, argsToLocals, Value.category]; done) | rfl
set_option maxRecDepth 65536 in
set_option maxHeartbeats 4000000 in
theorem con_bb (l : Launch) (Z : State) (a0 : Array Value) (hw : ∀ d ∈ tables_1, d.before a0 Z = true) (a : Addr) (b : Addr) (h0 : Heap) (n0 : Nat) (Z0 : n0 ≤ h0.size) (v0 : Value) (c0 : Value) (hE : Exa Z h0 a "java/lang/String") (hC : Fld Z h0 a "java/lang/String" "coder" "B" c0) (hV : Fld Z h0 a "java/lang/String" "value" "[B" v0) (g_a : n0 ≤ a) :
    own_Con l Z (⟨"java/lang/String", "<init>", "([BB)V"⟩ : MethodName) jdk_42_method_151_code 3 none ({ frames := 1, cells := 0, slots := 0, locals := 12 } : Room) #[(.ref a), (.ref b), (.int (0 : Int32))] h0 (fun v h L => v = none ∧ Fr n0 L ∧ Keep h0 h [a] ∧ Exa Z h a "java/lang/String" ∧ Fld Z h a "java/lang/String" "coder" "B" (.int (0 : Int32)) ∧ Fld Z h a "java/lang/String" "value" "[B" (.ref b)) := by
  refine own_Con_of pn_53 ?_
  intro p e s m below meth c s₁ X0 hx hby hml hret hlk hnm hown hZ e0
  have hown : s.vm.findClass "java/lang/String" = some m.cls := hown
  have hml : c.maxLocals = 3 := hml
  have N0 := Fr.nil n0
  show own_WP _ _ _ _ _ _ _ (s₁.setTop (entryFrame m #[(.ref a), (.ref b), (.int (0 : Int32))] 3))
  rw [ef_con_bb m a b]
  refine own_aloadN (pc' := 1) X0 hx (hb hby d53_0) rfl rfl rfl ?_
  refine own_initO (pc' := 4) (W := 0) X0 hx hZ hown (own_w hw 11 rfl) (own_w hw 12 rfl) (own_w hw 13 rfl) e0 (by rw [hml]; rfl) (hb hby d53_1) (by decide) (Nat.le_of_eq rfl) (by decide) rfl ?_
  intro T1 X1 e1
  refine own_aloadN (pc' := 5) X1 hx (hb hby d53_4) rfl rfl rfl ?_
  refine own_aloadN (pc' := 6) X1 hx (hb hby d53_5) rfl rfl rfl ?_
  refine own_putF (pc' := 9) X1 hx hZ hown (host := "") (Or.inl (own_w hw 20 rfl)) Via.refl e1 hV hE (Or.inr ⟨(own_w hw 16 rfl), rfl, hnm⟩) (own_w hw 1 rfl) (ty := (.array .byte)) (by decide +kernel) rfl rfl (hb hby d53_6) rfl ?_
  intro T2 h2 X2 e2 W2
  have Fw2 := hV.same W2
  have N2 := Fr.snoc X2 N0 g_a
  have K2 : Keep h0 h2 [a] := (Keep.refl h0 [a]).wr W2 (Or.inl (List.mem_of_getElem? (i := 0) rfl))
  refine own_aloadN (pc' := 10) X2 hx (hb hby d53_9) rfl rfl rfl ?_
  refine own_iloadN (pc' := 11) X2 hx (hb hby d53_10) rfl rfl ?_
  have f3 := (hC.other W2 (Or.inr (slot_ne (Or.inr (own_w hw 17 rfl)) (Or.inr (own_w hw 16 rfl)) (by decide) (t := .byte) (t' := (.array .byte)) (by decide +kernel) (by decide +kernel))))
  have f4 := (hE.wr W2)
  refine own_putF (pc' := 14) X2 hx hZ hown (host := "") (Or.inl (own_w hw 21 rfl)) Via.refl e2 f3 f4 (Or.inr ⟨(own_w hw 17 rfl), rfl, hnm⟩) (own_w hw 1 rfl) (ty := .byte) (by decide) rfl rfl (hb hby d53_11) rfl ?_
  intro T5 h5 X5 e5 W5
  have Fw5 := f3.same W5
  have N5 := Fr.snoc X5 N2 g_a
  have K5 : Keep h0 h5 [a] := K2.wr W5 (Or.inl (List.mem_of_getElem? (i := 0) rfl))
  have f6 := (f4.wr W5)
  have f7 := (Fw2.other W5 (Or.inr (slot_ne (Or.inr (own_w hw 16 rfl)) (Or.inr (own_w hw 17 rfl)) (by decide) (t := (.array .byte)) (t' := .byte) (by decide +kernel) (by decide +kernel))))
  refine own_ret0 X5 hx (fun _ _ _ _ q => q) hlk hret (hb hby d53_14) (by decide) (by decide) ?_
  rw [e5]
  exact ⟨rfl, N5, K5, f6, Fw5, f7⟩
theorem d50_0 : decode jdk_42_method_139_code 0 = .ok (.getstatic 38, 3) := by decide +kernel
theorem d50_3 : decode jdk_42_method_139_code 3 = .ok (.ifCond .eq 23, 3) := by decide +kernel
theorem d50_6 : decode jdk_42_method_139_code 6 = .ok (.iload_n 0, 1) := by decide +kernel
theorem d50_7 : decode jdk_42_method_139_code 7 = .ok (.invokestatic 1015, 3) := by decide +kernel
theorem d50_10 : decode jdk_42_method_139_code 10 = .ok (.ifCond .eq 16, 3) := by decide +kernel
theorem d50_13 : decode jdk_42_method_139_code 13 = .ok (.new 10, 3) := by decide +kernel
theorem d50_16 : decode jdk_42_method_139_code 16 = .ok (.dup, 1) := by decide +kernel
theorem d50_17 : decode jdk_42_method_139_code 17 = .ok (.iload_n 0, 1) := by decide +kernel
theorem d50_18 : decode jdk_42_method_139_code 18 = .ok (.invokestatic 1018, 3) := by decide +kernel
theorem d50_21 : decode jdk_42_method_139_code 21 = .ok (.iconst 0, 1) := by decide +kernel
theorem d50_22 : decode jdk_42_method_139_code 22 = .ok (.invokespecial 209, 3) := by decide +kernel
theorem d50_25 : decode jdk_42_method_139_code 25 = .ok (.areturn, 1) := by decide +kernel
theorem pn_50 : plainFor (⟨"java/lang/String", "valueOf", "(C)Ljava/lang/String;"⟩ : MethodName) = true := plainFor_of_name (by first | (simp [plainName, overriddenIn]; done) | decide +kernel)
theorem ef_con_vo (m : MethodId) (c1 : Int32) : entryFrame m #[(.int c1)] 1 = mkF m 0 #[.val (.int c1)] [] := by first | (simp [entryFrame, mkF, argsToLocals, Value.category]; done) | rfl
theorem pd5 : parseMethodDescriptor "(C)Z" = some ⟨[.char], some .boolean⟩ := by decide +kernel
theorem pd6 : parseMethodDescriptor "(C)[B" = some ⟨[.char], some (.array .byte)⟩ := by decide +kernel
theorem pd7 : parseMethodDescriptor "([BB)V" = some ⟨[(.array .byte), .byte], none⟩ := by decide +kernel
set_option maxRecDepth 65536 in
set_option maxHeartbeats 4000000 in
theorem con_vo (l : Launch) (Z : State) (a0 : Array Value) (hw : ∀ d ∈ tables_1, d.before a0 Z = true) (c1 : Int32) (h0 : Heap) (n0 : Nat) (Z0 : n0 ≤ h0.size) (G1 : Int32) (fm : Value) (hG : own_G Z G1 fm) (X00 : own_Old Z n0 h0) (hc : ¬ (255 : Int32) < c1) :
    own_Con l Z (⟨"java/lang/String", "valueOf", "(C)Ljava/lang/String;"⟩ : MethodName) jdk_42_method_139_code 1 (some (.object "java/lang/String")) ({ frames := 2, cells := 2, slots := 5, locals := 29 } : Room) #[(.int c1)] h0 (fun v h L => ∃ (a b : Addr) (kb : ClassId), v = some (.ref a) ∧ Fr n0 L ∧ Keep h0 h [] ∧ h0.size ≤ a ∧ h0.size ≤ b ∧ Exa Z h a "java/lang/String" ∧ Fld Z h a "java/lang/String" "coder" "B" (.int (0 : Int32)) ∧ Fld Z h a "java/lang/String" "value" "[B" (.ref b) ∧ Arv Z h b kb .byte (1 : Int32) [.int (own_by c1)] (.int (0 : Int32))) := by
  refine own_Con_of pn_50 ?_
  intro p e s m below meth c s₁ X0 hx hby hml hret hlk hnm hown hZ e0
  have hown : s.vm.findClass "java/lang/String" = some m.cls := hown
  have hml : c.maxLocals = 1 := hml
  have N0 := Fr.nil n0
  show own_WP _ _ _ _ _ _ _ (s₁.setTop (entryFrame m #[(.int c1)] 1))
  rw [ef_con_vo m c1]
  refine own_getS (pc' := 3) X0 hx hZ hown (host := "") (Or.inl (own_w hw 82 rfl)) Via.refl e0 (hG.1.ext X00.x) (hb hby d50_0) rfl ?_
  intro T1 X1 e1
  refine own_if_eq (pt := 26) (pf := 6) X1 hx (hb hby d50_3) rfl (by decide) rfl (fun hc3 => absurd hc3 (hG.2.1)) (fun hc3 => ?_)
  refine own_iloadN (pc' := 7) X1 hx (hb hby d50_6) rfl rfl ?_
  refine own_callS (pc' := 10) (W := 0) (y := (⟨"java/lang/StringLatin1", "canEncode", "(C)Z"⟩ : MethodName)) X1 hx hZ hown (own_w hw 296 rfl) (own_w hw 297 rfl) (own_w hw 231 rfl) (own_w hw 298 rfl) (by decide) (con_can l Z a0 hw c1 _ n0 Z0 hc) e1 pd5 [(.int c1)] [] rfl rfl rfl (Nat.le_of_eq rfl) (by decide) (by decide) (by rw [hml]; rfl) (hb hby d50_7) (by decide) (by decide) rfl ?_
  intro v2 T2 L2 X2 q2
  obtain ⟨r2, rfl, hr2, rfl, e2⟩ := q2
  have M2 := Fr.nil n0
  have N2 := Fr.app N0 M2
  show own_WP _ _ _ _ _ _ _ (T2.setTop (mkF m 10 #[.val (.int c1)] [(.int r2)]))
  refine own_if_eq (pt := 26) (pf := 13) X2 hx (hb hby d50_10) rfl (by decide) rfl (fun hc10 => absurd hc10 (by rw [hr2]; decide)) (fun hc10 => ?_)
  refine own_new (pc' := 16) X2 hx hZ hown (own_w hw 257 rfl) (own_w hw 1 rfl) (own_w hw 2 rfl) e2 (hb hby d50_13) (by decide) (by decide) rfl ?_
  intro T3 h3 b3 g3 X3 e3 E3 A3 D3
  have g_b3 : n0 ≤ b3 := Nat.le_trans Z0 (Nat.le_of_eq g3.symm)
  have sz_b3 : h0.size ≤ b3 := Nat.le_trans (Keep.refl h0 []).1 (Nat.le_of_eq g3.symm)
  have z3 : n0 ≤ h3.size := Nat.le_trans Z0 E3.1
  have K3 : Keep h0 h3 [] := (Keep.refl h0 []).ext E3
  have F3_value : Fld Z h3 b3 "java/lang/String" "value" "[B" .null := D3 (Or.inr (own_w hw 16 rfl)) (ty := (.array .byte)) (by decide +kernel)
  have F3_coder : Fld Z h3 b3 "java/lang/String" "coder" "B" (.int (0 : Int32)) := D3 (Or.inr (own_w hw 17 rfl)) (ty := .byte) (by decide)
  refine own_dup (pc' := 17) X3 hx (hb hby d50_16) rfl rfl ?_
  refine own_iloadN (pc' := 18) X3 hx (hb hby d50_17) rfl rfl ?_
  refine own_callS (pc' := 21) (W := 2) (y := (⟨"java/lang/StringLatin1", "toBytes", "(C)[B"⟩ : MethodName)) X3 hx hZ hown (own_w hw 299 rfl) (own_w hw 300 rfl) (own_w hw 231 rfl) (own_w hw 301 rfl) (by decide) (con_tb l Z a0 hw c1 _ n0 z3) e3 pd6 [(.int c1)] [(.ref b3), (.ref b3)] rfl rfl rfl (Nat.le_of_eq rfl) (by decide) (by decide) (by rw [hml]; rfl) (hb hby d50_18) (by decide) (by decide) rfl ?_
  intro v4 T4 L4 X4 q4
  obtain ⟨c4, k4, rfl, M4, K4, s4, V4⟩ := q4
  have ne_b3_c4 : b3 ≠ c4 := Nat.ne_of_lt (Nat.lt_of_lt_of_le A3.lt s4)
  have ne_c4_b3 := ne_b3_c4.symm
  have sz_c4 : h0.size ≤ c4 := Nat.le_trans K3.1 s4
  obtain ⟨h4, e4⟩ : ∃ z, z = T4.heap := ⟨_, rfl⟩
  rw [← e4] at K4 V4
  have e4 := e4.symm
  have z4 : n0 ≤ h4.size := Nat.le_trans z3 K4.1
  have KK4 : Keep h0 h4 [] := K3.trans K4 all0
  have N4 := Fr.app N2 M4
  show own_WP _ _ _ _ _ _ _ (T4.setTop (mkF m 21 #[.val (.int c1)] [(.ref c4), (.ref b3), (.ref b3)]))
  refine own_iconst (pc' := 22) X4 hx (0 : Int32) (hb hby d50_21) rfl rfl ?_
  have f6 := (A3.keep K4)
  have f7 := (F3_coder.keep K4 nin0)
  have f8 := (F3_value.keep K4 nin0)
  refine own_callN (pc' := 25) (W := 1) (y := (⟨"java/lang/String", "<init>", "([BB)V"⟩ : MethodName)) X4 hx hZ rfl hown (own_w hw 302 rfl) (own_w hw 303 rfl) (own_w hw 2 rfl) (own_w hw 304 rfl) (by decide) (con_bb l Z a0 hw b3 c4 _ n0 z4 _ _ f6 f7 f8 g_b3) e4 pd7 b3 [(.ref c4), (.int (0 : Int32))] [(.ref b3)] rfl rfl rfl (Nat.le_of_eq rfl) (by decide) (by decide) (by rw [hml]; rfl) (hb hby d50_22) (by decide) (by decide) rfl ?_
  intro v5 T5 L5 X5 q5
  obtain ⟨rfl, M5, K5, E5q, F5a, F5b⟩ := q5
  obtain ⟨h5, e5⟩ : ∃ z, z = T5.heap := ⟨_, rfl⟩
  rw [← e5] at K5 E5q F5a F5b
  have e5 := e5.symm
  have KK5 : Keep h0 h5 [] := KK4.trans K5 (allS (P := fun x => x ∈ [] ∨ h0.size ≤ x) (Or.inr sz_b3) all0)
  have N5 := Fr.app N4 M5
  show own_WP _ _ _ _ _ _ _ (T5.setTop (mkF m 25 #[.val (.int c1)] [(.ref b3)]))
  have f9 := (V4.keep K5 (ninS ne_c4_b3 nin0))
  refine own_retA X5 hx (fun _ _ _ _ q => q) hlk rfl hret rfl rfl (hb hby d50_25) (by decide) (by decide) ?_
  rw [e5]
  exact ⟨b3, c4, k4, rfl, N5, KK5, sz_b3, sz_c4, E5q, F5a, F5b, f9⟩
theorem d16_0 : decode jdk_29_method_65_code 0 = .ok (.iload_n 0, 1) := by decide +kernel
theorem d16_1 : decode jdk_29_method_65_code 1 = .ok (.iload_n 1, 1) := by decide +kernel
theorem d16_2 : decode jdk_29_method_65_code 2 = .ok (.if_icmp .lt 7, 3) := by decide +kernel
theorem d16_5 : decode jdk_29_method_65_code 5 = .ok (.iload_n 0, 1) := by decide +kernel
theorem d16_6 : decode jdk_29_method_65_code 6 = .ok (.goto 4, 3) := by decide +kernel
theorem d16_9 : decode jdk_29_method_65_code 9 = .ok (.iload_n 1, 1) := by decide +kernel
theorem d16_10 : decode jdk_29_method_65_code 10 = .ok (.ireturn, 1) := by decide +kernel
theorem pn_16 : plainFor (⟨"java/lang/Math", "max", "(II)I"⟩ : MethodName) = true := Jvm.Free.JP.mathPlain rfl (by decide +kernel)
theorem ef_con_max (m : MethodId) (c1 : Int32) (c2 : Int32) : entryFrame m #[(.int c1), (.int c2)] 2 = mkF m 0 #[.val (.int c1), .val (.int c2)] [] := by first | (simp [entryFrame, mkF, argsToLocals, Value.category]; done) | rfl
set_option maxRecDepth 65536 in
set_option maxHeartbeats 4000000 in
theorem con_max (l : Launch) (Z : State) (a0 : Array Value) (hw : ∀ d ∈ tables_1, d.before a0 Z = true) (c1 : Int32) (c2 : Int32) (h0 : Heap) :
    own_Con l Z (⟨"java/lang/Math", "max", "(II)I"⟩ : MethodName) jdk_29_method_65_code 2 (some .int) ({ frames := 0, cells := 0, slots := 0, locals := 0 } : Room) #[(.int c1), (.int c2)] h0 (fun v h L => ∃ z : Int32, v = some (.int z) ∧ (z = if c1 < c2 then c2 else c1) ∧ L = [] ∧ h = h0) := by
  refine own_Con_of pn_16 ?_
  intro p e s m below meth c s₁ X0 hx hby hml hret hlk hnm hown hZ e0
  have hown : s.vm.findClass "java/lang/Math" = some m.cls := hown
  have hml : c.maxLocals = 2 := hml
  show own_WP _ _ _ _ _ _ _ (s₁.setTop (entryFrame m #[(.int c1), (.int c2)] 2))
  rw [ef_con_max m c1 c2]
  refine own_iloadN (pc' := 1) X0 hx (hb hby d16_0) rfl rfl ?_
  refine own_iloadN (pc' := 2) X0 hx (hb hby d16_1) rfl rfl ?_
  refine own_icmp_lt (pt := 9) (pf := 5) X0 hx (hb hby d16_2) rfl (by decide) rfl (fun hc2 => ?_) (fun hc2 => ?_)
  · skip
    refine own_iloadN (pc' := 10) X0 hx (hb hby d16_9) rfl rfl ?_
    refine own_retI X0 hx (fun _ _ _ _ q => q) hlk hret (hb hby d16_10) (by decide) (by decide) ?_
    exact ⟨c2, rfl, by simp [hc2], rfl, e0⟩
  · skip
    refine own_iloadN (pc' := 6) X0 hx (hb hby d16_5) rfl rfl ?_
    refine own_goto (pc' := 10) X0 hx (hb hby d16_6) (by decide) rfl ?_
    refine own_retI X0 hx (fun _ _ _ _ q => q) hlk hret (hb hby d16_10) (by decide) (by decide) ?_
    exact ⟨c1, rfl, by simp [hc2], rfl, e0⟩
theorem d18_0 : decode jdk_29_method_69_code 0 = .ok (.iload_n 0, 1) := by decide +kernel
theorem d18_1 : decode jdk_29_method_69_code 1 = .ok (.iload_n 1, 1) := by decide +kernel
theorem d18_2 : decode jdk_29_method_69_code 2 = .ok (.if_icmp .gt 7, 3) := by decide +kernel
theorem d18_5 : decode jdk_29_method_69_code 5 = .ok (.iload_n 0, 1) := by decide +kernel
theorem d18_6 : decode jdk_29_method_69_code 6 = .ok (.goto 4, 3) := by decide +kernel
theorem d18_9 : decode jdk_29_method_69_code 9 = .ok (.iload_n 1, 1) := by decide +kernel
theorem d18_10 : decode jdk_29_method_69_code 10 = .ok (.ireturn, 1) := by decide +kernel
theorem pn_18 : plainFor (⟨"java/lang/Math", "min", "(II)I"⟩ : MethodName) = true := Jvm.Free.JP.mathPlain rfl (by decide +kernel)
theorem ef_con_min (m : MethodId) (c1 : Int32) (c2 : Int32) : entryFrame m #[(.int c1), (.int c2)] 2 = mkF m 0 #[.val (.int c1), .val (.int c2)] [] := by first | (simp [entryFrame, mkF, argsToLocals, Value.category]; done) | rfl
set_option maxRecDepth 65536 in
set_option maxHeartbeats 4000000 in
theorem con_min (l : Launch) (Z : State) (a0 : Array Value) (hw : ∀ d ∈ tables_1, d.before a0 Z = true) (c1 : Int32) (c2 : Int32) (h0 : Heap) :
    own_Con l Z (⟨"java/lang/Math", "min", "(II)I"⟩ : MethodName) jdk_29_method_69_code 2 (some .int) ({ frames := 0, cells := 0, slots := 0, locals := 0 } : Room) #[(.int c1), (.int c2)] h0 (fun v h L => ∃ z : Int32, v = some (.int z) ∧ (z = if c2 < c1 then c2 else c1) ∧ L = [] ∧ h = h0) := by
  refine own_Con_of pn_18 ?_
  intro p e s m below meth c s₁ X0 hx hby hml hret hlk hnm hown hZ e0
  have hown : s.vm.findClass "java/lang/Math" = some m.cls := hown
  have hml : c.maxLocals = 2 := hml
  show own_WP _ _ _ _ _ _ _ (s₁.setTop (entryFrame m #[(.int c1), (.int c2)] 2))
  rw [ef_con_min m c1 c2]
  refine own_iloadN (pc' := 1) X0 hx (hb hby d18_0) rfl rfl ?_
  refine own_iloadN (pc' := 2) X0 hx (hb hby d18_1) rfl rfl ?_
  refine own_icmp_gt (pt := 9) (pf := 5) X0 hx (hb hby d18_2) rfl (by decide) rfl (fun hc2 => ?_) (fun hc2 => ?_)
  · skip
    refine own_iloadN (pc' := 10) X0 hx (hb hby d18_9) rfl rfl ?_
    refine own_retI X0 hx (fun _ _ _ _ q => q) hlk hret (hb hby d18_10) (by decide) (by decide) ?_
    exact ⟨c2, rfl, by simp [hc2], rfl, e0⟩
  · skip
    refine own_iloadN (pc' := 6) X0 hx (hb hby d18_5) rfl rfl ?_
    refine own_goto (pc' := 10) X0 hx (hb hby d18_6) (by decide) rfl ?_
    refine own_retI X0 hx (fun _ _ _ _ q => q) hlk hret (hb hby d18_10) (by decide) (by decide) ?_
    exact ⟨c1, rfl, by simp [hc2], rfl, e0⟩
theorem d15_0 : decode jdk_48_method_27_code 0 = .ok (.iload_n 0, 1) := by decide +kernel
theorem d15_1 : decode jdk_48_method_27_code 1 = .ok (.iload_n 1, 1) := by decide +kernel
theorem d15_2 : decode jdk_48_method_27_code 2 = .ok (.iload_n 2, 1) := by decide +kernel
theorem d15_3 : decode jdk_48_method_27_code 3 = .ok (.invokestatic 194, 3) := by decide +kernel
theorem d15_6 : decode jdk_48_method_27_code 6 = .ok (.iadd, 1) := by decide +kernel
theorem d15_7 : decode jdk_48_method_27_code 7 = .ok (.istore_n 3, 1) := by decide +kernel
theorem d15_8 : decode jdk_48_method_27_code 8 = .ok (.iconst 0, 1) := by decide +kernel
theorem d15_9 : decode jdk_48_method_27_code 9 = .ok (.iload_n 3, 1) := by decide +kernel
theorem d15_10 : decode jdk_48_method_27_code 10 = .ok (.if_icmp .ge 11, 3) := by decide +kernel
theorem d15_13 : decode jdk_48_method_27_code 13 = .ok (.iload_n 3, 1) := by decide +kernel
theorem d15_14 : decode jdk_48_method_27_code 14 = .ok (.ldc 200, 2) := by decide +kernel
theorem d15_16 : decode jdk_48_method_27_code 16 = .ok (.if_icmp .gt 5, 3) := by decide +kernel
theorem d15_19 : decode jdk_48_method_27_code 19 = .ok (.iload_n 3, 1) := by decide +kernel
theorem d15_20 : decode jdk_48_method_27_code 20 = .ok (.ireturn, 1) := by decide +kernel
theorem pn_15 : plainFor (⟨"jdk/internal/util/ArraysSupport", "newLength", "(III)I"⟩ : MethodName) = true := plainFor_of_name (by first | (simp [plainName, overriddenIn]; done) | decide +kernel)
theorem ef_con_nl (m : MethodId) (c1 : Int32) (c2 : Int32) (c3 : Int32) : entryFrame m #[(.int c1), (.int c2), (.int c3)] 4 = mkF m 0 #[.val (.int c1), .val (.int c2), .val (.int c3), .unset] [] := by first | (simp [entryFrame, mkF, argsToLocals, Value.category]; done) | rfl
theorem pd8 : parseMethodDescriptor "(II)I" = some ⟨[.int, .int], some .int⟩ := by decide +kernel
set_option maxRecDepth 65536 in
set_option maxHeartbeats 4000000 in
theorem con_nl (l : Launch) (Z : State) (a0 : Array Value) (hw : ∀ d ∈ tables_1, d.before a0 Z = true) (c1 : Int32) (c2 : Int32) (c3 : Int32) (h0 : Heap) (hb1 : 0 ≤ c1.toInt ∧ c1.toInt ≤ 10000) (hb2 : 1 ≤ c2.toInt ∧ c2.toInt ≤ 10000) (hb3 : 0 ≤ c3.toInt ∧ c3.toInt ≤ 20000) :
    own_Con l Z (⟨"jdk/internal/util/ArraysSupport", "newLength", "(III)I"⟩ : MethodName) jdk_48_method_27_code 4 (some .int) ({ frames := 1, cells := 0, slots := 0, locals := 14 } : Room) #[(.int c1), (.int c2), (.int c3)] h0 (fun v h L => ∃ z : Int32, v = some (.int z) ∧ (z.toInt = c1.toInt + max c2.toInt c3.toInt) ∧ L = [] ∧ h = h0) := by
  refine own_Con_of pn_15 ?_
  intro p e s m below meth c s₁ X0 hx hby hml hret hlk hnm hown hZ e0
  have hown : s.vm.findClass "jdk/internal/util/ArraysSupport" = some m.cls := hown
  have hml : c.maxLocals = 4 := hml
  show own_WP _ _ _ _ _ _ _ (s₁.setTop (entryFrame m #[(.int c1), (.int c2), (.int c3)] 4))
  rw [ef_con_nl m c1 c2 c3]
  refine own_iloadN (pc' := 1) X0 hx (hb hby d15_0) rfl rfl ?_
  refine own_iloadN (pc' := 2) X0 hx (hb hby d15_1) rfl rfl ?_
  refine own_iloadN (pc' := 3) X0 hx (hb hby d15_2) rfl rfl ?_
  refine own_callS (pc' := 6) (W := 1) (y := (⟨"java/lang/Math", "max", "(II)I"⟩ : MethodName)) X0 hx hZ hown (own_w hw 99 rfl) (own_w hw 100 rfl) (own_w hw 101 rfl) (own_w hw 102 rfl) (by decide) (con_max l Z a0 hw c2 c3 _ ) e0 pd8 [(.int c2), (.int c3)] [(.int c1)] rfl rfl rfl (Nat.le_of_eq rfl) (by decide) (by decide) (by rw [hml]; rfl) (hb hby d15_3) (by decide) (by decide) rfl ?_
  intro v1 T1 L1 X1 q1
  obtain ⟨r1, rfl, hr1, rfl, e1⟩ := q1
  show own_WP _ _ _ _ _ _ _ (T1.setTop (mkF m 6 #[.val (.int c1), .val (.int c2), .val (.int c3), .unset] [(.int r1), (.int c1)]))
  have hm := own_mx hr1
  refine own_iadd (pc' := 7) X1 hx (hb hby d15_6) rfl ?_
  obtain ⟨v2, hv2⟩ : ∃ z : Int32, z = (c1 + r1) := ⟨_, rfl⟩
  refine own_istoreN (pc' := 8) (l' := #[.val (.int c1), .val (.int c2), .val (.int c3), .val (.int v2)]) X1 hx (hb hby d15_7) hv2 rfl rfl ?_
  have hz : v2.toInt = c1.toInt + max c2.toInt c3.toInt := by rw [own_add hv2 (by omega) (by omega)]; omega
  have hp : (0 : Int32) < v2 := by rw [Int32.lt_iff_toInt_lt]; show (0 : Int) < _; omega
  have hq : ¬ (2147483639 : Int32) < v2 := by rw [Int32.lt_iff_toInt_lt]; show ¬ (2147483639 : Int) < _; omega
  refine own_iconst (pc' := 9) X1 hx (0 : Int32) (hb hby d15_8) rfl rfl ?_
  refine own_iloadN (pc' := 10) X1 hx (hb hby d15_9) rfl rfl ?_
  refine own_icmp_ge (pt := 21) (pf := 13) X1 hx (hb hby d15_10) rfl (by decide) rfl (fun hc10 => absurd (hp) hc10) (fun hc10 => ?_)
  refine own_iloadN (pc' := 14) X1 hx (hb hby d15_13) rfl rfl ?_
  refine own_ldcInt (pc' := 16) X1 hx hZ hown (own_w hw 103 rfl) (hb hby d15_14) rfl ?_
  refine own_icmp_gt (pt := 21) (pf := 19) X1 hx (hb hby d15_16) rfl (by decide) rfl (fun hc16 => absurd hc16 (hq)) (fun hc16 => ?_)
  refine own_iloadN (pc' := 20) X1 hx (hb hby d15_19) rfl rfl ?_
  refine own_retI X1 hx (fun _ _ _ _ q => q) hlk hret (hb hby d15_20) (by decide) (by decide) ?_
  exact ⟨v2, rfl, hz, rfl, e1⟩
theorem d14_0 : decode jdk_68_method_10_code 0 = .ok (.aload_n 0, 1) := by decide +kernel
theorem d14_1 : decode jdk_68_method_10_code 1 = .ok (.getfield 15, 3) := by decide +kernel
theorem d14_4 : decode jdk_68_method_10_code 4 = .ok (.arraylength, 1) := by decide +kernel
theorem d14_5 : decode jdk_68_method_10_code 5 = .ok (.istore_n 2, 1) := by decide +kernel
theorem d14_6 : decode jdk_68_method_10_code 6 = .ok (.iload_n 1, 1) := by decide +kernel
theorem d14_7 : decode jdk_68_method_10_code 7 = .ok (.aload_n 0, 1) := by decide +kernel
theorem d14_8 : decode jdk_68_method_10_code 8 = .ok (.getfield 22, 3) := by decide +kernel
theorem d14_11 : decode jdk_68_method_10_code 11 = .ok (.ishl, 1) := by decide +kernel
theorem d14_12 : decode jdk_68_method_10_code 12 = .ok (.istore_n 3, 1) := by decide +kernel
theorem d14_13 : decode jdk_68_method_10_code 13 = .ok (.iload_n 3, 1) := by decide +kernel
theorem d14_14 : decode jdk_68_method_10_code 14 = .ok (.iload_n 2, 1) := by decide +kernel
theorem d14_15 : decode jdk_68_method_10_code 15 = .ok (.isub, 1) := by decide +kernel
theorem d14_16 : decode jdk_68_method_10_code 16 = .ok (.istore 4, 2) := by decide +kernel
theorem d14_18 : decode jdk_68_method_10_code 18 = .ok (.iload_n 2, 1) := by decide +kernel
theorem d14_19 : decode jdk_68_method_10_code 19 = .ok (.iload 4, 2) := by decide +kernel
theorem d14_21 : decode jdk_68_method_10_code 21 = .ok (.iload_n 2, 1) := by decide +kernel
theorem d14_22 : decode jdk_68_method_10_code 22 = .ok (.iconst 2, 1) := by decide +kernel
theorem d14_23 : decode jdk_68_method_10_code 23 = .ok (.aload_n 0, 1) := by decide +kernel
theorem d14_24 : decode jdk_68_method_10_code 24 = .ok (.getfield 22, 3) := by decide +kernel
theorem d14_27 : decode jdk_68_method_10_code 27 = .ok (.ishl, 1) := by decide +kernel
theorem d14_28 : decode jdk_68_method_10_code 28 = .ok (.iadd, 1) := by decide +kernel
theorem d14_29 : decode jdk_68_method_10_code 29 = .ok (.invokestatic 114, 3) := by decide +kernel
theorem d14_32 : decode jdk_68_method_10_code 32 = .ok (.istore 5, 2) := by decide +kernel
theorem d14_34 : decode jdk_68_method_10_code 34 = .ok (.iload 5, 2) := by decide +kernel
theorem d14_36 : decode jdk_68_method_10_code 36 = .ok (.ldc 39, 2) := by decide +kernel
theorem d14_38 : decode jdk_68_method_10_code 38 = .ok (.if_icmp .ne 13, 3) := by decide +kernel
theorem d14_51 : decode jdk_68_method_10_code 51 = .ok (.iload 5, 2) := by decide +kernel
theorem d14_53 : decode jdk_68_method_10_code 53 = .ok (.aload_n 0, 1) := by decide +kernel
theorem d14_54 : decode jdk_68_method_10_code 54 = .ok (.getfield 22, 3) := by decide +kernel
theorem d14_57 : decode jdk_68_method_10_code 57 = .ok (.ishr, 1) := by decide +kernel
theorem d14_58 : decode jdk_68_method_10_code 58 = .ok (.ireturn, 1) := by decide +kernel
theorem pn_14 : plainFor (⟨"java/lang/AbstractStringBuilder", "newCapacity", "(I)I"⟩ : MethodName) = true := plainFor_of_name (by first | (simp [plainName, overriddenIn]; done) | decide +kernel)
theorem ef_con_nc (m : MethodId) (sb : Addr) (mi : Int32) : entryFrame m #[(.ref sb), (.int mi)] 6 = mkF m 0 #[.val (.ref sb), .val (.int mi), .unset, .unset, .unset, .unset] [] := by first | (simp [entryFrame, mkF, argsToLocals, Value.category]; done) | rfl
theorem pd9 : parseMethodDescriptor "(III)I" = some ⟨[.int, .int, .int], some .int⟩ := by decide +kernel
set_option maxRecDepth 65536 in
set_option maxHeartbeats 4000000 in
theorem con_nc (l : Launch) (Z : State) (a0 : Array Value) (hw : ∀ d ∈ tables_1, d.before a0 Z = true) (sb : Addr) (mi : Int32) (h0 : Heap) (n0 : Nat) (Z0 : n0 ≤ h0.size) (d : Addr) (kd : ClassId) (cap cnt : Int32) (vs : List Value) (bE : Exa Z h0 sb "java/lang/StringBuilder") (bV : Fld Z h0 sb "java/lang/AbstractStringBuilder" "value" "[B" (.ref d)) (bC : Fld Z h0 sb "java/lang/AbstractStringBuilder" "coder" "B" (.int (0 : Int32))) (bN : Fld Z h0 sb "java/lang/AbstractStringBuilder" "count" "I" (.int cnt)) (bA : Arv Z h0 d kd .byte cap vs (.int (0 : Int32))) (hB : own_BA Z kd) (hcap : 0 ≤ cap.toInt ∧ cap.toInt ≤ 1000) (hmi : cap.toInt < mi.toInt ∧ mi.toInt ≤ 1000) :
    own_Con l Z (⟨"java/lang/AbstractStringBuilder", "newCapacity", "(I)I"⟩ : MethodName) jdk_68_method_10_code 6 (some .int) ({ frames := 2, cells := 0, slots := 0, locals := 31 } : Room) #[(.ref sb), (.int mi)] h0 (fun v h L => ∃ z : Int32, v = some (.int z) ∧ (z.toInt = max mi.toInt (2 * cap.toInt + 2)) ∧ L = [] ∧ h = h0) := by
  refine own_Con_of pn_14 ?_
  intro p e s m below meth c s₁ X0 hx hby hml hret hlk hnm hown hZ e0
  have hown : s.vm.findClass "java/lang/AbstractStringBuilder" = some m.cls := hown
  have hml : c.maxLocals = 6 := hml
  show own_WP _ _ _ _ _ _ _ (s₁.setTop (entryFrame m #[(.ref sb), (.int mi)] 6))
  rw [ef_con_nc m sb mi]
  refine own_aloadN (pc' := 1) X0 hx (hb hby d14_0) rfl rfl rfl ?_
  refine own_getF (pc' := 4) X0 hx hZ hown (host := "") (Or.inl (own_w hw 57 rfl)) Via.refl e0 bV (hb hby d14_1) rfl ?_
  intro T1 X1 e1
  refine own_arrlen (pc' := 5) X1 hx hZ e1 bA (hb hby d14_4) rfl ?_
  refine own_istoreN (pc' := 6) (l' := #[.val (.ref sb), .val (.int mi), .val (.int cap), .unset, .unset, .unset]) X1 hx (hb hby d14_5) rfl rfl rfl ?_
  refine own_iloadN (pc' := 7) X1 hx (hb hby d14_6) rfl rfl ?_
  refine own_aloadN (pc' := 8) X1 hx (hb hby d14_7) rfl rfl rfl ?_
  refine own_getF (pc' := 11) X1 hx hZ hown (host := "") (Or.inl (own_w hw 59 rfl)) Via.refl e1 bC (hb hby d14_8) rfl ?_
  intro T2 X2 e2
  refine own_ishl (pc' := 12) X2 hx (hb hby d14_11) rfl ?_
  obtain ⟨v3, hv3⟩ : ∃ z : Int32, z = (mi <<< ((0 : Int32) &&& 31)) := ⟨_, rfl⟩
  refine own_istoreN (pc' := 13) (l' := #[.val (.ref sb), .val (.int mi), .val (.int cap), .val (.int v3), .unset, .unset]) X2 hx (hb hby d14_12) hv3 rfl rfl ?_
  refine own_iloadN (pc' := 14) X2 hx (hb hby d14_13) rfl rfl ?_
  refine own_iloadN (pc' := 15) X2 hx (hb hby d14_14) rfl rfl ?_
  refine own_isub (pc' := 16) X2 hx (hb hby d14_15) rfl ?_
  obtain ⟨v4, hv4⟩ : ∃ z : Int32, z = (v3 - cap) := ⟨_, rfl⟩
  refine own_istore (pc' := 18) (l' := #[.val (.ref sb), .val (.int mi), .val (.int cap), .val (.int v3), .val (.int v4), .unset]) X2 hx (hb hby d14_16) hv4 rfl rfl ?_
  have hg4 : v4.toInt = mi.toInt - cap.toInt := by rw [own_sub (a := mi) (b := cap) (by rw [hv4, hv3, own_shl0]) (by omega) (by omega)]
  refine own_iloadN (pc' := 19) X2 hx (hb hby d14_18) rfl rfl ?_
  refine own_iload (pc' := 21) X2 hx (hb hby d14_19) rfl rfl ?_
  refine own_iloadN (pc' := 22) X2 hx (hb hby d14_21) rfl rfl ?_
  refine own_iconst (pc' := 23) X2 hx (2 : Int32) (hb hby d14_22) rfl rfl ?_
  refine own_aloadN (pc' := 24) X2 hx (hb hby d14_23) rfl rfl rfl ?_
  refine own_getF (pc' := 27) X2 hx hZ hown (host := "") (Or.inl (own_w hw 59 rfl)) Via.refl e2 bC (hb hby d14_24) rfl ?_
  intro T5 X5 e5
  refine own_ishl (pc' := 28) X5 hx (hb hby d14_27) rfl ?_
  refine own_iadd (pc' := 29) X5 hx (hb hby d14_28) rfl ?_
  have hw4 : ((cap + ((2 : Int32) <<< ((0 : Int32) &&& 31)))).toInt = cap.toInt + 2 := by rw [own_add (a := cap) (b := 2) (by rw [own_shl0]) (by omega) (by decide)]; rfl
  refine own_callS (pc' := 32) (W := 0) (y := (⟨"jdk/internal/util/ArraysSupport", "newLength", "(III)I"⟩ : MethodName)) X5 hx hZ hown (own_w hw 95 rfl) (own_w hw 96 rfl) (own_w hw 97 rfl) (own_w hw 98 rfl) (by decide) (con_nl l Z a0 hw cap v4 (cap + ((2 : Int32) <<< ((0 : Int32) &&& 31))) _ (by omega) (by omega) (by omega)) e5 pd9 [(.int cap), (.int v4), (.int (cap + ((2 : Int32) <<< ((0 : Int32) &&& 31))))] [] rfl rfl rfl (Nat.le_of_eq rfl) (by decide) (by decide) (by rw [hml]; rfl) (hb hby d14_29) (by decide) (by decide) rfl ?_
  intro v6 T6 L6 X6 q6
  obtain ⟨r6, rfl, hr6, rfl, e6⟩ := q6
  have hrr : r6.toInt = max mi.toInt (2 * cap.toInt + 2) := by rw [hr6, hg4, hw4]; omega
  show own_WP _ _ _ _ _ _ _ (T6.setTop (mkF m 32 #[.val (.ref sb), .val (.int mi), .val (.int cap), .val (.int v3), .val (.int v4), .unset] [(.int r6)]))
  refine own_istore (pc' := 34) (l' := #[.val (.ref sb), .val (.int mi), .val (.int cap), .val (.int v3), .val (.int v4), .val (.int r6)]) X6 hx (hb hby d14_32) rfl rfl rfl ?_
  refine own_iload (pc' := 36) X6 hx (hb hby d14_34) rfl rfl ?_
  refine own_ldcInt (pc' := 38) X6 hx hZ hown (own_w hw 104 rfl) (hb hby d14_36) rfl ?_
  refine own_icmp_ne (pt := 51) (pf := 41) X6 hx (hb hby d14_38) rfl (by decide) rfl (fun hc38 => ?_) (fun hc38 => absurd hc38 (by rw [← Int32.toInt_inj]; show ¬ _ = (2147483647 : Int); omega))
  refine own_iload (pc' := 53) X6 hx (hb hby d14_51) rfl rfl ?_
  refine own_aloadN (pc' := 54) X6 hx (hb hby d14_53) rfl rfl rfl ?_
  refine own_getF (pc' := 57) X6 hx hZ hown (host := "") (Or.inl (own_w hw 59 rfl)) Via.refl e6 bC (hb hby d14_54) rfl ?_
  intro T7 X7 e7
  refine own_ishr (pc' := 58) X7 hx (hb hby d14_57) rfl ?_
  refine own_retI X7 hx (fun _ _ _ _ q => q) hlk hret (hb hby d14_58) (by decide) (by decide) ?_
  exact ⟨(r6 >>> ((0 : Int32) &&& 31)), rfl, by rw [own_shr0]; exact hrr, rfl, e7⟩
theorem d17_0 : decode jdk_65_method_121_code 0 = .ok (.iload_n 1, 1) := by decide +kernel
theorem d17_1 : decode jdk_65_method_121_code 1 = .ok (.aload_n 0, 1) := by decide +kernel
theorem d17_2 : decode jdk_65_method_121_code 2 = .ok (.arraylength, 1) := by decide +kernel
theorem d17_3 : decode jdk_65_method_121_code 3 = .ok (.if_icmp .ne 11, 3) := by decide +kernel
theorem d17_14 : decode jdk_65_method_121_code 14 = .ok (.iload_n 1, 1) := by decide +kernel
theorem d17_15 : decode jdk_65_method_121_code 15 = .ok (.newarray .byte, 2) := by decide +kernel
theorem d17_17 : decode jdk_65_method_121_code 17 = .ok (.astore_n 2, 1) := by decide +kernel
theorem d17_18 : decode jdk_65_method_121_code 18 = .ok (.aload_n 0, 1) := by decide +kernel
theorem d17_19 : decode jdk_65_method_121_code 19 = .ok (.iconst 0, 1) := by decide +kernel
theorem d17_20 : decode jdk_65_method_121_code 20 = .ok (.aload_n 2, 1) := by decide +kernel
theorem d17_21 : decode jdk_65_method_121_code 21 = .ok (.iconst 0, 1) := by decide +kernel
theorem d17_22 : decode jdk_65_method_121_code 22 = .ok (.aload_n 0, 1) := by decide +kernel
theorem d17_23 : decode jdk_65_method_121_code 23 = .ok (.arraylength, 1) := by decide +kernel
theorem d17_24 : decode jdk_65_method_121_code 24 = .ok (.iload_n 1, 1) := by decide +kernel
theorem d17_25 : decode jdk_65_method_121_code 25 = .ok (.invokestatic 304, 3) := by decide +kernel
theorem d17_28 : decode jdk_65_method_121_code 28 = .ok (.invokestatic 150, 3) := by decide +kernel
theorem d17_31 : decode jdk_65_method_121_code 31 = .ok (.aload_n 2, 1) := by decide +kernel
theorem d17_32 : decode jdk_65_method_121_code 32 = .ok (.areturn, 1) := by decide +kernel
theorem pn_17 : plainFor (⟨"java/util/Arrays", "copyOf", "([BI)[B"⟩ : MethodName) = true := plainFor_of_name (by first | (simp [plainName, overriddenIn]; done) | decide +kernel)
theorem ef_con_co (m : MethodId) (b0 : Addr) (nl : Int32) : entryFrame m #[(.ref b0), (.int nl)] 3 = mkF m 0 #[.val (.ref b0), .val (.int nl), .unset] [] := by first | (simp [entryFrame, mkF, argsToLocals, Value.category]; done) | rfl
set_option maxRecDepth 65536 in
set_option maxHeartbeats 4000000 in
theorem con_co (l : Launch) (Z : State) (a0 : Array Value) (hw : ∀ d ∈ tables_1, d.before a0 Z = true) (b0 : Addr) (nl : Int32) (h0 : Heap) (n0 : Nat) (Z0 : n0 ≤ h0.size) (kb : ClassId) (zl : Int32) (vs : List Value) (hA : Arv Z h0 b0 kb .byte zl vs (.int (0 : Int32))) (hzl : 0 ≤ zl.toInt ∧ zl.toInt < nl.toInt ∧ nl.toInt ≤ 170) (hlen : vs.length = zl.toNatClampNeg) :
    own_Con l Z (⟨"java/util/Arrays", "copyOf", "([BI)[B"⟩ : MethodName) jdk_65_method_121_code 3 (some (.array .byte)) ({ frames := 1, cells := 1, slots := 170, locals := 32 } : Room) #[(.ref b0), (.int nl)] h0 (fun v h L => ∃ (b : Addr) (kb : ClassId) (us : List Value), v = some (.ref b) ∧ Fr n0 L ∧ Keep h0 h [] ∧ h0.size ≤ b ∧ Arv Z h b kb .byte nl us (.int (0 : Int32)) ∧ us.length = nl.toNatClampNeg ∧ us.take zl.toNatClampNeg = vs ∧ own_BA Z kb) := by
  refine own_Con_of pn_17 ?_
  intro p e s m below meth c s₁ X0 hx hby hml hret hlk hnm hown hZ e0
  have hown : s.vm.findClass "java/util/Arrays" = some m.cls := hown
  have hml : c.maxLocals = 3 := hml
  have N0 := Fr.nil n0
  show own_WP _ _ _ _ _ _ _ (s₁.setTop (entryFrame m #[(.ref b0), (.int nl)] 3))
  rw [ef_con_co m b0 nl]
  refine own_iloadN (pc' := 1) X0 hx (hb hby d17_0) rfl rfl ?_
  refine own_aloadN (pc' := 2) X0 hx (hb hby d17_1) rfl rfl rfl ?_
  refine own_arrlen (pc' := 3) X0 hx hZ e0 hA (hb hby d17_2) rfl ?_
  refine own_icmp_ne (pt := 14) (pf := 6) X0 hx (hb hby d17_3) rfl (by decide) rfl (fun hc3 => ?_) (fun hc3 => absurd hc3 (fun q => by rw [q] at hzl; omega))
  refine own_iloadN (pc' := 15) X0 hx (hb hby d17_14) rfl rfl ?_
  refine own_newPB (pc' := 17) (cap := 170) X0 hx hZ (own_w hw 15 rfl) e0 (hb hby d17_15) (own_nn (by omega)) (by have q := own_nat (x := nl) (by omega); omega) (by decide) (by decide) (by decide) rfl ?_
  intro T1 h1 k1 b1 g1 X1 e1 E1 A1 Bk1
  have g_b1 : n0 ≤ b1 := Nat.le_trans Z0 (Nat.le_of_eq g1.symm)
  have sz_b1 : h0.size ≤ b1 := Nat.le_trans (Keep.refl h0 []).1 (Nat.le_of_eq g1.symm)
  have K1 : Keep h0 h1 [] := (Keep.refl h0 []).ext E1
  have V1 : Arv Z h1 b1 k1 .byte nl (List.replicate nl.toNatClampNeg (.int (0 : Int32))) (.int (0 : Int32)) := (Arv.new A1 (own_nn (by omega))).pad (pad_rep [] (.int (0 : Int32)) nl.toNatClampNeg)
  refine own_astoreN (pc' := 18) (l' := #[.val (.ref b0), .val (.int nl), .val (.ref b1)]) X1 hx (hb hby d17_17) rfl rfl rfl ?_
  refine own_aloadN (pc' := 19) X1 hx (hb hby d17_18) rfl rfl rfl ?_
  refine own_iconst (pc' := 20) X1 hx (0 : Int32) (hb hby d17_19) rfl rfl ?_
  refine own_aloadN (pc' := 21) X1 hx (hb hby d17_20) rfl rfl rfl ?_
  refine own_iconst (pc' := 22) X1 hx (0 : Int32) (hb hby d17_21) rfl rfl ?_
  refine own_aloadN (pc' := 23) X1 hx (hb hby d17_22) rfl rfl rfl ?_
  have f2 := (hA.ext E1)
  refine own_arrlen (pc' := 24) X1 hx hZ e1 f2 (hb hby d17_23) rfl ?_
  refine own_iloadN (pc' := 25) X1 hx (hb hby d17_24) rfl rfl ?_
  refine own_callS (pc' := 28) (W := 4) (y := (⟨"java/lang/Math", "min", "(II)I"⟩ : MethodName)) X1 hx hZ hown (own_w hw 109 rfl) (own_w hw 110 rfl) (own_w hw 101 rfl) (own_w hw 111 rfl) (by decide) (con_min l Z a0 hw zl nl _ ) e1 pd8 [(.int zl), (.int nl)] [(.int (0 : Int32)), (.ref b1), (.int (0 : Int32)), (.ref b0)] rfl rfl rfl (Nat.le_of_eq rfl) (by decide) (by decide) (by rw [hml]; rfl) (hb hby d17_25) (by decide) (by decide) rfl ?_
  intro v3 T3 L3 X3 q3
  obtain ⟨r3, rfl, hr3, rfl, e3⟩ := q3
  have N3 := Fr.app N0 (Fr.nil n0)
  show own_WP _ _ _ _ _ _ _ (T3.setTop (mkF m 28 #[.val (.ref b0), .val (.int nl), .val (.ref b1)] [(.int r3), (.int (0 : Int32)), (.ref b1), (.int (0 : Int32)), (.ref b0)]))
  have hmn := own_mn hr3
  have er3 : zl = r3 := Int32.toInt_inj.mp (by omega)
  subst er3
  have q1 := own_nat (x := zl) (by omega)
  have q2 := own_nat (x := nl) (by omega)
  refine own_cpA (pc' := 31) (W := 0) (n0 := n0) X3 hx hZ hown (own_w hw 112 rfl) (own_w hw 115 rfl) (own_w hw 113 rfl) (own_w hw 114 rfl) e3 f2 V1 (by decide) (by decide) (own_nn (by omega)) (by show 0 + _ ≤ _; omega) (by show 0 + _ ≤ _; omega) (own_us (by show 0 + _ ≤ _; omega)) (by rw [List.length_replicate]; show 0 + _ ≤ _; omega) N3 g_b1 (by rw [hml]; rfl) (hb hby d17_28) (by decide) (Nat.le_of_eq rfl) (by decide) rfl ?_
  intro T4 h4 L4 X4 e4 N4 K4 V4
  have KK4 : Keep h0 h4 [] := K1.trans K4 (allS (P := fun x => x ∈ [] ∨ h0.size ≤ x) (Or.inr sz_b1) all0)
  refine own_aloadN (pc' := 32) X4 hx (hb hby d17_31) rfl rfl rfl ?_
  refine own_retA X4 hx (fun _ _ _ _ q => q) hlk rfl hret rfl rfl (hb hby d17_32) (by decide) (by decide) ?_
  rw [e4]
  have q := V4
  refine ⟨b1, k1, _, rfl, N4, KK4, sz_b1, q, ?_, ?_, Bk1⟩
  all_goals rw [own_t0]
  all_goals have cp := own_cpl (vd := List.replicate nl.toNatClampNeg (Value.int (0 : Int32))) (us := (vs.drop 0).take zl.toNatClampNeg) (p := 0) (n := zl.toNatClampNeg) (by rw [List.length_replicate]; omega) (by simp; omega)
  · rw [cp.1, List.length_replicate]
  · have c2 := cp.2
    rw [Nat.zero_add] at c2 ⊢
    rw [c2, List.take_zero, List.nil_append, List.drop_zero]
    exact List.take_of_length_le (by omega)
theorem d13_0 : decode jdk_68_method_9_code 0 = .ok (.aload_n 0, 1) := by decide +kernel
theorem d13_1 : decode jdk_68_method_9_code 1 = .ok (.getfield 15, 3) := by decide +kernel
theorem d13_4 : decode jdk_68_method_9_code 4 = .ok (.arraylength, 1) := by decide +kernel
theorem d13_5 : decode jdk_68_method_9_code 5 = .ok (.aload_n 0, 1) := by decide +kernel
theorem d13_6 : decode jdk_68_method_9_code 6 = .ok (.getfield 22, 3) := by decide +kernel
theorem d13_9 : decode jdk_68_method_9_code 9 = .ok (.ishr, 1) := by decide +kernel
theorem d13_10 : decode jdk_68_method_9_code 10 = .ok (.istore_n 2, 1) := by decide +kernel
theorem d13_11 : decode jdk_68_method_9_code 11 = .ok (.iload_n 1, 1) := by decide +kernel
theorem d13_12 : decode jdk_68_method_9_code 12 = .ok (.iload_n 2, 1) := by decide +kernel
theorem d13_13 : decode jdk_68_method_9_code 13 = .ok (.isub, 1) := by decide +kernel
theorem d13_14 : decode jdk_68_method_9_code 14 = .ok (.ifCond .le 24, 3) := by decide +kernel
theorem d13_17 : decode jdk_68_method_9_code 17 = .ok (.aload_n 0, 1) := by decide +kernel
theorem d13_18 : decode jdk_68_method_9_code 18 = .ok (.aload_n 0, 1) := by decide +kernel
theorem d13_19 : decode jdk_68_method_9_code 19 = .ok (.getfield 15, 3) := by decide +kernel
theorem d13_22 : decode jdk_68_method_9_code 22 = .ok (.aload_n 0, 1) := by decide +kernel
theorem d13_23 : decode jdk_68_method_9_code 23 = .ok (.iload_n 1, 1) := by decide +kernel
theorem d13_24 : decode jdk_68_method_9_code 24 = .ok (.invokevirtual 104, 3) := by decide +kernel
theorem d13_27 : decode jdk_68_method_9_code 27 = .ok (.aload_n 0, 1) := by decide +kernel
theorem d13_28 : decode jdk_68_method_9_code 28 = .ok (.getfield 22, 3) := by decide +kernel
theorem d13_31 : decode jdk_68_method_9_code 31 = .ok (.ishl, 1) := by decide +kernel
theorem d13_32 : decode jdk_68_method_9_code 32 = .ok (.invokestatic 108, 3) := by decide +kernel
theorem d13_35 : decode jdk_68_method_9_code 35 = .ok (.putfield 15, 3) := by decide +kernel
theorem d13_38 : decode jdk_68_method_9_code 38 = .ok (.return_, 1) := by decide +kernel
theorem pn_13 : plainFor (⟨"java/lang/AbstractStringBuilder", "ensureCapacityInternal", "(I)V"⟩ : MethodName) = true := plainFor_of_name (by first | (simp [plainName, overriddenIn]; done) | decide +kernel)
theorem ef_con_en (m : MethodId) (sb : Addr) (mi : Int32) : entryFrame m #[(.ref sb), (.int mi)] 3 = mkF m 0 #[.val (.ref sb), .val (.int mi), .unset] [] := by first | (simp [entryFrame, mkF, argsToLocals, Value.category]; done) | rfl
theorem pd10 : parseMethodDescriptor "(I)I" = some ⟨[.int], some .int⟩ := by decide +kernel
theorem pd11 : parseMethodDescriptor "([BI)[B" = some ⟨[(.array .byte), .int], some (.array .byte)⟩ := by decide +kernel
set_option maxRecDepth 65536 in
set_option maxHeartbeats 4000000 in
theorem con_en (l : Launch) (Z : State) (a0 : Array Value) (hw : ∀ d ∈ tables_1, d.before a0 Z = true) (sb : Addr) (mi : Int32) (h0 : Heap) (n0 : Nat) (Z0 : n0 ≤ h0.size) (d : Addr) (kd : ClassId) (cap cnt : Int32) (vs : List Value) (bE : Exa Z h0 sb "java/lang/StringBuilder") (bV : Fld Z h0 sb "java/lang/AbstractStringBuilder" "value" "[B" (.ref d)) (bC : Fld Z h0 sb "java/lang/AbstractStringBuilder" "coder" "B" (.int (0 : Int32))) (bN : Fld Z h0 sb "java/lang/AbstractStringBuilder" "count" "I" (.int cnt)) (bA : Arv Z h0 d kd .byte cap vs (.int (0 : Int32))) (hB : own_BA Z kd) (ne_sb_d : sb ≠ d) (ne_d_sb : d ≠ sb) (g_sb : n0 ≤ sb) (g_d : n0 ≤ d) (hcap : 0 ≤ cap.toInt ∧ cap.toInt ≤ 80) (hlen : vs.length = cap.toNatClampNeg) (hmi : 0 ≤ mi.toInt ∧ mi.toInt ≤ 162) :
    own_Con l Z (⟨"java/lang/AbstractStringBuilder", "ensureCapacityInternal", "(I)V"⟩ : MethodName) jdk_68_method_9_code 3 none ({ frames := 3, cells := 1, slots := 170, locals := 51 } : Room) #[(.ref sb), (.int mi)] h0 (fun v h L => ∃ (d' : Addr) (kd' : ClassId) (cap' : Int32) (us : List Value), v = none ∧ Fr n0 L ∧ Keep h0 h [sb] ∧ (d' = d ∨ h0.size ≤ d') ∧ n0 ≤ d' ∧ sb ≠ d' ∧ Exa Z h sb "java/lang/StringBuilder" ∧ Fld Z h sb "java/lang/AbstractStringBuilder" "value" "[B" (.ref d') ∧ Fld Z h sb "java/lang/AbstractStringBuilder" "coder" "B" (.int (0 : Int32)) ∧ Fld Z h sb "java/lang/AbstractStringBuilder" "count" "I" (.int cnt) ∧ Arv Z h d' kd' .byte cap' us (.int (0 : Int32)) ∧ own_BA Z kd' ∧ us.length = cap'.toNatClampNeg ∧ cap'.toInt = own_cap cap.toInt mi.toInt ∧ us.take cap.toNatClampNeg = vs) := by
  refine own_Con_of pn_13 ?_
  intro p e s m below meth c s₁ X0 hx hby hml hret hlk hnm hown hZ e0
  have hown : s.vm.findClass "java/lang/AbstractStringBuilder" = some m.cls := hown
  have hml : c.maxLocals = 3 := hml
  have N0 := Fr.nil n0
  show own_WP _ _ _ _ _ _ _ (s₁.setTop (entryFrame m #[(.ref sb), (.int mi)] 3))
  rw [ef_con_en m sb mi]
  refine own_aloadN (pc' := 1) X0 hx (hb hby d13_0) rfl rfl rfl ?_
  refine own_getF (pc' := 4) X0 hx hZ hown (host := "") (Or.inl (own_w hw 57 rfl)) Via.refl e0 bV (hb hby d13_1) rfl ?_
  intro T1 X1 e1
  refine own_arrlen (pc' := 5) X1 hx hZ e1 bA (hb hby d13_4) rfl ?_
  refine own_aloadN (pc' := 6) X1 hx (hb hby d13_5) rfl rfl rfl ?_
  refine own_getF (pc' := 9) X1 hx hZ hown (host := "") (Or.inl (own_w hw 59 rfl)) Via.refl e1 bC (hb hby d13_6) rfl ?_
  intro T2 X2 e2
  refine own_ishr (pc' := 10) X2 hx (hb hby d13_9) rfl ?_
  obtain ⟨v3, hv3⟩ : ∃ z : Int32, z = (cap >>> ((0 : Int32) &&& 31)) := ⟨_, rfl⟩
  refine own_istoreN (pc' := 11) (l' := #[.val (.ref sb), .val (.int mi), .val (.int v3)]) X2 hx (hb hby d13_10) hv3 rfl rfl ?_
  refine own_iloadN (pc' := 12) X2 hx (hb hby d13_11) rfl rfl ?_
  refine own_iloadN (pc' := 13) X2 hx (hb hby d13_12) rfl rfl ?_
  refine own_isub (pc' := 14) X2 hx (hb hby d13_13) rfl ?_
  have hsub : ((mi - v3)).toInt = mi.toInt - cap.toInt := by rw [own_sub (a := mi) (b := cap) (by rw [hv3, own_shr0]) (by omega) (by omega)]
  refine own_if_le (pt := 38) (pf := 17) X2 hx (hb hby d13_14) rfl (by decide) rfl (fun hc14 => ?_) (fun hc14 => ?_)
  · skip
    refine own_ret0 X2 hx (fun _ _ _ _ q => q) hlk hret (hb hby d13_38) (by decide) (by decide) ?_
    rw [e2]
    rw [Int32.lt_iff_toInt_lt, hsub] at hc14
    have hc14 : ¬ (0 : Int) < mi.toInt - cap.toInt := hc14
    exact ⟨d, kd, cap, vs, rfl, N0, (Keep.refl h0 [sb]), Or.inl rfl, g_d, ne_sb_d, bE, bV, bC, bN, bA, hB, hlen, by unfold own_cap; rw [if_pos (by omega)], List.take_of_length_le (by omega)⟩
  · skip
    rw [Int32.lt_iff_toInt_lt, hsub] at hc14
    have hgt : (0 : Int) < mi.toInt - cap.toInt := hc14
    refine own_aloadN (pc' := 18) X2 hx (hb hby d13_17) rfl rfl rfl ?_
    refine own_aloadN (pc' := 19) X2 hx (hb hby d13_18) rfl rfl rfl ?_
    refine own_getF (pc' := 22) X2 hx hZ hown (host := "") (Or.inl (own_w hw 57 rfl)) Via.refl e2 bV (hb hby d13_19) rfl ?_
    intro T4 X4 e4
    refine own_aloadN (pc' := 23) X4 hx (hb hby d13_22) rfl rfl rfl ?_
    refine own_iloadN (pc' := 24) X4 hx (hb hby d13_23) rfl rfl ?_
    refine own_callP (pc' := 27) (W := 2) (y := (⟨"java/lang/AbstractStringBuilder", "newCapacity", "(I)I"⟩ : MethodName)) X4 hx hZ hown (own_w hw 90 rfl) (own_w hw 91 rfl) (own_w hw 92 rfl) (own_w hw 93 rfl) (own_w hw 53 rfl) (own_w hw 94 rfl) (by decide) bE (con_nc l Z a0 hw sb mi _ n0 Z0 d kd cap cnt vs bE bV bC bN bA hB (by omega) (by omega)) e4 pd10 [(.int mi)] [(.ref d), (.ref sb)] rfl rfl rfl (Nat.le_of_eq rfl) (by decide) (by decide) (by rw [hml]; rfl) (hb hby d13_24) (by decide) (by decide) rfl ?_
    intro v5 T5 L5 X5 q5
    obtain ⟨r5, rfl, hr5, rfl, e5⟩ := q5
    have M5 := Fr.nil n0
    have N5 := Fr.app N0 M5
    have hnl : r5.toInt = max mi.toInt (2 * cap.toInt + 2) := hr5
    show own_WP _ _ _ _ _ _ _ (T5.setTop (mkF m 27 #[.val (.ref sb), .val (.int mi), .val (.int v3)] [(.int r5), (.ref d), (.ref sb)]))
    refine own_aloadN (pc' := 28) X5 hx (hb hby d13_27) rfl rfl rfl ?_
    refine own_getF (pc' := 31) X5 hx hZ hown (host := "") (Or.inl (own_w hw 59 rfl)) Via.refl e5 bC (hb hby d13_28) rfl ?_
    intro T6 X6 e6
    refine own_ishl (pc' := 32) X6 hx (hb hby d13_31) rfl ?_
    obtain ⟨nl, hnl0⟩ : ∃ z : Int32, z = (r5 <<< ((0 : Int32) &&& 31)) := ⟨_, rfl⟩
    rw [← hnl0]
    rw [own_shl0] at hnl0
    have hnl1 : nl.toInt = max mi.toInt (2 * cap.toInt + 2) := by rw [hnl0]; exact hnl
    refine own_callS (pc' := 35) (W := 1) (y := (⟨"java/util/Arrays", "copyOf", "([BI)[B"⟩ : MethodName)) X6 hx hZ hown (own_w hw 105 rfl) (own_w hw 106 rfl) (own_w hw 107 rfl) (own_w hw 108 rfl) (by decide) (con_co l Z a0 hw d nl _ n0 Z0 _ cap vs bA (by omega) hlen) e6 pd11 [(.ref d), (.int nl)] [(.ref sb)] rfl rfl rfl (Nat.le_of_eq rfl) (by decide) (by decide) (by rw [hml]; rfl) (hb hby d13_32) (by decide) (by decide) rfl ?_
    intro v7 T7 L7 X7 q7
    obtain ⟨c7, k7, u7, rfl, M7, K7, s7, V7, lu7, tu7, Bk7⟩ := q7
    have ne_sb_c7 : sb ≠ c7 := Nat.ne_of_lt (Nat.lt_of_lt_of_le bE.lt s7)
    have ne_c7_sb := ne_sb_c7.symm
    have g_c7 : n0 ≤ c7 := Nat.le_trans Z0 s7
    have sz_c7 : h0.size ≤ c7 := Nat.le_trans (Keep.refl h0 [sb]).1 s7
    obtain ⟨h7, e7⟩ : ∃ z, z = T7.heap := ⟨_, rfl⟩
    rw [← e7] at K7 V7
    have e7 := e7.symm
    have KK7 : Keep h0 h7 [sb] := (Keep.refl h0 [sb]).trans K7 all0
    have N7 := Fr.app N5 M7
    show own_WP _ _ _ _ _ _ _ (T7.setTop (mkF m 35 #[.val (.ref sb), .val (.int mi), .val (.int v3)] [(.ref c7), (.ref sb)]))
    have f8 := (bV.keep K7 nin0)
    have f9 := (bE.keep K7)
    refine own_putF (pc' := 38) X7 hx hZ hown (host := "") (Or.inl (own_w hw 57 rfl)) Via.refl e7 f8 f9 (Or.inl (own_w hw 58 rfl)) (own_w hw 44 rfl) (ty := (.array .byte)) (by decide +kernel) rfl rfl (hb hby d13_35) rfl ?_
    intro T10 h10 X10 e10 W10
    have Fw10 := f8.same W10
    have N10 := Fr.snoc X10 N7 g_sb
    have K10 : Keep h0 h10 [sb] := KK7.wr W10 (Or.inl (List.mem_of_getElem? (i := 0) rfl))
    have f11 := (f9.wr W10)
    have f12 := ((bC.keep K7 nin0).other W10 (Or.inr (slot_ne (Or.inl (own_w hw 60 rfl)) (Or.inl (own_w hw 58 rfl)) (by decide) (t := .byte) (t' := (.array .byte)) (by decide +kernel) (by decide +kernel))))
    have f13 := ((bN.keep K7 nin0).other W10 (Or.inr (slot_ne (Or.inl (own_w hw 84 rfl)) (Or.inl (own_w hw 58 rfl)) (by decide) (t := .int) (t' := (.array .byte)) (by decide +kernel) (by decide +kernel))))
    have f14 := (V7.other W10 ne_c7_sb)
    refine own_ret0 X10 hx (fun _ _ _ _ q => q) hlk hret (hb hby d13_38) (by decide) (by decide) ?_
    rw [e10]
    exact ⟨c7, k7, nl, u7, rfl, N10, K10, Or.inr sz_c7, g_c7, ne_sb_c7, f11, Fw10, f12, f13, f14, Bk7, lu7, by unfold own_cap; rw [if_neg (by omega)]; exact hnl1, tu7⟩
theorem d20_0 : decode jdk_68_method_71_code 0 = .ok (.getstatic 18, 3) := by decide +kernel
theorem d20_3 : decode jdk_68_method_71_code 3 = .ok (.ifCond .eq 18, 3) := by decide +kernel
theorem d20_6 : decode jdk_68_method_71_code 6 = .ok (.aload_n 0, 1) := by decide +kernel
theorem d20_7 : decode jdk_68_method_71_code 7 = .ok (.getfield 22, 3) := by decide +kernel
theorem d20_10 : decode jdk_68_method_71_code 10 = .ok (.aload_n 1, 1) := by decide +kernel
theorem d20_11 : decode jdk_68_method_71_code 11 = .ok (.invokevirtual 40, 3) := by decide +kernel
theorem d20_14 : decode jdk_68_method_71_code 14 = .ok (.if_icmp .eq 7, 3) := by decide +kernel
theorem d20_21 : decode jdk_68_method_71_code 21 = .ok (.return_, 1) := by decide +kernel
theorem pn_20 : plainFor (⟨"java/lang/AbstractStringBuilder", "inflateIfNeededFor", "(Ljava/lang/String;)V"⟩ : MethodName) = true := plainFor_of_name (by first | (simp [plainName, overriddenIn]; done) | decide +kernel)
theorem ef_con_in (m : MethodId) (sb : Addr) (a : Addr) : entryFrame m #[(.ref sb), (.ref a)] 2 = mkF m 0 #[.val (.ref sb), .val (.ref a)] [] := by first | (simp [entryFrame, mkF, argsToLocals, Value.category]; done) | rfl
set_option maxRecDepth 65536 in
set_option maxHeartbeats 4000000 in
theorem con_in (l : Launch) (Z : State) (a0 : Array Value) (hw : ∀ d ∈ tables_1, d.before a0 Z = true) (sb : Addr) (a : Addr) (h0 : Heap) (n0 : Nat) (Z0 : n0 ≤ h0.size) (G1 : Int32) (fm : Value) (hG : own_G Z G1 fm) (X00 : own_Old Z n0 h0) (d : Addr) (kd : ClassId) (cap cnt : Int32) (vs : List Value) (bE : Exa Z h0 sb "java/lang/StringBuilder") (bV : Fld Z h0 sb "java/lang/AbstractStringBuilder" "value" "[B" (.ref d)) (bC : Fld Z h0 sb "java/lang/AbstractStringBuilder" "coder" "B" (.int (0 : Int32))) (bN : Fld Z h0 sb "java/lang/AbstractStringBuilder" "count" "I" (.int cnt)) (bA : Arv Z h0 d kd .byte cap vs (.int (0 : Int32))) (hB : own_BA Z kd) (b : Addr) (kb : ClassId) (zl : Int32) (ws : List Value) (hE : Exa Z h0 a "java/lang/String") (hC : Fld Z h0 a "java/lang/String" "coder" "B" (.int (0 : Int32))) (hV : Fld Z h0 a "java/lang/String" "value" "[B" (.ref b)) (hA : Arv Z h0 b kb .byte zl ws (.int (0 : Int32))) :
    own_Con l Z (⟨"java/lang/AbstractStringBuilder", "inflateIfNeededFor", "(Ljava/lang/String;)V"⟩ : MethodName) jdk_68_method_71_code 2 none ({ frames := 1, cells := 0, slots := 0, locals := 13 } : Room) #[(.ref sb), (.ref a)] h0 (fun v h L => v = none ∧ L = [] ∧ h = h0) := by
  refine own_Con_of pn_20 ?_
  intro p e s m below meth c s₁ X0 hx hby hml hret hlk hnm hown hZ e0
  have hown : s.vm.findClass "java/lang/AbstractStringBuilder" = some m.cls := hown
  have hml : c.maxLocals = 2 := hml
  show own_WP _ _ _ _ _ _ _ (s₁.setTop (entryFrame m #[(.ref sb), (.ref a)] 2))
  rw [ef_con_in m sb a]
  refine own_getS (pc' := 3) X0 hx hZ hown (host := "") (Or.inl (own_w hw 56 rfl)) Via.refl e0 (hG.1.ext X00.x) (hb hby d20_0) rfl ?_
  intro T1 X1 e1
  refine own_if_eq (pt := 21) (pf := 6) X1 hx (hb hby d20_3) rfl (by decide) rfl (fun hc3 => absurd hc3 (hG.2.1)) (fun hc3 => ?_)
  refine own_aloadN (pc' := 7) X1 hx (hb hby d20_6) rfl rfl rfl ?_
  refine own_getF (pc' := 10) X1 hx hZ hown (host := "") (Or.inl (own_w hw 59 rfl)) Via.refl e1 bC (hb hby d20_7) rfl ?_
  intro T2 X2 e2
  refine own_aloadN (pc' := 11) X2 hx (hb hby d20_10) rfl rfl rfl ?_
  refine own_callV (pc' := 14) (W := 1) (y := (⟨"java/lang/String", "coder", "()B"⟩ : MethodName)) (z := (⟨"java/lang/String", "coder", "()B"⟩ : MethodName)) X2 hx hZ hown (own_w hw 126 rfl) (own_w hw 78 rfl) (notFace_of_selects (args := #[]) (mvT hZ (own_w hw 80 rfl))) (own_w hw 80 rfl) (own_w hw 79 rfl) (own_w hw 2 rfl) (own_w hw 81 rfl) (by decide) hE (con_coder l Z a0 hw a _ n0 Z0 G1 fm hG X00 hC) e2 pd0 [] [(.int (0 : Int32))] rfl rfl rfl (Nat.le_of_eq rfl) (by decide) (by decide) (by rw [hml]; rfl) (hb hby d20_11) (by decide) (by decide) rfl ?_
  intro v3 T3 L3 X3 q3
  obtain ⟨r3, rfl, hr3, rfl, e3⟩ := q3
  show own_WP _ _ _ _ _ _ _ (T3.setTop (mkF m 14 #[.val (.ref sb), .val (.ref a)] [(.int r3), (.int (0 : Int32))]))
  refine own_icmp_eq (pt := 21) (pf := 17) X3 hx (hb hby d20_14) rfl (by decide) rfl (fun hc14 => ?_) (fun hc14 => absurd (hr3.symm) hc14)
  refine own_ret0 X3 hx (fun _ _ _ _ q => q) hlk hret (hb hby d20_21) (by decide) (by decide) ?_
  exact ⟨rfl, rfl, e3⟩
theorem d21_0 : decode jdk_42_method_147_code 0 = .ok (.aload_n 0, 1) := by decide +kernel
theorem d21_1 : decode jdk_42_method_147_code 1 = .ok (.invokevirtual 335, 3) := by decide +kernel
theorem d21_4 : decode jdk_42_method_147_code 4 = .ok (.iload_n 3, 1) := by decide +kernel
theorem d21_5 : decode jdk_42_method_147_code 5 = .ok (.if_icmp .ne 23, 3) := by decide +kernel
theorem d21_8 : decode jdk_42_method_147_code 8 = .ok (.aload_n 0, 1) := by decide +kernel
theorem d21_9 : decode jdk_42_method_147_code 9 = .ok (.getfield 9, 3) := by decide +kernel
theorem d21_12 : decode jdk_42_method_147_code 12 = .ok (.iconst 0, 1) := by decide +kernel
theorem d21_13 : decode jdk_42_method_147_code 13 = .ok (.aload_n 1, 1) := by decide +kernel
theorem d21_14 : decode jdk_42_method_147_code 14 = .ok (.iload_n 2, 1) := by decide +kernel
theorem d21_15 : decode jdk_42_method_147_code 15 = .ok (.iload_n 3, 1) := by decide +kernel
theorem d21_16 : decode jdk_42_method_147_code 16 = .ok (.ishl, 1) := by decide +kernel
theorem d21_17 : decode jdk_42_method_147_code 17 = .ok (.aload_n 0, 1) := by decide +kernel
theorem d21_18 : decode jdk_42_method_147_code 18 = .ok (.getfield 9, 3) := by decide +kernel
theorem d21_21 : decode jdk_42_method_147_code 21 = .ok (.arraylength, 1) := by decide +kernel
theorem d21_22 : decode jdk_42_method_147_code 22 = .ok (.invokestatic 212, 3) := by decide +kernel
theorem d21_25 : decode jdk_42_method_147_code 25 = .ok (.goto 18, 3) := by decide +kernel
theorem d21_43 : decode jdk_42_method_147_code 43 = .ok (.return_, 1) := by decide +kernel
theorem pn_21 : plainFor (⟨"java/lang/String", "getBytes", "([BIB)V"⟩ : MethodName) = true := plainFor_of_name (by first | (simp [plainName, overriddenIn]; done) | decide +kernel)
theorem ef_con_gb (m : MethodId) (a : Addr) (d : Addr) (pos : Int32) : entryFrame m #[(.ref a), (.ref d), (.int pos), (.int (0 : Int32))] 4 = mkF m 0 #[.val (.ref a), .val (.ref d), .val (.int pos), .val (.int (0 : Int32))] [] := by first | (simp [entryFrame, mkF, argsToLocals, Value.category]; done) | rfl
set_option maxRecDepth 65536 in
set_option maxHeartbeats 4000000 in
theorem con_gb (l : Launch) (Z : State) (a0 : Array Value) (hw : ∀ d ∈ tables_1, d.before a0 Z = true) (a : Addr) (d : Addr) (pos : Int32) (h0 : Heap) (n0 : Nat) (Z0 : n0 ≤ h0.size) (G1 : Int32) (fm : Value) (hG : own_G Z G1 fm) (X00 : own_Old Z n0 h0) (b : Addr) (kb : ClassId) (zl : Int32) (ws : List Value) (hE : Exa Z h0 a "java/lang/String") (hC : Fld Z h0 a "java/lang/String" "coder" "B" (.int (0 : Int32))) (hV : Fld Z h0 a "java/lang/String" "value" "[B" (.ref b)) (hA : Arv Z h0 b kb .byte zl ws (.int (0 : Int32))) (kd : ClassId) (cap : Int32) (vs : List Value) (bA : Arv Z h0 d kd .byte cap vs (.int (0 : Int32))) (hlen : vs.length = cap.toNatClampNeg) (hws : ws.length = zl.toNatClampNeg) (hpos : 0 ≤ pos.toInt ∧ 0 ≤ zl.toInt ∧ pos.toInt + zl.toInt ≤ cap.toInt ∧ cap.toInt ≤ 1000) (ne_b_d : b ≠ d) (g_d : n0 ≤ d) :
    own_Con l Z (⟨"java/lang/String", "getBytes", "([BIB)V"⟩ : MethodName) jdk_42_method_147_code 4 none ({ frames := 1, cells := 0, slots := 0, locals := 32 } : Room) #[(.ref a), (.ref d), (.int pos), (.int (0 : Int32))] h0 (fun v h L => ∃ us : List Value, v = none ∧ Fr n0 L ∧ Keep h0 h [d] ∧ Arv Z h d kd .byte cap us (.int (0 : Int32)) ∧ us.length = vs.length ∧ us.take (pos.toNatClampNeg + zl.toNatClampNeg) = vs.take pos.toNatClampNeg ++ ws) := by
  refine own_Con_of pn_21 ?_
  intro p e s m below meth c s₁ X0 hx hby hml hret hlk hnm hown hZ e0
  have hown : s.vm.findClass "java/lang/String" = some m.cls := hown
  have hml : c.maxLocals = 4 := hml
  have N0 := Fr.nil n0
  show own_WP _ _ _ _ _ _ _ (s₁.setTop (entryFrame m #[(.ref a), (.ref d), (.int pos), (.int (0 : Int32))] 4))
  rw [ef_con_gb m a d pos]
  refine own_aloadN (pc' := 1) X0 hx (hb hby d21_0) rfl rfl rfl ?_
  refine own_callV (pc' := 4) (W := 0) (y := (⟨"java/lang/String", "coder", "()B"⟩ : MethodName)) (z := (⟨"java/lang/String", "coder", "()B"⟩ : MethodName)) X0 hx hZ hown (own_w hw 77 rfl) (own_w hw 78 rfl) (notFace_of_selects (args := #[]) (mvT hZ (own_w hw 80 rfl))) (own_w hw 80 rfl) (own_w hw 79 rfl) (own_w hw 2 rfl) (own_w hw 81 rfl) (by decide) hE (con_coder l Z a0 hw a _ n0 Z0 G1 fm hG X00 hC) e0 pd0 [] [] rfl rfl rfl (Nat.le_of_eq rfl) (by decide) (by decide) (by rw [hml]; rfl) (hb hby d21_1) (by decide) (by decide) rfl ?_
  intro v1 T1 L1 X1 q1
  obtain ⟨r1, rfl, hr1, rfl, e1⟩ := q1
  have N1 := Fr.app N0 (Fr.nil n0)
  show own_WP _ _ _ _ _ _ _ (T1.setTop (mkF m 4 #[.val (.ref a), .val (.ref d), .val (.int pos), .val (.int (0 : Int32))] [(.int r1)]))
  refine own_iloadN (pc' := 5) X1 hx (hb hby d21_4) rfl rfl ?_
  refine own_icmp_ne (pt := 28) (pf := 8) X1 hx (hb hby d21_5) rfl (by decide) rfl (fun hc5 => absurd (hr1) hc5) (fun hc5 => ?_)
  refine own_aloadN (pc' := 9) X1 hx (hb hby d21_8) rfl rfl rfl ?_
  refine own_getF (pc' := 12) X1 hx hZ hown (host := "") (Or.inl (own_w hw 20 rfl)) Via.refl e1 hV (hb hby d21_9) rfl ?_
  intro T2 X2 e2
  refine own_iconst (pc' := 13) X2 hx (0 : Int32) (hb hby d21_12) rfl rfl ?_
  refine own_aloadN (pc' := 14) X2 hx (hb hby d21_13) rfl rfl rfl ?_
  refine own_iloadN (pc' := 15) X2 hx (hb hby d21_14) rfl rfl ?_
  refine own_iloadN (pc' := 16) X2 hx (hb hby d21_15) rfl rfl ?_
  refine own_ishl (pc' := 17) X2 hx (hb hby d21_16) rfl ?_
  refine own_aloadN (pc' := 18) X2 hx (hb hby d21_17) rfl rfl rfl ?_
  refine own_getF (pc' := 21) X2 hx hZ hown (host := "") (Or.inl (own_w hw 20 rfl)) Via.refl e2 hV (hb hby d21_18) rfl ?_
  intro T3 X3 e3
  refine own_arrlen (pc' := 22) X3 hx hZ e3 hA (hb hby d21_21) rfl ?_
  have q1 := own_nat (x := zl) (by omega)
  have q2 := own_nat (x := pos) (by omega)
  have q3 := own_nat (x := cap) (by omega)
  rw [own_shl0]
  refine own_cpA (pc' := 25) (W := 0) (n0 := n0) X3 hx hZ hown (own_w hw 132 rfl) (own_w hw 115 rfl) (own_w hw 113 rfl) (own_w hw 114 rfl) e3 hA bA (by decide) (own_nn (by omega)) (own_nn (by omega)) (by show 0 + _ ≤ _; omega) (by omega) (own_us (by show 0 + _ ≤ _; omega)) (by omega) N1 g_d (by rw [hml]; rfl) (hb hby d21_22) (by decide) (Nat.le_of_eq rfl) (by decide) rfl ?_
  intro T4 h4 L4 X4 e4 N4 K4 V4
  have KK4 : Keep h0 h4 [d] := (Keep.refl h0 [d]).trans K4 (allS (P := fun x => x ∈ [d] ∨ h0.size ≤ x) (Or.inl (List.mem_of_getElem? (i := 0) rfl)) all0)
  refine own_goto (pc' := 43) X4 hx (hb hby d21_25) (by decide) rfl ?_
  refine own_ret0 X4 hx (fun _ _ _ _ q => q) hlk hret (hb hby d21_43) (by decide) (by decide) ?_
  rw [e4]
  have q := V4
  have cp := own_cpl (vd := vs) (us := (ws.drop 0).take zl.toNatClampNeg) (p := pos.toNatClampNeg) (n := zl.toNatClampNeg) (by omega) (by simp; omega)
  have e9 : (ws.drop 0).take zl.toNatClampNeg = ws := by rw [List.drop_zero]; exact List.take_of_length_le (by omega)
  rw [own_t0, e9] at q
  rw [e9] at cp
  exact ⟨_, rfl, N4, KK4, q, cp.1, cp.2⟩
theorem d19_0 : decode jdk_68_method_73_code 0 = .ok (.aload_n 0, 1) := by decide +kernel
theorem d19_1 : decode jdk_68_method_73_code 1 = .ok (.aload_n 2, 1) := by decide +kernel
theorem d19_2 : decode jdk_68_method_73_code 2 = .ok (.invokevirtual 397, 3) := by decide +kernel
theorem d19_5 : decode jdk_68_method_73_code 5 = .ok (.aload_n 2, 1) := by decide +kernel
theorem d19_6 : decode jdk_68_method_73_code 6 = .ok (.aload_n 0, 1) := by decide +kernel
theorem d19_7 : decode jdk_68_method_73_code 7 = .ok (.getfield 15, 3) := by decide +kernel
theorem d19_10 : decode jdk_68_method_73_code 10 = .ok (.iload_n 1, 1) := by decide +kernel
theorem d19_11 : decode jdk_68_method_73_code 11 = .ok (.aload_n 0, 1) := by decide +kernel
theorem d19_12 : decode jdk_68_method_73_code 12 = .ok (.getfield 22, 3) := by decide +kernel
theorem d19_15 : decode jdk_68_method_73_code 15 = .ok (.invokevirtual 399, 3) := by decide +kernel
theorem d19_18 : decode jdk_68_method_73_code 18 = .ok (.return_, 1) := by decide +kernel
theorem pn_19 : plainFor (⟨"java/lang/AbstractStringBuilder", "putStringAt", "(ILjava/lang/String;)V"⟩ : MethodName) = true := plainFor_of_name (by first | (simp [plainName, overriddenIn]; done) | decide +kernel)
theorem ef_con_ps (m : MethodId) (sb : Addr) (pos : Int32) (a : Addr) : entryFrame m #[(.ref sb), (.int pos), (.ref a)] 3 = mkF m 0 #[.val (.ref sb), .val (.int pos), .val (.ref a)] [] := by first | (simp [entryFrame, mkF, argsToLocals, Value.category]; done) | rfl
theorem pd12 : parseMethodDescriptor "(Ljava/lang/String;)V" = some ⟨[(.object "java/lang/String")], none⟩ := by decide +kernel
theorem pd13 : parseMethodDescriptor "([BIB)V" = some ⟨[(.array .byte), .int, .byte], none⟩ := by decide +kernel
set_option maxRecDepth 65536 in
set_option maxHeartbeats 4000000 in
theorem con_ps (l : Launch) (Z : State) (a0 : Array Value) (hw : ∀ d ∈ tables_1, d.before a0 Z = true) (sb : Addr) (pos : Int32) (a : Addr) (h0 : Heap) (n0 : Nat) (Z0 : n0 ≤ h0.size) (G1 : Int32) (fm : Value) (hG : own_G Z G1 fm) (X00 : own_Old Z n0 h0) (d : Addr) (kd : ClassId) (cap cnt : Int32) (vs : List Value) (bE : Exa Z h0 sb "java/lang/StringBuilder") (bV : Fld Z h0 sb "java/lang/AbstractStringBuilder" "value" "[B" (.ref d)) (bC : Fld Z h0 sb "java/lang/AbstractStringBuilder" "coder" "B" (.int (0 : Int32))) (bN : Fld Z h0 sb "java/lang/AbstractStringBuilder" "count" "I" (.int cnt)) (bA : Arv Z h0 d kd .byte cap vs (.int (0 : Int32))) (hB : own_BA Z kd)(b : Addr) (kb : ClassId) (zl : Int32) (ws : List Value) (hE : Exa Z h0 a "java/lang/String") (hC : Fld Z h0 a "java/lang/String" "coder" "B" (.int (0 : Int32))) (hV : Fld Z h0 a "java/lang/String" "value" "[B" (.ref b)) (hA : Arv Z h0 b kb .byte zl ws (.int (0 : Int32))) (hlen : vs.length = cap.toNatClampNeg) (hws : ws.length = zl.toNatClampNeg) (hpos : 0 ≤ pos.toInt ∧ 0 ≤ zl.toInt ∧ pos.toInt + zl.toInt ≤ cap.toInt ∧ cap.toInt ≤ 1000) (ne_b_d : b ≠ d) (g_d : n0 ≤ d) (ne_sb_d : sb ≠ d) (ne_a_d : a ≠ d) :
    own_Con l Z (⟨"java/lang/AbstractStringBuilder", "putStringAt", "(ILjava/lang/String;)V"⟩ : MethodName) jdk_68_method_73_code 3 none ({ frames := 2, cells := 0, slots := 0, locals := 48 } : Room) #[(.ref sb), (.int pos), (.ref a)] h0 (fun v h L => ∃ us : List Value, v = none ∧ Fr n0 L ∧ Keep h0 h [d] ∧ Exa Z h sb "java/lang/StringBuilder" ∧ Fld Z h sb "java/lang/AbstractStringBuilder" "value" "[B" (.ref d) ∧ Fld Z h sb "java/lang/AbstractStringBuilder" "coder" "B" (.int (0 : Int32)) ∧ Fld Z h sb "java/lang/AbstractStringBuilder" "count" "I" (.int cnt) ∧ Arv Z h d kd .byte cap us (.int (0 : Int32)) ∧ own_BA Z kd ∧ us.length = vs.length ∧ us.take (pos.toNatClampNeg + zl.toNatClampNeg) = vs.take pos.toNatClampNeg ++ ws) := by
  refine own_Con_of pn_19 ?_
  intro p e s m below meth c s₁ X0 hx hby hml hret hlk hnm hown hZ e0
  have hown : s.vm.findClass "java/lang/AbstractStringBuilder" = some m.cls := hown
  have hml : c.maxLocals = 3 := hml
  have N0 := Fr.nil n0
  show own_WP _ _ _ _ _ _ _ (s₁.setTop (entryFrame m #[(.ref sb), (.int pos), (.ref a)] 3))
  rw [ef_con_ps m sb pos a]
  refine own_aloadN (pc' := 1) X0 hx (hb hby d19_0) rfl rfl rfl ?_
  refine own_aloadN (pc' := 2) X0 hx (hb hby d19_1) rfl rfl rfl ?_
  refine own_callP (pc' := 5) (W := 0) (y := (⟨"java/lang/AbstractStringBuilder", "inflateIfNeededFor", "(Ljava/lang/String;)V"⟩ : MethodName)) X0 hx hZ hown (own_w hw 121 rfl) (own_w hw 122 rfl) (own_w hw 123 rfl) (own_w hw 124 rfl) (own_w hw 53 rfl) (own_w hw 125 rfl) (by decide) bE (con_in l Z a0 hw sb a _ n0 Z0 G1 fm hG X00 d kd cap cnt vs bE bV bC bN bA hB b kb zl ws hE hC hV hA) e0 pd12 [(.ref a)] [] rfl rfl rfl (Nat.le_of_eq rfl) (by decide) (by decide) (by rw [hml]; rfl) (hb hby d19_2) (by decide) (by decide) rfl ?_
  intro v1 T1 L1 X1 q1
  obtain ⟨rfl, rfl, e1⟩ := q1
  have M1 := Fr.nil n0
  have N1 := Fr.app N0 M1
  show own_WP _ _ _ _ _ _ _ (T1.setTop (mkF m 5 #[.val (.ref sb), .val (.int pos), .val (.ref a)] []))
  refine own_aloadN (pc' := 6) X1 hx (hb hby d19_5) rfl rfl rfl ?_
  refine own_aloadN (pc' := 7) X1 hx (hb hby d19_6) rfl rfl rfl ?_
  refine own_getF (pc' := 10) X1 hx hZ hown (host := "") (Or.inl (own_w hw 57 rfl)) Via.refl e1 bV (hb hby d19_7) rfl ?_
  intro T2 X2 e2
  refine own_iloadN (pc' := 11) X2 hx (hb hby d19_10) rfl rfl ?_
  refine own_aloadN (pc' := 12) X2 hx (hb hby d19_11) rfl rfl rfl ?_
  refine own_getF (pc' := 15) X2 hx hZ hown (host := "") (Or.inl (own_w hw 59 rfl)) Via.refl e2 bC (hb hby d19_12) rfl ?_
  intro T3 X3 e3
  refine own_callV (pc' := 18) (W := 0) (y := (⟨"java/lang/String", "getBytes", "([BIB)V"⟩ : MethodName)) (z := (⟨"java/lang/String", "getBytes", "([BIB)V"⟩ : MethodName)) X3 hx hZ hown (own_w hw 127 rfl) (own_w hw 128 rfl) (notFace_of_selects (args := #[]) (mvT hZ (own_w hw 130 rfl))) (own_w hw 130 rfl) (own_w hw 129 rfl) (own_w hw 2 rfl) (own_w hw 131 rfl) (by decide) hE (con_gb l Z a0 hw a d pos _ n0 Z0 G1 fm hG X00 b kb zl ws hE hC hV hA kd cap vs bA hlen hws hpos ne_b_d g_d) e3 pd13 [(.ref d), (.int pos), (.int (0 : Int32))] [] rfl rfl rfl (Nat.le_of_eq rfl) (by decide) (by decide) (by rw [hml]; rfl) (hb hby d19_15) (by decide) (by decide) rfl ?_
  intro v4 T4 L4 X4 q4
  obtain ⟨u4, rfl, M4, K4, V4, lu4, tu4⟩ := q4
  obtain ⟨h4, e4⟩ : ∃ z, z = T4.heap := ⟨_, rfl⟩
  rw [← e4] at K4 V4
  have e4 := e4.symm
  have KK4 : Keep h0 h4 [d] := (Keep.refl h0 [d]).trans K4 (allS (P := fun x => x ∈ [d] ∨ h0.size ≤ x) (Or.inl (List.mem_of_getElem? (i := 0) rfl)) all0)
  have N4 := Fr.app N1 M4
  show own_WP _ _ _ _ _ _ _ (T4.setTop (mkF m 18 #[.val (.ref sb), .val (.int pos), .val (.ref a)] []))
  have f5 := (bE.keep K4)
  have f6 := (bV.keep K4 (ninS ne_sb_d nin0))
  have f7 := (bC.keep K4 (ninS ne_sb_d nin0))
  have f8 := (bN.keep K4 (ninS ne_sb_d nin0))
  refine own_ret0 X4 hx (fun _ _ _ _ q => q) hlk hret (hb hby d19_18) (by decide) (by decide) ?_
  rw [e4]
  exact ⟨u4, rfl, N4, KK4, f5, f6, f7, f8, V4, hB, lu4, tu4⟩
theorem d10_0 : decode jdk_68_method_22_code 0 = .ok (.aload_n 1, 1) := by decide +kernel
theorem d10_1 : decode jdk_68_method_22_code 1 = .ok (.ifnonnull 8, 3) := by decide +kernel
theorem d10_9 : decode jdk_68_method_22_code 9 = .ok (.aload_n 1, 1) := by decide +kernel
theorem d10_10 : decode jdk_68_method_22_code 10 = .ok (.invokevirtual 32, 3) := by decide +kernel
theorem d10_13 : decode jdk_68_method_22_code 13 = .ok (.istore_n 2, 1) := by decide +kernel
theorem d10_14 : decode jdk_68_method_22_code 14 = .ok (.aload_n 0, 1) := by decide +kernel
theorem d10_15 : decode jdk_68_method_22_code 15 = .ok (.aload_n 0, 1) := by decide +kernel
theorem d10_16 : decode jdk_68_method_22_code 16 = .ok (.getfield 79, 3) := by decide +kernel
theorem d10_19 : decode jdk_68_method_22_code 19 = .ok (.iload_n 2, 1) := by decide +kernel
theorem d10_20 : decode jdk_68_method_22_code 20 = .ok (.iadd, 1) := by decide +kernel
theorem d10_21 : decode jdk_68_method_22_code 21 = .ok (.invokevirtual 100, 3) := by decide +kernel
theorem d10_24 : decode jdk_68_method_22_code 24 = .ok (.aload_n 0, 1) := by decide +kernel
theorem d10_25 : decode jdk_68_method_22_code 25 = .ok (.aload_n 0, 1) := by decide +kernel
theorem d10_26 : decode jdk_68_method_22_code 26 = .ok (.getfield 79, 3) := by decide +kernel
theorem d10_29 : decode jdk_68_method_22_code 29 = .ok (.aload_n 1, 1) := by decide +kernel
theorem d10_30 : decode jdk_68_method_22_code 30 = .ok (.invokevirtual 208, 3) := by decide +kernel
theorem d10_33 : decode jdk_68_method_22_code 33 = .ok (.aload_n 0, 1) := by decide +kernel
theorem d10_34 : decode jdk_68_method_22_code 34 = .ok (.dup, 1) := by decide +kernel
theorem d10_35 : decode jdk_68_method_22_code 35 = .ok (.getfield 79, 3) := by decide +kernel
theorem d10_38 : decode jdk_68_method_22_code 38 = .ok (.iload_n 2, 1) := by decide +kernel
theorem d10_39 : decode jdk_68_method_22_code 39 = .ok (.iadd, 1) := by decide +kernel
theorem d10_40 : decode jdk_68_method_22_code 40 = .ok (.putfield 79, 3) := by decide +kernel
theorem d10_43 : decode jdk_68_method_22_code 43 = .ok (.aload_n 0, 1) := by decide +kernel
theorem d10_44 : decode jdk_68_method_22_code 44 = .ok (.areturn, 1) := by decide +kernel
theorem pn_10 : plainFor (⟨"java/lang/AbstractStringBuilder", "append", "(Ljava/lang/String;)Ljava/lang/AbstractStringBuilder;"⟩ : MethodName) = true := plainFor_of_name (by first | (simp [plainName, overriddenIn]; done) | decide +kernel)
theorem ef_con_as (m : MethodId) (sb : Addr) (a : Addr) : entryFrame m #[(.ref sb), (.ref a)] 3 = mkF m 0 #[.val (.ref sb), .val (.ref a), .unset] [] := by first | (simp [entryFrame, mkF, argsToLocals, Value.category]; done) | rfl
theorem pd14 : parseMethodDescriptor "()I" = some ⟨[], some .int⟩ := by decide +kernel
theorem pd15 : parseMethodDescriptor "(I)V" = some ⟨[.int], none⟩ := by decide +kernel
theorem pd16 : parseMethodDescriptor "(ILjava/lang/String;)V" = some ⟨[.int, (.object "java/lang/String")], none⟩ := by decide +kernel
set_option maxRecDepth 65536 in
set_option maxHeartbeats 4000000 in
theorem con_as (l : Launch) (Z : State) (a0 : Array Value) (hw : ∀ d ∈ tables_1, d.before a0 Z = true) (sb : Addr) (a : Addr) (h0 : Heap) (n0 : Nat) (Z0 : n0 ≤ h0.size) (G1 : Int32) (fm : Value) (hG : own_G Z G1 fm) (X00 : own_Old Z n0 h0) (d : Addr) (kd : ClassId) (cap cnt : Int32) (vs : List Value) (bE : Exa Z h0 sb "java/lang/StringBuilder") (bV : Fld Z h0 sb "java/lang/AbstractStringBuilder" "value" "[B" (.ref d)) (bC : Fld Z h0 sb "java/lang/AbstractStringBuilder" "coder" "B" (.int (0 : Int32))) (bN : Fld Z h0 sb "java/lang/AbstractStringBuilder" "count" "I" (.int cnt)) (bA : Arv Z h0 d kd .byte cap vs (.int (0 : Int32))) (hB : own_BA Z kd)(b : Addr) (kb : ClassId) (zl : Int32) (ws : List Value) (hE : Exa Z h0 a "java/lang/String") (hC : Fld Z h0 a "java/lang/String" "coder" "B" (.int (0 : Int32))) (hV : Fld Z h0 a "java/lang/String" "value" "[B" (.ref b)) (hA : Arv Z h0 b kb .byte zl ws (.int (0 : Int32))) (ne_sb_d : sb ≠ d) (ne_d_sb : d ≠ sb) (g_sb : n0 ≤ sb) (g_d : n0 ≤ d) (hcap : 0 ≤ cnt.toInt ∧ cnt.toInt ≤ cap.toInt ∧ cap.toInt ≤ 80) (hlen : vs.length = cap.toNatClampNeg) (hws : ws.length = zl.toNatClampNeg) (hzl : 0 ≤ zl.toInt ∧ zl.toInt ≤ 40) (ne_a_d : a ≠ d) (ne_b_d : b ≠ d) (ne_a_sb : a ≠ sb) (ne_b_sb : b ≠ sb) (ne_sb_a : sb ≠ a) :
    own_Con l Z (⟨"java/lang/AbstractStringBuilder", "append", "(Ljava/lang/String;)Ljava/lang/AbstractStringBuilder;"⟩ : MethodName) jdk_68_method_22_code 3 (some (.object "java/lang/AbstractStringBuilder")) ({ frames := 4, cells := 1, slots := 170, locals := 67 } : Room) #[(.ref sb), (.ref a)] h0 (fun v h L => ∃ (d' : Addr) (kd' : ClassId) (cap' cnt' : Int32) (us : List Value), v = some (.ref sb) ∧ Fr n0 L ∧ Keep h0 h [sb, d] ∧ (d' = d ∨ h0.size ≤ d') ∧ n0 ≤ d' ∧ sb ≠ d' ∧ Exa Z h sb "java/lang/StringBuilder" ∧ Fld Z h sb "java/lang/AbstractStringBuilder" "value" "[B" (.ref d') ∧ Fld Z h sb "java/lang/AbstractStringBuilder" "coder" "B" (.int (0 : Int32)) ∧ Fld Z h sb "java/lang/AbstractStringBuilder" "count" "I" (.int cnt') ∧ Arv Z h d' kd' .byte cap' us (.int (0 : Int32)) ∧ own_BA Z kd' ∧ us.length = cap'.toNatClampNeg ∧ cap'.toInt = own_cap cap.toInt (cnt.toInt + zl.toInt) ∧ cnt'.toInt = cnt.toInt + zl.toInt ∧ us.take (cnt.toNatClampNeg + zl.toNatClampNeg) = vs.take cnt.toNatClampNeg ++ ws) := by
  refine own_Con_of pn_10 ?_
  intro p e s m below meth c s₁ X0 hx hby hml hret hlk hnm hown hZ e0
  have hown : s.vm.findClass "java/lang/AbstractStringBuilder" = some m.cls := hown
  have hml : c.maxLocals = 3 := hml
  have N0 := Fr.nil n0
  show own_WP _ _ _ _ _ _ _ (s₁.setTop (entryFrame m #[(.ref sb), (.ref a)] 3))
  rw [ef_con_as m sb a]
  refine own_aloadN (pc' := 1) X0 hx (hb hby d10_0) rfl rfl rfl ?_
  refine own_nnY (pc' := 9) X0 hx (hb hby d10_1) (by decide) rfl ?_
  refine own_aloadN (pc' := 10) X0 hx (hb hby d10_9) rfl rfl rfl ?_
  refine own_callV (pc' := 13) (W := 0) (y := (⟨"java/lang/String", "length", "()I"⟩ : MethodName)) (z := (⟨"java/lang/String", "length", "()I"⟩ : MethodName)) X0 hx hZ hown (own_w hw 72 rfl) (own_w hw 73 rfl) (notFace_of_selects (args := #[]) (mvT hZ (own_w hw 75 rfl))) (own_w hw 75 rfl) (own_w hw 74 rfl) (own_w hw 2 rfl) (own_w hw 76 rfl) (by decide) hE (con_length l Z a0 hw a _ n0 Z0 G1 fm hG X00 b kb zl ws hE hC hV hA) e0 pd14 [] [] rfl rfl rfl (Nat.le_of_eq rfl) (by decide) (by decide) (by rw [hml]; rfl) (hb hby d10_10) (by decide) (by decide) rfl ?_
  intro v1 T1 L1 X1 q1
  obtain ⟨r1, rfl, hr1, rfl, e1⟩ := q1
  have hr1 := hr1.symm
  subst hr1
  have M1 := Fr.nil n0
  have N1 := Fr.app N0 M1
  show own_WP _ _ _ _ _ _ _ (T1.setTop (mkF m 13 #[.val (.ref sb), .val (.ref a), .unset] [(.int zl)]))
  refine own_istoreN (pc' := 14) (l' := #[.val (.ref sb), .val (.ref a), .val (.int zl)]) X1 hx (hb hby d10_13) rfl rfl rfl ?_
  refine own_aloadN (pc' := 15) X1 hx (hb hby d10_14) rfl rfl rfl ?_
  refine own_aloadN (pc' := 16) X1 hx (hb hby d10_15) rfl rfl rfl ?_
  refine own_getF (pc' := 19) X1 hx hZ hown (host := "") (Or.inl (own_w hw 83 rfl)) Via.refl e1 bN (hb hby d10_16) rfl ?_
  intro T2 X2 e2
  refine own_iloadN (pc' := 20) X2 hx (hb hby d10_19) rfl rfl ?_
  refine own_iadd (pc' := 21) X2 hx (hb hby d10_20) rfl ?_
  obtain ⟨mi, hmi0⟩ : ∃ z : Int32, z = (cnt + zl) := ⟨_, rfl⟩
  rw [← hmi0]
  have hmi : mi.toInt = cnt.toInt + zl.toInt := own_add hmi0 (by omega) (by omega)
  refine own_callP (pc' := 24) (W := 0) (y := (⟨"java/lang/AbstractStringBuilder", "ensureCapacityInternal", "(I)V"⟩ : MethodName)) X2 hx hZ hown (own_w hw 85 rfl) (own_w hw 86 rfl) (own_w hw 87 rfl) (own_w hw 88 rfl) (own_w hw 53 rfl) (own_w hw 89 rfl) (by decide) bE (con_en l Z a0 hw sb mi _ n0 Z0 d kd cap cnt vs bE bV bC bN bA hB ne_sb_d ne_d_sb g_sb g_d (by omega) hlen (by omega)) e2 pd15 [(.int mi)] [] rfl rfl rfl (Nat.le_of_eq rfl) (by decide) (by decide) (by rw [hml]; rfl) (hb hby d10_21) (by decide) (by decide) rfl ?_
  intro v3 T3 L3 X3 q3
  obtain ⟨c3, k3, cp3, u3, rfl, M3, K3, hor3, g_c3, nsb3, E3q, F3a, F3b, F3c, V3, Bk3, lu3, hcp3, tu3⟩ := q3
  have ne_a_c3 : a ≠ c3 := own_ne2 ne_a_d hE.lt hor3
  have ne_b_c3 : b ≠ c3 := own_ne2 ne_b_d hA.lt hor3
  have ne_sb_c3 : sb ≠ c3 := own_ne2 ne_sb_d bE.lt hor3
  have ne_c3_sb := ne_sb_c3.symm
  obtain ⟨h3, e3⟩ : ∃ z, z = T3.heap := ⟨_, rfl⟩
  rw [← e3] at K3 E3q F3a F3b F3c V3
  have e3 := e3.symm
  have o3 : own_Old Z n0 h3 := X00.keep K3 (allS g_sb all0)
  have z3 : n0 ≤ h3.size := Nat.le_trans Z0 K3.1
  have KK3 : Keep h0 h3 [sb, d] := (Keep.refl h0 [sb, d]).trans K3 (allS (P := fun x => x ∈ [sb, d] ∨ h0.size ≤ x) (Or.inl (List.mem_of_getElem? (i := 0) rfl)) all0)
  have N3 := Fr.app N1 M3
  show own_WP _ _ _ _ _ _ _ (T3.setTop (mkF m 24 #[.val (.ref sb), .val (.ref a), .val (.int zl)] []))
  refine own_aloadN (pc' := 25) X3 hx (hb hby d10_24) rfl rfl rfl ?_
  refine own_aloadN (pc' := 26) X3 hx (hb hby d10_25) rfl rfl rfl ?_
  refine own_getF (pc' := 29) X3 hx hZ hown (host := "") (Or.inl (own_w hw 83 rfl)) Via.refl e3 F3c (hb hby d10_26) rfl ?_
  intro T4 X4 e4
  refine own_aloadN (pc' := 30) X4 hx (hb hby d10_29) rfl rfl rfl ?_
  have hcg := own_cap_le (cap := cap.toInt) (mi := mi.toInt) (by omega) (by omega) (by omega)
  have hcq := own_cap_ge (cap := cap.toInt) (mi := mi.toInt)
  have f6 := (hE.keep K3)
  have f7 := (hC.keep K3 (ninS ne_a_sb nin0))
  have f8 := (hV.keep K3 (ninS ne_a_sb nin0))
  have f9 := (hA.keep K3 (ninS ne_b_sb nin0))
  refine own_callP (pc' := 33) (W := 0) (y := (⟨"java/lang/AbstractStringBuilder", "putStringAt", "(ILjava/lang/String;)V"⟩ : MethodName)) X4 hx hZ hown (own_w hw 116 rfl) (own_w hw 117 rfl) (own_w hw 118 rfl) (own_w hw 119 rfl) (own_w hw 53 rfl) (own_w hw 120 rfl) (by decide) E3q (con_ps l Z a0 hw sb cnt a _ n0 z3 G1 fm hG o3 c3 k3 cp3 cnt u3 E3q F3a F3b F3c V3 Bk3 b kb zl ws f6 f7 f8 f9 lu3 hws (by omega) ne_b_c3 g_c3 ne_sb_c3 ne_a_c3) e4 pd16 [(.int cnt), (.ref a)] [] rfl rfl rfl (Nat.le_of_eq rfl) (by decide) (by decide) (by rw [hml]; rfl) (hb hby d10_30) (by decide) (by decide) rfl ?_
  intro v5 T5 L5 X5 q5
  obtain ⟨u5, rfl, M5, K5, E5q, F5a, F5b, F5c, V5, Bk5, lu5, tu5⟩ := q5
  obtain ⟨h5, e5⟩ : ∃ z, z = T5.heap := ⟨_, rfl⟩
  rw [← e5] at K5 E5q F5a F5b F5c V5
  have e5 := e5.symm
  have KK5 : Keep h0 h5 [sb, d] := KK3.trans K5 (allS (P := fun x => x ∈ [sb, d] ∨ h0.size ≤ x) (hor3.elim (fun e => Or.inl (e ▸ List.mem_of_getElem? (i := 1) rfl)) (fun q => Or.inr (Nat.le_trans (Keep.refl h0 []).1 q))) all0)
  have N5 := Fr.app N3 M5
  show own_WP _ _ _ _ _ _ _ (T5.setTop (mkF m 33 #[.val (.ref sb), .val (.ref a), .val (.int zl)] []))
  refine own_aloadN (pc' := 34) X5 hx (hb hby d10_33) rfl rfl rfl ?_
  refine own_dup (pc' := 35) X5 hx (hb hby d10_34) rfl rfl ?_
  refine own_getF (pc' := 38) X5 hx hZ hown (host := "") (Or.inl (own_w hw 83 rfl)) Via.refl e5 F5c (hb hby d10_35) rfl ?_
  intro T10 X10 e10
  refine own_iloadN (pc' := 39) X10 hx (hb hby d10_38) rfl rfl ?_
  refine own_iadd (pc' := 40) X10 hx (hb hby d10_39) rfl ?_
  rw [← hmi0]
  refine own_putF (pc' := 43) X10 hx hZ hown (host := "") (Or.inl (own_w hw 83 rfl)) Via.refl e10 F5c E5q (Or.inl (own_w hw 84 rfl)) (own_w hw 44 rfl) (ty := .int) (by decide) rfl rfl (hb hby d10_40) rfl ?_
  intro T11 h11 X11 e11 W11
  have Fw11 := F5c.same W11
  have N11 := Fr.snoc X11 N5 g_sb
  have K11 : Keep h0 h11 [sb, d] := KK5.wr W11 (Or.inl (List.mem_of_getElem? (i := 0) rfl))
  refine own_aloadN (pc' := 44) X11 hx (hb hby d10_43) rfl rfl rfl ?_
  have f12 := (E5q.wr W11)
  have f13 := (F5a.other W11 (Or.inr (slot_ne (Or.inl (own_w hw 58 rfl)) (Or.inl (own_w hw 84 rfl)) (by decide) (t := (.array .byte)) (t' := .int) (by decide +kernel) (by decide +kernel))))
  have f14 := (F5b.other W11 (Or.inr (slot_ne (Or.inl (own_w hw 60 rfl)) (Or.inl (own_w hw 84 rfl)) (by decide) (t := .byte) (t' := .int) (by decide +kernel) (by decide +kernel))))
  have f15 := (V5.other W11 ne_c3_sb)
  refine own_retA X11 hx (fun _ _ _ _ q => q) hlk rfl hret rfl rfl (hb hby d10_44) (by decide) (by decide) ?_
  rw [e11]
  have q1 := own_nat (x := cnt) (by omega)
  have q2 := own_nat (x := cap) (by omega)
  have ht : u3.take cnt.toNatClampNeg = vs.take cnt.toNatClampNeg := by rw [← tu3, List.take_take, Nat.min_eq_left (by omega)]
  exact ⟨c3, k3, cp3, mi, u5, rfl, N11, K11, hor3, g_c3, ne_sb_c3, f12, f13, f14, Fw11, f15, Bk5, by rw [lu5]; exact lu3, by rw [← hmi]; exact hcp3, hmi, by rw [tu5, ht]⟩
theorem d9_0 : decode jdk_67_method_7_code 0 = .ok (.aload_n 0, 1) := by decide +kernel
theorem d9_1 : decode jdk_67_method_7_code 1 = .ok (.aload_n 1, 1) := by decide +kernel
theorem d9_2 : decode jdk_67_method_7_code 2 = .ok (.invokespecial 29, 3) := by decide +kernel
theorem d9_5 : decode jdk_67_method_7_code 5 = .ok (.pop, 1) := by decide +kernel
theorem d9_6 : decode jdk_67_method_7_code 6 = .ok (.aload_n 0, 1) := by decide +kernel
theorem d9_7 : decode jdk_67_method_7_code 7 = .ok (.areturn, 1) := by decide +kernel
theorem pn_9 : plainFor (⟨"java/lang/StringBuilder", "append", "(Ljava/lang/String;)Ljava/lang/StringBuilder;"⟩ : MethodName) = true := plainFor_of_name (by first | (simp [plainName, overriddenIn]; done) | decide +kernel)
theorem ef_con_ss (m : MethodId) (sb : Addr) (a : Addr) : entryFrame m #[(.ref sb), (.ref a)] 2 = mkF m 0 #[.val (.ref sb), .val (.ref a)] [] := by first | (simp [entryFrame, mkF, argsToLocals, Value.category]; done) | rfl
theorem pd17 : parseMethodDescriptor "(Ljava/lang/String;)Ljava/lang/AbstractStringBuilder;" = some ⟨[(.object "java/lang/String")], some (.object "java/lang/AbstractStringBuilder")⟩ := by decide +kernel
set_option maxRecDepth 65536 in
set_option maxHeartbeats 4000000 in
theorem con_ss (l : Launch) (Z : State) (a0 : Array Value) (hw : ∀ d ∈ tables_1, d.before a0 Z = true) (sb : Addr) (a : Addr) (h0 : Heap) (n0 : Nat) (Z0 : n0 ≤ h0.size) (G1 : Int32) (fm : Value) (hG : own_G Z G1 fm) (X00 : own_Old Z n0 h0) (d : Addr) (kd : ClassId) (cap cnt : Int32) (vs : List Value) (bE : Exa Z h0 sb "java/lang/StringBuilder") (bV : Fld Z h0 sb "java/lang/AbstractStringBuilder" "value" "[B" (.ref d)) (bC : Fld Z h0 sb "java/lang/AbstractStringBuilder" "coder" "B" (.int (0 : Int32))) (bN : Fld Z h0 sb "java/lang/AbstractStringBuilder" "count" "I" (.int cnt)) (bA : Arv Z h0 d kd .byte cap vs (.int (0 : Int32))) (hB : own_BA Z kd)(b : Addr) (kb : ClassId) (zl : Int32) (ws : List Value) (hE : Exa Z h0 a "java/lang/String") (hC : Fld Z h0 a "java/lang/String" "coder" "B" (.int (0 : Int32))) (hV : Fld Z h0 a "java/lang/String" "value" "[B" (.ref b)) (hA : Arv Z h0 b kb .byte zl ws (.int (0 : Int32))) (ne_sb_d : sb ≠ d) (ne_d_sb : d ≠ sb) (g_sb : n0 ≤ sb) (g_d : n0 ≤ d) (hcap : 0 ≤ cnt.toInt ∧ cnt.toInt ≤ cap.toInt ∧ cap.toInt ≤ 80) (hlen : vs.length = cap.toNatClampNeg) (hws : ws.length = zl.toNatClampNeg) (hzl : 0 ≤ zl.toInt ∧ zl.toInt ≤ 40) (ne_a_d : a ≠ d) (ne_b_d : b ≠ d) (ne_a_sb : a ≠ sb) (ne_b_sb : b ≠ sb) (ne_sb_a : sb ≠ a) :
    own_Con l Z (⟨"java/lang/StringBuilder", "append", "(Ljava/lang/String;)Ljava/lang/StringBuilder;"⟩ : MethodName) jdk_67_method_7_code 2 (some (.object "java/lang/StringBuilder")) ({ frames := 5, cells := 1, slots := 170, locals := 81 } : Room) #[(.ref sb), (.ref a)] h0 (fun v h L => ∃ (d' : Addr) (kd' : ClassId) (cap' cnt' : Int32) (us : List Value), v = some (.ref sb) ∧ Fr n0 L ∧ Keep h0 h [sb, d] ∧ (d' = d ∨ h0.size ≤ d') ∧ n0 ≤ d' ∧ sb ≠ d' ∧ Exa Z h sb "java/lang/StringBuilder" ∧ Fld Z h sb "java/lang/AbstractStringBuilder" "value" "[B" (.ref d') ∧ Fld Z h sb "java/lang/AbstractStringBuilder" "coder" "B" (.int (0 : Int32)) ∧ Fld Z h sb "java/lang/AbstractStringBuilder" "count" "I" (.int cnt') ∧ Arv Z h d' kd' .byte cap' us (.int (0 : Int32)) ∧ own_BA Z kd' ∧ us.length = cap'.toNatClampNeg ∧ cap'.toInt = own_cap cap.toInt (cnt.toInt + zl.toInt) ∧ cnt'.toInt = cnt.toInt + zl.toInt ∧ us.take (cnt.toNatClampNeg + zl.toNatClampNeg) = vs.take cnt.toNatClampNeg ++ ws) := by
  refine own_Con_of pn_9 ?_
  intro p e s m below meth c s₁ X0 hx hby hml hret hlk hnm hown hZ e0
  have hown : s.vm.findClass "java/lang/StringBuilder" = some m.cls := hown
  have hml : c.maxLocals = 2 := hml
  have N0 := Fr.nil n0
  show own_WP _ _ _ _ _ _ _ (s₁.setTop (entryFrame m #[(.ref sb), (.ref a)] 2))
  rw [ef_con_ss m sb a]
  refine own_aloadN (pc' := 1) X0 hx (hb hby d9_0) rfl rfl rfl ?_
  refine own_aloadN (pc' := 2) X0 hx (hb hby d9_1) rfl rfl rfl ?_
  refine own_callSup (pc' := 5) (W := 0) (y := (⟨"java/lang/AbstractStringBuilder", "append", "(Ljava/lang/String;)Ljava/lang/AbstractStringBuilder;"⟩ : MethodName)) X0 hx hZ hown (own_w hw 67 rfl) (own_w hw 68 rfl) (own_same (y := (⟨"java/lang/AbstractStringBuilder", "append", "(Ljava/lang/String;)Ljava/lang/AbstractStringBuilder;"⟩ : MethodName)) (by decide) (own_w hw 68 rfl) (own_nif (y := (⟨"java/lang/AbstractStringBuilder", "ensureCapacityInternal", "(I)V"⟩ : MethodName)) (own_w hw 88 rfl))) (own_w hw 69 rfl) (by decide) (own_w hw 53 rfl) (own_w hw 71 rfl) bE (con_as l Z a0 hw sb a _ n0 Z0 G1 fm hG X00 d kd cap cnt vs bE bV bC bN bA hB b kb zl ws hE hC hV hA ne_sb_d ne_d_sb g_sb g_d hcap hlen hws hzl ne_a_d ne_b_d ne_a_sb ne_b_sb ne_sb_a) e0 pd17 [(.ref a)] [] rfl rfl rfl (Nat.le_of_eq rfl) (by decide) (by decide) (by rw [hml]; rfl) (hb hby d9_2) (by decide) (by decide) rfl ?_
  intro v1 T1 L1 X1 q1
  obtain ⟨c1, k1, cp1, ct1, u1, rfl, M1, K1, hor1, g_c1, nsb1, E1q, F1a, F1b, F1c, V1, Bk1, lu1, hcp1, hct1, tu1⟩ := q1
  have ne_sb_c1 : sb ≠ c1 := own_ne2 ne_sb_d bE.lt hor1
  obtain ⟨h1, e1⟩ : ∃ z, z = T1.heap := ⟨_, rfl⟩
  rw [← e1] at K1 E1q F1a F1b F1c V1
  have e1 := e1.symm
  have KK1 : Keep h0 h1 [sb, d] := (Keep.refl h0 [sb, d]).trans K1 (allS (P := fun x => x ∈ [sb, d] ∨ h0.size ≤ x) (Or.inl (List.mem_of_getElem? (i := 0) rfl)) (allS (P := fun x => x ∈ [sb, d] ∨ h0.size ≤ x) (Or.inl (List.mem_of_getElem? (i := 1) rfl)) all0))
  have N1 := Fr.app N0 M1
  show own_WP _ _ _ _ _ _ _ (T1.setTop (mkF m 5 #[.val (.ref sb), .val (.ref a)] [(.ref sb)]))
  refine own_pop (pc' := 6) X1 hx (hb hby d9_5) rfl rfl ?_
  refine own_aloadN (pc' := 7) X1 hx (hb hby d9_6) rfl rfl rfl ?_
  refine own_retA X1 hx (fun _ _ _ _ q => q) hlk rfl hret rfl rfl (hb hby d9_7) (by decide) (by decide) ?_
  rw [e1]
  exact ⟨c1, k1, cp1, ct1, u1, rfl, N1, KK1, hor1, g_c1, ne_sb_c1, E1q, F1a, F1b, F1c, V1, Bk1, lu1, hcp1, hct1, tu1⟩
theorem d8_0 : decode jdk_68_method_2_code 0 = .ok (.aload_n 0, 1) := by decide +kernel
theorem d8_1 : decode jdk_68_method_2_code 1 = .ok (.invokespecial 3, 3) := by decide +kernel
theorem d8_4 : decode jdk_68_method_2_code 4 = .ok (.getstatic 18, 3) := by decide +kernel
theorem d8_7 : decode jdk_68_method_2_code 7 = .ok (.ifCond .eq 18, 3) := by decide +kernel
theorem d8_10 : decode jdk_68_method_2_code 10 = .ok (.aload_n 0, 1) := by decide +kernel
theorem d8_11 : decode jdk_68_method_2_code 11 = .ok (.iload_n 1, 1) := by decide +kernel
theorem d8_12 : decode jdk_68_method_2_code 12 = .ok (.newarray .byte, 2) := by decide +kernel
theorem d8_14 : decode jdk_68_method_2_code 14 = .ok (.putfield 15, 3) := by decide +kernel
theorem d8_17 : decode jdk_68_method_2_code 17 = .ok (.aload_n 0, 1) := by decide +kernel
theorem d8_18 : decode jdk_68_method_2_code 18 = .ok (.iconst 0, 1) := by decide +kernel
theorem d8_19 : decode jdk_68_method_2_code 19 = .ok (.putfield 22, 3) := by decide +kernel
theorem d8_22 : decode jdk_68_method_2_code 22 = .ok (.goto 16, 3) := by decide +kernel
theorem d8_38 : decode jdk_68_method_2_code 38 = .ok (.return_, 1) := by decide +kernel
theorem pn_8 : plainFor (⟨"java/lang/AbstractStringBuilder", "<init>", "(I)V"⟩ : MethodName) = true := plainFor_of_name (by first | (simp [plainName, overriddenIn]; done) | decide +kernel)
theorem ef_con_ai (m : MethodId) (sb : Addr) : entryFrame m #[(.ref sb), (.int (16 : Int32))] 2 = mkF m 0 #[.val (.ref sb), .val (.int (16 : Int32))] [] := by first | (simp [entryFrame, mkF, argsToLocals, Value.category]; done) | rfl
set_option maxRecDepth 65536 in
set_option maxHeartbeats 4000000 in
theorem con_ai (l : Launch) (Z : State) (a0 : Array Value) (hw : ∀ d ∈ tables_1, d.before a0 Z = true) (sb : Addr) (h0 : Heap) (n0 : Nat) (Z0 : n0 ≤ h0.size) (G1 : Int32) (fm : Value) (hG : own_G Z G1 fm) (X00 : own_Old Z n0 h0) (bE : Exa Z h0 sb "java/lang/StringBuilder") (bV : Fld Z h0 sb "java/lang/AbstractStringBuilder" "value" "[B" .null) (bC : Fld Z h0 sb "java/lang/AbstractStringBuilder" "coder" "B" (.int (0 : Int32))) (bN : Fld Z h0 sb "java/lang/AbstractStringBuilder" "count" "I" (.int (0 : Int32))) (g_sb : n0 ≤ sb) :
    own_Con l Z (⟨"java/lang/AbstractStringBuilder", "<init>", "(I)V"⟩ : MethodName) jdk_68_method_2_code 2 none ({ frames := 1, cells := 1, slots := 16, locals := 12 } : Room) #[(.ref sb), (.int (16 : Int32))] h0 (fun v h L => ∃ (d : Addr) (kd : ClassId), v = none ∧ Fr n0 L ∧ Keep h0 h [sb] ∧ h0.size ≤ d ∧ Exa Z h sb "java/lang/StringBuilder" ∧ Fld Z h sb "java/lang/AbstractStringBuilder" "value" "[B" (.ref d) ∧ Fld Z h sb "java/lang/AbstractStringBuilder" "coder" "B" (.int (0 : Int32)) ∧ Fld Z h sb "java/lang/AbstractStringBuilder" "count" "I" (.int (0 : Int32)) ∧ Arv Z h d kd .byte (16 : Int32) (List.replicate 16 (.int (0 : Int32))) (.int (0 : Int32)) ∧ own_BA Z kd) := by
  refine own_Con_of pn_8 ?_
  intro p e s m below meth c s₁ X0 hx hby hml hret hlk hnm hown hZ e0
  have hown : s.vm.findClass "java/lang/AbstractStringBuilder" = some m.cls := hown
  have hml : c.maxLocals = 2 := hml
  have N0 := Fr.nil n0
  show own_WP _ _ _ _ _ _ _ (s₁.setTop (entryFrame m #[(.ref sb), (.int (16 : Int32))] 2))
  rw [ef_con_ai m sb]
  refine own_aloadN (pc' := 1) X0 hx (hb hby d8_0) rfl rfl rfl ?_
  refine own_initO (pc' := 4) (W := 0) X0 hx hZ hown (own_w hw 55 rfl) (own_w hw 12 rfl) (own_w hw 13 rfl) e0 (by rw [hml]; rfl) (hb hby d8_1) (by decide) (Nat.le_of_eq rfl) (by decide) rfl ?_
  intro T1 X1 e1
  refine own_getS (pc' := 7) X1 hx hZ hown (host := "") (Or.inl (own_w hw 56 rfl)) Via.refl e1 (hG.1.ext X00.x) (hb hby d8_4) rfl ?_
  intro T2 X2 e2
  refine own_if_eq (pt := 25) (pf := 10) X2 hx (hb hby d8_7) rfl (by decide) rfl (fun hc7 => absurd hc7 (hG.2.1)) (fun hc7 => ?_)
  refine own_aloadN (pc' := 11) X2 hx (hb hby d8_10) rfl rfl rfl ?_
  refine own_iloadN (pc' := 12) X2 hx (hb hby d8_11) rfl rfl ?_
  refine own_newPB (pc' := 14) (cap := 16) X2 hx hZ (own_w hw 15 rfl) e2 (hb hby d8_12) (by decide) (by decide) (by decide) (by decide) (by decide) rfl ?_
  intro T3 h3 k3 b3 g3 X3 e3 E3 A3 Bk3
  have ne_sb_b3 : sb ≠ b3 := Nat.ne_of_lt (Nat.lt_of_lt_of_le bE.lt (Nat.le_of_eq g3.symm))
  have ne_b3_sb := ne_sb_b3.symm
  have sz_b3 : h0.size ≤ b3 := Nat.le_trans (Keep.refl h0 [sb]).1 (Nat.le_of_eq g3.symm)
  have K3 : Keep h0 h3 [sb] := (Keep.refl h0 [sb]).ext E3
  have V3 : Arv Z h3 b3 k3 .byte (16 : Int32) [(.int (0 : Int32)), (.int (0 : Int32)), (.int (0 : Int32)), (.int (0 : Int32)), (.int (0 : Int32)), (.int (0 : Int32)), (.int (0 : Int32)), (.int (0 : Int32)), (.int (0 : Int32)), (.int (0 : Int32)), (.int (0 : Int32)), (.int (0 : Int32)), (.int (0 : Int32)), (.int (0 : Int32)), (.int (0 : Int32)), (.int (0 : Int32))] (.int (0 : Int32)) := (Arv.new A3 (by decide)).pad (pad_rep [] (.int (0 : Int32)) 16)
  have f4 := (bV.ext E3)
  have f5 := (bE.ext E3)
  refine own_putF (pc' := 17) X3 hx hZ hown (host := "") (Or.inl (own_w hw 57 rfl)) Via.refl e3 f4 f5 (Or.inl (own_w hw 58 rfl)) (own_w hw 44 rfl) (ty := (.array .byte)) (by decide +kernel) rfl rfl (hb hby d8_14) rfl ?_
  intro T6 h6 X6 e6 W6
  have Fw6 := f4.same W6
  have N6 := Fr.snoc X6 N0 g_sb
  have K6 : Keep h0 h6 [sb] := K3.wr W6 (Or.inl (List.mem_of_getElem? (i := 0) rfl))
  refine own_aloadN (pc' := 18) X6 hx (hb hby d8_17) rfl rfl rfl ?_
  refine own_iconst (pc' := 19) X6 hx (0 : Int32) (hb hby d8_18) rfl rfl ?_
  have f7 := ((bC.ext E3).other W6 (Or.inr (slot_ne (Or.inl (own_w hw 60 rfl)) (Or.inl (own_w hw 58 rfl)) (by decide) (t := .byte) (t' := (.array .byte)) (by decide +kernel) (by decide +kernel))))
  have f8 := (f5.wr W6)
  refine own_putF (pc' := 22) X6 hx hZ hown (host := "") (Or.inl (own_w hw 59 rfl)) Via.refl e6 f7 f8 (Or.inl (own_w hw 60 rfl)) (own_w hw 44 rfl) (ty := .byte) (by decide) rfl rfl (hb hby d8_19) rfl ?_
  intro T9 h9 X9 e9 W9
  have Fw9 := f7.same W9
  have N9 := Fr.snoc X9 N6 g_sb
  have K9 : Keep h0 h9 [sb] := K6.wr W9 (Or.inl (List.mem_of_getElem? (i := 0) rfl))
  refine own_goto (pc' := 38) X9 hx (hb hby d8_22) (by decide) rfl ?_
  have f10 := (f8.wr W9)
  have f11 := (Fw6.other W9 (Or.inr (slot_ne (Or.inl (own_w hw 58 rfl)) (Or.inl (own_w hw 60 rfl)) (by decide) (t := (.array .byte)) (t' := .byte) (by decide +kernel) (by decide +kernel))))
  have f12 := (((bN.ext E3).other W6 (Or.inr (slot_ne (Or.inl (own_w hw 84 rfl)) (Or.inl (own_w hw 58 rfl)) (by decide) (t := .int) (t' := (.array .byte)) (by decide +kernel) (by decide +kernel)))).other W9 (Or.inr (slot_ne (Or.inl (own_w hw 84 rfl)) (Or.inl (own_w hw 60 rfl)) (by decide) (t := .int) (t' := .byte) (by decide +kernel) (by decide +kernel))))
  have f13 := ((V3.other W6 ne_b3_sb).other W9 ne_b3_sb)
  refine own_ret0 X9 hx (fun _ _ _ _ q => q) hlk hret (hb hby d8_38) (by decide) (by decide) ?_
  rw [e9]
  exact ⟨b3, k3, rfl, N9, K9, sz_b3, f10, f11, Fw9, f12, f13, Bk3⟩
theorem d7_0 : decode jdk_67_method_1_code 0 = .ok (.aload_n 0, 1) := by decide +kernel
theorem d7_1 : decode jdk_67_method_1_code 1 = .ok (.bipush 16, 2) := by decide +kernel
theorem d7_3 : decode jdk_67_method_1_code 3 = .ok (.invokespecial 1, 3) := by decide +kernel
theorem d7_6 : decode jdk_67_method_1_code 6 = .ok (.return_, 1) := by decide +kernel
theorem pn_7 : plainFor (⟨"java/lang/StringBuilder", "<init>", "()V"⟩ : MethodName) = true := plainFor_of_name (by first | (simp [plainName, overriddenIn]; done) | decide +kernel)
theorem ef_con_si (m : MethodId) (sb : Addr) : entryFrame m #[(.ref sb)] 1 = mkF m 0 #[.val (.ref sb)] [] := by first | (simp [entryFrame, mkF, argsToLocals, Value.category]; done) | rfl
set_option maxRecDepth 65536 in
set_option maxHeartbeats 4000000 in
theorem con_si (l : Launch) (Z : State) (a0 : Array Value) (hw : ∀ d ∈ tables_1, d.before a0 Z = true) (sb : Addr) (h0 : Heap) (n0 : Nat) (Z0 : n0 ≤ h0.size) (G1 : Int32) (fm : Value) (hG : own_G Z G1 fm) (X00 : own_Old Z n0 h0) (bE : Exa Z h0 sb "java/lang/StringBuilder") (bV : Fld Z h0 sb "java/lang/AbstractStringBuilder" "value" "[B" .null) (bC : Fld Z h0 sb "java/lang/AbstractStringBuilder" "coder" "B" (.int (0 : Int32))) (bN : Fld Z h0 sb "java/lang/AbstractStringBuilder" "count" "I" (.int (0 : Int32))) (g_sb : n0 ≤ sb) :
    own_Con l Z (⟨"java/lang/StringBuilder", "<init>", "()V"⟩ : MethodName) jdk_67_method_1_code 1 none ({ frames := 2, cells := 1, slots := 16, locals := 25 } : Room) #[(.ref sb)] h0 (fun v h L => ∃ (d : Addr) (kd : ClassId), v = none ∧ Fr n0 L ∧ Keep h0 h [sb] ∧ h0.size ≤ d ∧ Exa Z h sb "java/lang/StringBuilder" ∧ Fld Z h sb "java/lang/AbstractStringBuilder" "value" "[B" (.ref d) ∧ Fld Z h sb "java/lang/AbstractStringBuilder" "coder" "B" (.int (0 : Int32)) ∧ Fld Z h sb "java/lang/AbstractStringBuilder" "count" "I" (.int (0 : Int32)) ∧ Arv Z h d kd .byte (16 : Int32) (List.replicate 16 (.int (0 : Int32))) (.int (0 : Int32)) ∧ own_BA Z kd) := by
  refine own_Con_of pn_7 ?_
  intro p e s m below meth c s₁ X0 hx hby hml hret hlk hnm hown hZ e0
  have hown : s.vm.findClass "java/lang/StringBuilder" = some m.cls := hown
  have hml : c.maxLocals = 1 := hml
  have N0 := Fr.nil n0
  show own_WP _ _ _ _ _ _ _ (s₁.setTop (entryFrame m #[(.ref sb)] 1))
  rw [ef_con_si m sb]
  refine own_aloadN (pc' := 1) X0 hx (hb hby d7_0) rfl rfl rfl ?_
  refine own_bipush (pc' := 3) X0 hx (16 : Int32) (hb hby d7_1) rfl rfl ?_
  refine own_callN (pc' := 6) (W := 0) (y := (⟨"java/lang/AbstractStringBuilder", "<init>", "(I)V"⟩ : MethodName)) X0 hx hZ rfl hown (own_w hw 49 rfl) (own_w hw 50 rfl) (own_w hw 53 rfl) (own_w hw 54 rfl) (by decide) (con_ai l Z a0 hw sb _ n0 Z0 G1 fm hG X00 bE bV bC bN g_sb) e0 pd15 sb [(.int (16 : Int32))] [] rfl rfl rfl (Nat.le_of_eq rfl) (by decide) (by decide) (by rw [hml]; rfl) (hb hby d7_3) (by decide) (by decide) rfl ?_
  intro v1 T1 L1 X1 q1
  obtain ⟨c1, k1, rfl, M1, K1, s1, E1q, F1a, F1b, F1c, V1, Bk1⟩ := q1
  have sz_c1 : h0.size ≤ c1 := Nat.le_trans (Keep.refl h0 [sb]).1 s1
  obtain ⟨h1, e1⟩ : ∃ z, z = T1.heap := ⟨_, rfl⟩
  rw [← e1] at K1 E1q F1a F1b F1c V1
  have e1 := e1.symm
  have KK1 : Keep h0 h1 [sb] := (Keep.refl h0 [sb]).trans K1 (allS (P := fun x => x ∈ [sb] ∨ h0.size ≤ x) (Or.inl (List.mem_of_getElem? (i := 0) rfl)) all0)
  have N1 := Fr.app N0 M1
  show own_WP _ _ _ _ _ _ _ (T1.setTop (mkF m 6 #[.val (.ref sb)] []))
  refine own_ret0 X1 hx (fun _ _ _ _ q => q) hlk hret (hb hby d7_6) (by decide) (by decide) ?_
  rw [e1]
  exact ⟨c1, k1, rfl, N1, KK1, sz_c1, E1q, F1a, F1b, F1c, V1, Bk1⟩
theorem d24_0 : decode jdk_35_method_15_code 0 = .ok (.iconst 1, 1) := by decide +kernel
theorem d24_1 : decode jdk_35_method_15_code 1 = .ok (.istore_n 2, 1) := by decide +kernel
theorem d24_2 : decode jdk_35_method_15_code 2 = .ok (.lload_n 0, 1) := by decide +kernel
theorem d24_3 : decode jdk_35_method_15_code 3 = .ok (.lconst 0, 1) := by decide +kernel
theorem d24_4 : decode jdk_35_method_15_code 4 = .ok (.lcmp, 1) := by decide +kernel
theorem d24_5 : decode jdk_35_method_15_code 5 = .ok (.ifCond .lt 8, 3) := by decide +kernel
theorem d24_8 : decode jdk_35_method_15_code 8 = .ok (.iconst 0, 1) := by decide +kernel
theorem d24_9 : decode jdk_35_method_15_code 9 = .ok (.istore_n 2, 1) := by decide +kernel
theorem d24_10 : decode jdk_35_method_15_code 10 = .ok (.lload_n 0, 1) := by decide +kernel
theorem d24_11 : decode jdk_35_method_15_code 11 = .ok (.lneg, 1) := by decide +kernel
theorem d24_12 : decode jdk_35_method_15_code 12 = .ok (.lstore_n 0, 1) := by decide +kernel
theorem d24_13 : decode jdk_35_method_15_code 13 = .ok (.ldc2_w 140, 3) := by decide +kernel
theorem d24_16 : decode jdk_35_method_15_code 16 = .ok (.lstore_n 3, 1) := by decide +kernel
theorem d24_17 : decode jdk_35_method_15_code 17 = .ok (.iconst 1, 1) := by decide +kernel
theorem d24_18 : decode jdk_35_method_15_code 18 = .ok (.istore 5, 2) := by decide +kernel
theorem d24_20 : decode jdk_35_method_15_code 20 = .ok (.iload 5, 2) := by decide +kernel
theorem d24_22 : decode jdk_35_method_15_code 22 = .ok (.bipush 19, 2) := by decide +kernel
theorem d24_24 : decode jdk_35_method_15_code 24 = .ok (.if_icmp .ge 26, 3) := by decide +kernel
theorem d24_27 : decode jdk_35_method_15_code 27 = .ok (.lload_n 0, 1) := by decide +kernel
theorem d24_28 : decode jdk_35_method_15_code 28 = .ok (.lload_n 3, 1) := by decide +kernel
theorem d24_29 : decode jdk_35_method_15_code 29 = .ok (.lcmp, 1) := by decide +kernel
theorem d24_30 : decode jdk_35_method_15_code 30 = .ok (.ifCond .le 8, 3) := by decide +kernel
theorem d24_33 : decode jdk_35_method_15_code 33 = .ok (.iload 5, 2) := by decide +kernel
theorem d24_35 : decode jdk_35_method_15_code 35 = .ok (.iload_n 2, 1) := by decide +kernel
theorem d24_36 : decode jdk_35_method_15_code 36 = .ok (.iadd, 1) := by decide +kernel
theorem d24_37 : decode jdk_35_method_15_code 37 = .ok (.ireturn, 1) := by decide +kernel
theorem d24_38 : decode jdk_35_method_15_code 38 = .ok (.ldc2_w 53, 3) := by decide +kernel
theorem d24_41 : decode jdk_35_method_15_code 41 = .ok (.lload_n 3, 1) := by decide +kernel
theorem d24_42 : decode jdk_35_method_15_code 42 = .ok (.lmul, 1) := by decide +kernel
theorem d24_43 : decode jdk_35_method_15_code 43 = .ok (.lstore_n 3, 1) := by decide +kernel
theorem d24_44 : decode jdk_35_method_15_code 44 = .ok (.iinc 5 1, 3) := by decide +kernel
theorem d24_47 : decode jdk_35_method_15_code 47 = .ok (.goto (-27), 3) := by decide +kernel
theorem d24_50 : decode jdk_35_method_15_code 50 = .ok (.bipush 19, 2) := by decide +kernel
theorem d24_52 : decode jdk_35_method_15_code 52 = .ok (.iload_n 2, 1) := by decide +kernel
theorem d24_53 : decode jdk_35_method_15_code 53 = .ok (.iadd, 1) := by decide +kernel
theorem d24_54 : decode jdk_35_method_15_code 54 = .ok (.ireturn, 1) := by decide +kernel
theorem pn_24 : plainFor (⟨"java/lang/Long", "stringSize", "(J)I"⟩ : MethodName) = true := plainFor_of_name (by first | (simp [plainName, overriddenIn]; done) | decide +kernel)
theorem own_p10 {p q : Int64} {j : Nat} (hj : j ≤ 18 → p.toInt = -((10 ^ j : Nat) : Int)) (hq : q = (10 : Int64) * p) : j + 1 ≤ 18 → q.toInt = -((10 ^ (j + 1) : Nat) : Int) := by
  intro h
  have e := hj (by omega)
  have b : 10 ^ j ≤ 10 ^ 17 := Nat.pow_le_pow_right (by decide) (by omega)
  have b2 : 10 ^ 17 = 100000000000000000 := by decide
  have m := c_lmul 10 p
  have r := rng64 ((10 : Int64) * p)
  have e10 : (10 : Int64).toInt = 10 := rfl
  rw [e10, e] at m
  rw [hq, Nat.pow_succ]
  generalize 10 ^ j = B at *
  omega
set_option maxRecDepth 65536 in
set_option maxHeartbeats 4000000 in
theorem con_szL {p : Program} {l : Launch} {e : Env} {R : Room} {s : State} {m : MethodId} {args : Array Value} {below : List Frame} {meth : Method} {c : Code} {Z : State} {a0 : Array Value} (hw : ∀ d ∈ tables_1, d.before a0 Z = true) (hx : p.tables.exec = Jvm.exec) (hby : c.code = jdk_35_method_15_code) (hret : meth.sig.returnType = some .int) (hlk : meth.locks = false) (hown : s.vm.findClass "java/lang/Long" = some m.cls) (hZ : Z.Warmed39 s.vm) (h0 : Heap) (xx : Int64) (dd : Int32) (A : Nat) (hA : xx.toInt = -(A : Int)) (hdd : 0 ≤ dd.toInt ∧ dd.toInt ≤ 1) :
    ∀ (k : Nat) (T0 : State) (X0 : Stand p l e R s m args below meth c T0 [] 0 0) (e0 : T0.heap = h0) (j : Nat) (pp : Int64) (ii : Int32) (hi : ii.toInt = (j : Int)) (hj1 : 1 ≤ j) (hjk : j + k = 19) (hp : j ≤ 18 → pp.toInt = -((10 ^ j : Nat) : Int)) (hlo : j = 1 ∨ 10 ^ (j - 1) ≤ A), own_WP p e below (FrameEnd s) (fun v h L => ∃ z : Int32, v = some (.int z) ∧ (∃ kk : Nat, own_dgs A kk ∧ z.toInt = (kk : Int) + dd.toInt) ∧ L = [] ∧ h = h0) 0 0 (T0.setTop (mkF m 20 #[.val (.long xx), .second, .val (.int dd), .val (.long pp), .second, .val (.int ii)] [])) := by
  intro k
  induction k using Nat.strongRecOn with | _ k ih => ?_
  intro T0 X0 e0 j pp ii hi hj1 hjk hp hlo
  refine own_iload (pc' := 22) X0 hx (hb hby d24_20) rfl rfl ?_
  refine own_bipush (pc' := 24) X0 hx (19 : Int32) (hb hby d24_22) rfl rfl ?_
  refine own_icmp_ge (pt := 50) (pf := 27) X0 hx (hb hby d24_24) rfl (by decide) rfl (fun hc24 => ?_) (fun hc24 => ?_)
  · skip
    refine own_bipush (pc' := 52) X0 hx (19 : Int32) (hb hby d24_50) rfl rfl ?_
    refine own_iloadN (pc' := 53) X0 hx (hb hby d24_52) rfl rfl ?_
    refine own_iadd (pc' := 54) X0 hx (hb hby d24_53) rfl ?_
    refine own_retI X0 hx (fun _ _ _ _ q => q) hlk hret (hb hby d24_54) (by decide) (by decide) ?_
    have hge : j = 19 := by rw [Int32.lt_iff_toInt_lt] at hc24; have hc24 : ¬ ii.toInt < 19 := hc24; omega
    subst hge
    exact ⟨_, rfl, ⟨19, ⟨by decide, by have := rng64 xx; have e : (10 : Nat) ^ 19 = 10000000000000000000 := (by decide); omega, hlo⟩, by rw [own_add (z := ((19 : Int32) + dd)) rfl (by decide) (by omega)]; have e1 : (19 : Int32).toInt = 19 := rfl; omega⟩, rfl, e0⟩
  · skip
    have hlt : j ≤ 18 := by rw [Int32.lt_iff_toInt_lt] at hc24; have hc24 : ii.toInt < 19 := hc24; omega
    refine own_lloadN (pc' := 28) X0 hx (hb hby d24_27) rfl rfl ?_
    refine own_lloadN (pc' := 29) X0 hx (hb hby d24_28) rfl rfl ?_
    refine own_lcmp (pc' := 30) X0 hx (hb hby d24_29) rfl ?_
    refine own_ifl_le (pt := 38) (pf := 33) X0 hx (hb hby d24_30) rfl (by decide) rfl (fun hc30 => ?_) (fun hc30 => ?_)
    · skip
      refine own_ldc2Long (pc' := 41) X0 hx hZ hown (own_w hw 290 rfl) (hb hby d24_38) rfl ?_
      refine own_lloadN (pc' := 42) X0 hx (hb hby d24_41) rfl rfl ?_
      refine own_lmul (pc' := 43) X0 hx (hb hby d24_42) rfl ?_
      obtain ⟨v1, hv1⟩ : ∃ z : Int64, z = ((10 : Int64) * pp) := ⟨_, rfl⟩
      refine own_lstoreN (pc' := 44) (l' := #[.val (.long xx), .second, .val (.int dd), .val (.long v1), .second, .val (.int ii)]) X0 hx (hb hby d24_43) hv1 rfl rfl ?_
      obtain ⟨v2, hv2⟩ : ∃ z : Int32, z = (ii + (1 : Int32)) := ⟨_, rfl⟩
      refine own_iinc (pc' := 47) (l' := #[.val (.long xx), .second, .val (.int dd), .val (.long v1), .second, .val (.int v2)]) X0 hx (hb hby d24_44) rfl hv2 rfl rfl ?_
      refine own_goto (pc' := 20) X0 hx (hb hby d24_47) (by decide) rfl ?_
      have hc30' : ¬ pp.toInt < xx.toInt := by rw [Int64.lt_iff_toInt_lt] at hc30; exact hc30
      have hpj := hp (by omega)
      exact ih (k - 1) (by omega) T0 X0 e0 (j + 1) v1 v2 (by rw [own_add hv2 (by omega) (by decide)]; have e1 : (1 : Int32).toInt = 1 := rfl; omega) (by omega) (by omega) (own_p10 hp hv1) (Or.inr (by rw [Nat.add_sub_cancel]; omega))
    · skip
      refine own_iload (pc' := 35) X0 hx (hb hby d24_33) rfl rfl ?_
      refine own_iloadN (pc' := 36) X0 hx (hb hby d24_35) rfl rfl ?_
      refine own_iadd (pc' := 37) X0 hx (hb hby d24_36) rfl ?_
      refine own_retI X0 hx (fun _ _ _ _ q => q) hlk hret (hb hby d24_37) (by decide) (by decide) ?_
      have hc30' : pp.toInt < xx.toInt := by rw [Int64.lt_iff_toInt_lt] at hc30; exact hc30
      have hpj := hp hlt
      exact ⟨_, rfl, ⟨j, ⟨hj1, by omega, hlo⟩, by rw [own_add (z := (ii + dd)) rfl (by omega) (by omega)]; omega⟩, rfl, e0⟩
theorem ef_con_sz (m : MethodId) (c1 : Int64) : entryFrame m #[(.long c1)] 6 = mkF m 0 #[.val (.long c1), .second, .unset, .unset, .unset, .unset] [] := by first | (simp [entryFrame, mkF, argsToLocals, Value.category]; done) | rfl
set_option maxRecDepth 65536 in
set_option maxHeartbeats 4000000 in
theorem con_sz (l : Launch) (Z : State) (a0 : Array Value) (hw : ∀ d ∈ tables_1, d.before a0 Z = true) (c1 : Int64) (h0 : Heap) :
    own_Con l Z (⟨"java/lang/Long", "stringSize", "(J)I"⟩ : MethodName) jdk_35_method_15_code 6 (some .int) ({ frames := 0, cells := 0, slots := 0, locals := 0 } : Room) #[(.long c1)] h0 (fun v h L => ∃ z : Int32, v = some (.int z) ∧ (∃ kk : Nat, own_dgs c1.toInt.natAbs kk ∧ z.toInt = (kk : Int) + (if c1.toInt < 0 then 1 else 0)) ∧ L = [] ∧ h = h0) := by
  refine own_Con_of pn_24 ?_
  intro p e s m below meth c s₁ X0 hx hby hml hret hlk hnm hown hZ e0
  have hown : s.vm.findClass "java/lang/Long" = some m.cls := hown
  have hml : c.maxLocals = 6 := hml
  show own_WP _ _ _ _ _ _ _ (s₁.setTop (entryFrame m #[(.long c1)] 6))
  rw [ef_con_sz m c1]
  refine own_iconst (pc' := 1) X0 hx (1 : Int32) (hb hby d24_0) rfl rfl ?_
  refine own_istoreN (pc' := 2) (l' := #[.val (.long c1), .second, .val (.int (1 : Int32)), .unset, .unset, .unset]) X0 hx (hb hby d24_1) rfl rfl rfl ?_
  refine own_lloadN (pc' := 3) X0 hx (hb hby d24_2) rfl rfl ?_
  refine own_lconst0 (pc' := 4) X0 hx (hb hby d24_3) rfl ?_
  refine own_lcmp (pc' := 5) X0 hx (hb hby d24_4) rfl ?_
  refine own_ifl_lt (pt := 13) (pf := 8) X0 hx (hb hby d24_5) rfl (by decide) rfl (fun hc5 => ?_) (fun hc5 => ?_)
  · skip
    refine own_ldc2Long (pc' := 16) X0 hx hZ hown (own_w hw 146 rfl) (hb hby d24_13) rfl ?_
    refine own_lstoreN (pc' := 17) (l' := #[.val (.long c1), .second, .val (.int (1 : Int32)), .val (.long (-10 : Int64)), .second, .unset]) X0 hx (hb hby d24_16) rfl rfl rfl ?_
    refine own_iconst (pc' := 18) X0 hx (1 : Int32) (hb hby d24_17) rfl rfl ?_
    refine own_istore (pc' := 20) (l' := #[.val (.long c1), .second, .val (.int (1 : Int32)), .val (.long (-10 : Int64)), .second, .val (.int (1 : Int32))]) X0 hx (hb hby d24_18) rfl rfl rfl ?_
    have hc5' : c1.toInt < 0 := by rw [Int64.lt_iff_toInt_lt] at hc5; exact hc5
    rw [show (if c1.toInt < 0 then (1 : Int) else 0) = (1 : Int32).toInt by rw [if_pos hc5']; rfl]
    exact con_szL hw hx hby hret hlk hown hZ h0 c1 (1 : Int32) _ (by omega) (by decide) 18 _ X0 e0 1 _ 1 rfl (by decide) (by decide) (fun _ => rfl) (Or.inl rfl)
  · skip
    refine own_iconst (pc' := 9) X0 hx (0 : Int32) (hb hby d24_8) rfl rfl ?_
    refine own_istoreN (pc' := 10) (l' := #[.val (.long c1), .second, .val (.int (0 : Int32)), .unset, .unset, .unset]) X0 hx (hb hby d24_9) rfl rfl rfl ?_
    refine own_lloadN (pc' := 11) X0 hx (hb hby d24_10) rfl rfl ?_
    refine own_lneg (pc' := 12) X0 hx (hb hby d24_11) rfl ?_
    obtain ⟨v1, hv1⟩ : ∃ z : Int64, z = (-c1) := ⟨_, rfl⟩
    refine own_lstoreN (pc' := 13) (l' := #[.val (.long v1), .second, .val (.int (0 : Int32)), .unset, .unset, .unset]) X0 hx (hb hby d24_12) hv1 rfl rfl ?_
    refine own_ldc2Long (pc' := 16) X0 hx hZ hown (own_w hw 146 rfl) (hb hby d24_13) rfl ?_
    refine own_lstoreN (pc' := 17) (l' := #[.val (.long v1), .second, .val (.int (0 : Int32)), .val (.long (-10 : Int64)), .second, .unset]) X0 hx (hb hby d24_16) rfl rfl rfl ?_
    refine own_iconst (pc' := 18) X0 hx (1 : Int32) (hb hby d24_17) rfl rfl ?_
    refine own_istore (pc' := 20) (l' := #[.val (.long v1), .second, .val (.int (0 : Int32)), .val (.long (-10 : Int64)), .second, .val (.int (1 : Int32))]) X0 hx (hb hby d24_18) rfl rfl rfl ?_
    have hc5' : ¬ c1.toInt < 0 := by rw [Int64.lt_iff_toInt_lt] at hc5; exact hc5
    rw [show (if c1.toInt < 0 then (1 : Int) else 0) = (0 : Int32).toInt by rw [if_neg hc5']; rfl]
    exact con_szL hw hx hby hret hlk hown hZ h0 v1 (0 : Int32) _ (by rw [own_negJ hv1 (by omega)]; omega) (by decide) 18 _ X0 e0 1 _ 1 rfl (by decide) (by decide) (fun _ => rfl) (Or.inl rfl)
theorem d26_0 : decode jdk_35_method_14_code 0 = .ok (.iload_n 2, 1) := by decide +kernel
theorem d26_1 : decode jdk_35_method_14_code 1 = .ok (.istore 7, 2) := by decide +kernel
theorem d26_3 : decode jdk_35_method_14_code 3 = .ok (.lload_n 0, 1) := by decide +kernel
theorem d26_4 : decode jdk_35_method_14_code 4 = .ok (.lconst 0, 1) := by decide +kernel
theorem d26_5 : decode jdk_35_method_14_code 5 = .ok (.lcmp, 1) := by decide +kernel
theorem d26_6 : decode jdk_35_method_14_code 6 = .ok (.ifCond .ge 7, 3) := by decide +kernel
theorem d26_9 : decode jdk_35_method_14_code 9 = .ok (.iconst 1, 1) := by decide +kernel
theorem d26_10 : decode jdk_35_method_14_code 10 = .ok (.goto 4, 3) := by decide +kernel
theorem d26_13 : decode jdk_35_method_14_code 13 = .ok (.iconst 0, 1) := by decide +kernel
theorem d26_14 : decode jdk_35_method_14_code 14 = .ok (.istore 8, 2) := by decide +kernel
theorem d26_16 : decode jdk_35_method_14_code 16 = .ok (.iload 8, 2) := by decide +kernel
theorem d26_18 : decode jdk_35_method_14_code 18 = .ok (.ifCond .ne 6, 3) := by decide +kernel
theorem d26_21 : decode jdk_35_method_14_code 21 = .ok (.lload_n 0, 1) := by decide +kernel
theorem d26_22 : decode jdk_35_method_14_code 22 = .ok (.lneg, 1) := by decide +kernel
theorem d26_23 : decode jdk_35_method_14_code 23 = .ok (.lstore_n 0, 1) := by decide +kernel
theorem d26_24 : decode jdk_35_method_14_code 24 = .ok (.lload_n 0, 1) := by decide +kernel
theorem d26_25 : decode jdk_35_method_14_code 25 = .ok (.ldc2_w 129, 3) := by decide +kernel
theorem d26_28 : decode jdk_35_method_14_code 28 = .ok (.lcmp, 1) := by decide +kernel
theorem d26_29 : decode jdk_35_method_14_code 29 = .ok (.ifCond .gt 53, 3) := by decide +kernel
theorem d26_32 : decode jdk_35_method_14_code 32 = .ok (.lload_n 0, 1) := by decide +kernel
theorem d26_33 : decode jdk_35_method_14_code 33 = .ok (.ldc2_w 131, 3) := by decide +kernel
theorem d26_36 : decode jdk_35_method_14_code 36 = .ok (.ldiv, 1) := by decide +kernel
theorem d26_37 : decode jdk_35_method_14_code 37 = .ok (.lstore 4, 2) := by decide +kernel
theorem d26_39 : decode jdk_35_method_14_code 39 = .ok (.lload 4, 2) := by decide +kernel
theorem d26_41 : decode jdk_35_method_14_code 41 = .ok (.ldc2_w 131, 3) := by decide +kernel
theorem d26_44 : decode jdk_35_method_14_code 44 = .ok (.lmul, 1) := by decide +kernel
theorem d26_45 : decode jdk_35_method_14_code 45 = .ok (.lload_n 0, 1) := by decide +kernel
theorem d26_46 : decode jdk_35_method_14_code 46 = .ok (.lsub, 1) := by decide +kernel
theorem d26_47 : decode jdk_35_method_14_code 47 = .ok (.l2i, 1) := by decide +kernel
theorem d26_48 : decode jdk_35_method_14_code 48 = .ok (.istore 6, 2) := by decide +kernel
theorem d26_50 : decode jdk_35_method_14_code 50 = .ok (.lload 4, 2) := by decide +kernel
theorem d26_52 : decode jdk_35_method_14_code 52 = .ok (.lstore_n 0, 1) := by decide +kernel
theorem d26_53 : decode jdk_35_method_14_code 53 = .ok (.aload_n 3, 1) := by decide +kernel
theorem d26_54 : decode jdk_35_method_14_code 54 = .ok (.iinc 7 (-1), 3) := by decide +kernel
theorem d26_57 : decode jdk_35_method_14_code 57 = .ok (.iload 7, 2) := by decide +kernel
theorem d26_59 : decode jdk_35_method_14_code 59 = .ok (.getstatic 133, 3) := by decide +kernel
theorem d26_62 : decode jdk_35_method_14_code 62 = .ok (.iload 6, 2) := by decide +kernel
theorem d26_64 : decode jdk_35_method_14_code 64 = .ok (.baload, 1) := by decide +kernel
theorem d26_65 : decode jdk_35_method_14_code 65 = .ok (.bastore, 1) := by decide +kernel
theorem d26_66 : decode jdk_35_method_14_code 66 = .ok (.aload_n 3, 1) := by decide +kernel
theorem d26_67 : decode jdk_35_method_14_code 67 = .ok (.iinc 7 (-1), 3) := by decide +kernel
theorem d26_70 : decode jdk_35_method_14_code 70 = .ok (.iload 7, 2) := by decide +kernel
theorem d26_72 : decode jdk_35_method_14_code 72 = .ok (.getstatic 137, 3) := by decide +kernel
theorem d26_75 : decode jdk_35_method_14_code 75 = .ok (.iload 6, 2) := by decide +kernel
theorem d26_77 : decode jdk_35_method_14_code 77 = .ok (.baload, 1) := by decide +kernel
theorem d26_78 : decode jdk_35_method_14_code 78 = .ok (.bastore, 1) := by decide +kernel
theorem d26_79 : decode jdk_35_method_14_code 79 = .ok (.goto (-55), 3) := by decide +kernel
theorem d26_82 : decode jdk_35_method_14_code 82 = .ok (.lload_n 0, 1) := by decide +kernel
theorem d26_83 : decode jdk_35_method_14_code 83 = .ok (.l2i, 1) := by decide +kernel
theorem d26_84 : decode jdk_35_method_14_code 84 = .ok (.istore 10, 2) := by decide +kernel
theorem d26_86 : decode jdk_35_method_14_code 86 = .ok (.iload 10, 2) := by decide +kernel
theorem d26_88 : decode jdk_35_method_14_code 88 = .ok (.bipush (-100), 2) := by decide +kernel
theorem d26_90 : decode jdk_35_method_14_code 90 = .ok (.if_icmp .gt 53, 3) := by decide +kernel
theorem d26_93 : decode jdk_35_method_14_code 93 = .ok (.iload 10, 2) := by decide +kernel
theorem d26_95 : decode jdk_35_method_14_code 95 = .ok (.bipush 100, 2) := by decide +kernel
theorem d26_97 : decode jdk_35_method_14_code 97 = .ok (.idiv, 1) := by decide +kernel
theorem d26_98 : decode jdk_35_method_14_code 98 = .ok (.istore 9, 2) := by decide +kernel
theorem d26_100 : decode jdk_35_method_14_code 100 = .ok (.iload 9, 2) := by decide +kernel
theorem d26_102 : decode jdk_35_method_14_code 102 = .ok (.bipush 100, 2) := by decide +kernel
theorem d26_104 : decode jdk_35_method_14_code 104 = .ok (.imul, 1) := by decide +kernel
theorem d26_105 : decode jdk_35_method_14_code 105 = .ok (.iload 10, 2) := by decide +kernel
theorem d26_107 : decode jdk_35_method_14_code 107 = .ok (.isub, 1) := by decide +kernel
theorem d26_108 : decode jdk_35_method_14_code 108 = .ok (.istore 6, 2) := by decide +kernel
theorem d26_110 : decode jdk_35_method_14_code 110 = .ok (.iload 9, 2) := by decide +kernel
theorem d26_112 : decode jdk_35_method_14_code 112 = .ok (.istore 10, 2) := by decide +kernel
theorem d26_114 : decode jdk_35_method_14_code 114 = .ok (.aload_n 3, 1) := by decide +kernel
theorem d26_115 : decode jdk_35_method_14_code 115 = .ok (.iinc 7 (-1), 3) := by decide +kernel
theorem d26_118 : decode jdk_35_method_14_code 118 = .ok (.iload 7, 2) := by decide +kernel
theorem d26_120 : decode jdk_35_method_14_code 120 = .ok (.getstatic 133, 3) := by decide +kernel
theorem d26_123 : decode jdk_35_method_14_code 123 = .ok (.iload 6, 2) := by decide +kernel
theorem d26_125 : decode jdk_35_method_14_code 125 = .ok (.baload, 1) := by decide +kernel
theorem d26_126 : decode jdk_35_method_14_code 126 = .ok (.bastore, 1) := by decide +kernel
theorem d26_127 : decode jdk_35_method_14_code 127 = .ok (.aload_n 3, 1) := by decide +kernel
theorem d26_128 : decode jdk_35_method_14_code 128 = .ok (.iinc 7 (-1), 3) := by decide +kernel
theorem d26_131 : decode jdk_35_method_14_code 131 = .ok (.iload 7, 2) := by decide +kernel
theorem d26_133 : decode jdk_35_method_14_code 133 = .ok (.getstatic 137, 3) := by decide +kernel
theorem d26_136 : decode jdk_35_method_14_code 136 = .ok (.iload 6, 2) := by decide +kernel
theorem d26_138 : decode jdk_35_method_14_code 138 = .ok (.baload, 1) := by decide +kernel
theorem d26_139 : decode jdk_35_method_14_code 139 = .ok (.bastore, 1) := by decide +kernel
theorem d26_140 : decode jdk_35_method_14_code 140 = .ok (.goto (-54), 3) := by decide +kernel
theorem d26_143 : decode jdk_35_method_14_code 143 = .ok (.aload_n 3, 1) := by decide +kernel
theorem d26_144 : decode jdk_35_method_14_code 144 = .ok (.iinc 7 (-1), 3) := by decide +kernel
theorem d26_147 : decode jdk_35_method_14_code 147 = .ok (.iload 7, 2) := by decide +kernel
theorem d26_149 : decode jdk_35_method_14_code 149 = .ok (.getstatic 133, 3) := by decide +kernel
theorem d26_152 : decode jdk_35_method_14_code 152 = .ok (.iload 10, 2) := by decide +kernel
theorem d26_154 : decode jdk_35_method_14_code 154 = .ok (.ineg, 1) := by decide +kernel
theorem d26_155 : decode jdk_35_method_14_code 155 = .ok (.baload, 1) := by decide +kernel
theorem d26_156 : decode jdk_35_method_14_code 156 = .ok (.bastore, 1) := by decide +kernel
theorem d26_157 : decode jdk_35_method_14_code 157 = .ok (.iload 10, 2) := by decide +kernel
theorem d26_159 : decode jdk_35_method_14_code 159 = .ok (.bipush (-9), 2) := by decide +kernel
theorem d26_161 : decode jdk_35_method_14_code 161 = .ok (.if_icmp .ge 17, 3) := by decide +kernel
theorem d26_164 : decode jdk_35_method_14_code 164 = .ok (.aload_n 3, 1) := by decide +kernel
theorem d26_165 : decode jdk_35_method_14_code 165 = .ok (.iinc 7 (-1), 3) := by decide +kernel
theorem d26_168 : decode jdk_35_method_14_code 168 = .ok (.iload 7, 2) := by decide +kernel
theorem d26_170 : decode jdk_35_method_14_code 170 = .ok (.getstatic 137, 3) := by decide +kernel
theorem d26_173 : decode jdk_35_method_14_code 173 = .ok (.iload 10, 2) := by decide +kernel
theorem d26_175 : decode jdk_35_method_14_code 175 = .ok (.ineg, 1) := by decide +kernel
theorem d26_176 : decode jdk_35_method_14_code 176 = .ok (.baload, 1) := by decide +kernel
theorem d26_177 : decode jdk_35_method_14_code 177 = .ok (.bastore, 1) := by decide +kernel
theorem d26_178 : decode jdk_35_method_14_code 178 = .ok (.iload 8, 2) := by decide +kernel
theorem d26_180 : decode jdk_35_method_14_code 180 = .ok (.ifCond .eq 12, 3) := by decide +kernel
theorem d26_183 : decode jdk_35_method_14_code 183 = .ok (.aload_n 3, 1) := by decide +kernel
theorem d26_184 : decode jdk_35_method_14_code 184 = .ok (.iinc 7 (-1), 3) := by decide +kernel
theorem d26_187 : decode jdk_35_method_14_code 187 = .ok (.iload 7, 2) := by decide +kernel
theorem d26_189 : decode jdk_35_method_14_code 189 = .ok (.bipush 45, 2) := by decide +kernel
theorem d26_191 : decode jdk_35_method_14_code 191 = .ok (.bastore, 1) := by decide +kernel
theorem d26_192 : decode jdk_35_method_14_code 192 = .ok (.iload 7, 2) := by decide +kernel
theorem d26_194 : decode jdk_35_method_14_code 194 = .ok (.ireturn, 1) := by decide +kernel
theorem pn_26 : plainFor (⟨"java/lang/Long", "getChars", "(JI[B)I"⟩ : MethodName) = true := plainFor_of_name (by first | (simp [plainName, overriddenIn]; done) | decide +kernel)
def own_dig (A t : Nat) : Int32 := Int32.ofNat (48 + A / 10 ^ t % 10)
def own_gi (A ix : Nat) (vs us : List Value) (ps y j : Nat) : Prop :=
  us.length = vs.length ∧ A / 10 ^ j = y ∧ ps + j = ix ∧ ix ≤ vs.length ∧ (∀ t, t < j → us[ix - 1 - t]? = some (.int (own_dig A t))) ∧ us.take ps = vs.take ps ∧ (j = 0 ∨ 1 ≤ y)
theorem own_gi_start {A ix : Nat} {vs : List Value} (h : ix ≤ vs.length) : own_gi A ix vs vs ix A 0 :=
  ⟨rfl, by simp, by omega, h, fun t ht => absurd ht (Nat.not_lt_zero _), rfl, Or.inl rfl⟩
/-- one digit -/
theorem own_gi_step {A ix : Nat} {vs us : List Value} {ps y j : Nat} (h : us.length = vs.length ∧ A / 10 ^ j = y ∧ ps + j = ix ∧ ix ≤ vs.length ∧ (∀ t, t < j → us[ix - 1 - t]? = some (.int (own_dig A t))) ∧ us.take ps = vs.take ps) (hp : 1 ≤ ps) {q : Nat} (hq : q + 1 = ps) {d : Int32} (hd : d = Int32.ofNat (48 + y % 10)) :
    (us.set q (.int d)).length = vs.length ∧ A / 10 ^ (j + 1) = y / 10 ∧ q + (j + 1) = ix ∧ ix ≤ vs.length ∧ (∀ t, t < j + 1 → (us.set q (.int d))[ix - 1 - t]? = some (.int (own_dig A t))) ∧ (us.set q (.int d)).take q = vs.take q := by
  obtain ⟨h1, h2, h3, h4, h5, h6⟩ := h
  refine ⟨by simp [h1], ?_, by omega, h4, ?_, ?_⟩
  · rw [Nat.pow_succ, ← Nat.div_div_eq_div_mul, h2]
  · intro t ht
    by_cases e : t = j
    · subst e
      have e2 : ix - 1 - t = q := by omega
      rw [e2, List.getElem?_set_self (by omega), hd, own_dig, h2]
    · rw [List.getElem?_set_ne (by omega)]
      exact h5 t (by omega)
  · rw [List.take_set_of_le (Nat.le_refl _)]
    have e3 := congrArg (List.take q) h6
    rw [List.take_take, List.take_take, Nat.min_eq_left (by omega)] at e3
    exact e3
theorem own_room {A j k y e : Nat} (hk : own_dgs A k) (h : A / 10 ^ j = y) (hy : 10 ^ e ≤ y) : j + e < k := by
  have q : 10 ^ e * 10 ^ j ≤ A := (Nat.le_div_iff_mul_le (Nat.pow_pos (by decide))).mp (h ▸ hy)
  rw [← Nat.pow_add] at q
  have r : 10 ^ (e + j) < 10 ^ k := Nat.lt_of_le_of_lt q hk.2.1
  have s := (Nat.pow_lt_pow_iff_right (by decide : 1 < 10)).mp r
  omega
theorem own_dgs_end {A j : Nat} (h : A / 10 ^ (j + 1) = 0) (h2 : j = 0 ∨ 1 ≤ A / 10 ^ j) : own_dgs A (j + 1) := by
  refine ⟨by omega, ?_, ?_⟩
  · rcases Nat.lt_or_ge A (10 ^ (j + 1)) with q | q
    · exact q
    · have r : 1 ≤ A / 10 ^ (j + 1) := (Nat.le_div_iff_mul_le (Nat.pow_pos (by decide))).mpr (by omega)
      omega
  · rcases h2 with rfl | h2
    · exact Or.inl rfl
    · right
      have r := (Nat.le_div_iff_mul_le (Nat.pow_pos (by decide))).mp h2
      simpa using r
def own_out (A kk ix : Nat) (ng : Int32) (vs us : List Value) : Prop :=
  us.length = vs.length ∧ (∀ t, t < kk → us[ix - 1 - t]? = some (.int (own_dig A t))) ∧ (ng = 1 → us[ix - 1 - kk]? = some (.int 45)) ∧ us.take (ix - kk - ng.toNatClampNeg) = vs.take (ix - kk - ng.toNatClampNeg)
def own_ones : List Value := (List.range 100).map fun i => .int (Int32.ofNat (48 + i % 10))
def own_tens : List Value := (List.range 100).map fun i => .int (Int32.ofNat (48 + i / 10))
def own_D (Z : State) (d1 : Addr) (ko : ClassId) (d2 : Addr) (kt : ClassId) : Prop :=
  Sta Z Z.heap "java/lang/Integer" "DigitOnes" "[B" (.ref d1) ∧ Arv Z Z.heap d1 ko .byte 100 own_ones (.int 0) ∧ Sta Z Z.heap "java/lang/Integer" "DigitTens" "[B" (.ref d2) ∧ Arv Z Z.heap d2 kt .byte 100 own_tens (.int 0)
theorem own_ones_at {r : Int32} {y : Nat} (h : r.toInt = (y : Int)) (hy : y < 100) : (¬ r < 0 ∧ r < 100) ∧ own_ones.getD r.toNatClampNeg (.int 0) = .int (Int32.ofNat (48 + y % 10)) := by
  have q : (r.toNatClampNeg : Int) = r.toInt := by
    have q := nat_of (j := r) (by rw [Int32.lt_iff_toInt_lt]; show ¬ r.toInt < 0; omega)
    omega
  have e : r.toNatClampNeg = y := by omega
  refine ⟨⟨by rw [Int32.lt_iff_toInt_lt]; show ¬ r.toInt < 0; omega, by rw [Int32.lt_iff_toInt_lt]; show r.toInt < 100; omega⟩, ?_⟩
  rw [e]; simp [own_ones, hy]
theorem own_tens_at {r : Int32} {y : Nat} (h : r.toInt = (y : Int)) (hy : y < 100) : (¬ r < 0 ∧ r < 100) ∧ own_tens.getD r.toNatClampNeg (.int 0) = .int (Int32.ofNat (48 + y / 10)) := by
  have q : (r.toNatClampNeg : Int) = r.toInt := by
    have q := nat_of (j := r) (by rw [Int32.lt_iff_toInt_lt]; show ¬ r.toInt < 0; omega)
    omega
  have e : r.toNatClampNeg = y := by omega
  refine ⟨⟨by rw [Int32.lt_iff_toInt_lt]; show ¬ r.toInt < 0; omega, by rw [Int32.lt_iff_toInt_lt]; show r.toInt < 100; omega⟩, ?_⟩
  rw [e]; simp [own_tens, hy]
theorem own_dnar {n : Nat} (h : n < 10) : nar .byte (Int32.ofNat (48 + n)) = Int32.ofNat (48 + n) := by
  have : n = 0 ∨ n = 1 ∨ n = 2 ∨ n = 3 ∨ n = 4 ∨ n = 5 ∨ n = 6 ∨ n = 7 ∨ n = 8 ∨ n = 9 := by omega
  rcases this with rfl | rfl | rfl | rfl | rfl | rfl | rfl | rfl | rfl | rfl <;> rfl
/-- the loops' division: x = -y, q = x / 100, r = q * 100 - x -/
theorem own_d100I {x q r : Int32} {y : Nat} (hx : x.toInt = -(y : Int)) (hq : q = x / 100) (hr : r = q * 100 - x) : q.toInt = -((y / 100 : Nat) : Int) ∧ r.toInt = ((y % 100 : Nat) : Int) := by
  have a := c_idiv x 100 100 (by decide) (by decide)
  have b := rng32 x
  have hq2 : q.toInt = -((y / 100 : Nat) : Int) := by rw [hq]; omega
  have c1 := c_imul q 100
  have c2 := rng32 (q * 100)
  have c3 := c_isub (q * 100) x
  have c4 := rng32 (q * 100 - x)
  have e : (100 : Int32).toInt = 100 := rfl
  rw [e] at c1
  exact ⟨hq2, by rw [hr]; omega⟩
theorem own_d100J {x q : Int64} {r : Int32} {y : Nat} (hx : x.toInt = -(y : Int)) (hq : q = x / 100) (hr : r = (q * 100 - x).toInt32) : q.toInt = -((y / 100 : Nat) : Int) ∧ r.toInt = ((y % 100 : Nat) : Int) := by
  have a := c_ldiv x 100 100 (by decide) (by decide)
  have b := rng64 x
  have hq2 : q.toInt = -((y / 100 : Nat) : Int) := by rw [hq]; omega
  have c1 := c_lmul q 100
  have c2 := rng64 (q * 100)
  have c3 := c_lsub (q * 100) x
  have c4 := rng64 (q * 100 - x)
  have e : (100 : Int64).toInt = 100 := rfl
  rw [e] at c1
  have c5 : (q * 100 - x).toInt = ((y % 100 : Nat) : Int) := by omega
  have c6 := c_l2i (q * 100 - x)
  have c7 := rng32 (q * 100 - x).toInt32
  exact ⟨hq2, by rw [hr]; omega⟩
theorem own_out0 {A ix : Nat} {ng : Int32} {vs us : List Value} {q y j kk : Nat} (g : us.length = vs.length ∧ A / 10 ^ j = y ∧ q + j = ix ∧ ix ≤ vs.length ∧ (∀ t, t < j → us[ix - 1 - t]? = some (.int (own_dig A t))) ∧ us.take q = vs.take q) (hk : kk = j) (hn : ng = 0) : own_out A kk ix ng vs us := by
  subst hk hn
  obtain ⟨g1, g2, g3, g4, g5, g6⟩ := g
  refine ⟨g1, g5, fun e => absurd e (by decide), ?_⟩
  have e : ix - kk - Int32.toNatClampNeg 0 = q := by show ix - kk - 0 = q; omega
  rw [e]; exact g6
theorem own_out1 {A ix : Nat} {ng : Int32} {vs us : List Value} {q y j kk r : Nat} (g : us.length = vs.length ∧ A / 10 ^ j = y ∧ q + j = ix ∧ ix ≤ vs.length ∧ (∀ t, t < j → us[ix - 1 - t]? = some (.int (own_dig A t))) ∧ us.take q = vs.take q) (hk : kk = j) (hn : ng = 1) (hr : r + 1 = q) : own_out A kk ix ng vs (us.set r (.int (nar .byte (45 : Int32)))) := by
  subst hk hn
  obtain ⟨g1, g2, g3, g4, g5, g6⟩ := g
  have e0 : nar .byte (45 : Int32) = 45 := by decide
  rw [e0]
  refine ⟨by simp [g1], ?_, ?_, ?_⟩
  · intro t ht
    rw [List.getElem?_set_ne (by omega)]
    exact g5 t ht
  · intro _
    have e : ix - 1 - kk = r := by omega
    rw [e, List.getElem?_set_self (by omega)]
  · have e : ix - kk - Int32.toNatClampNeg 1 = r := by show ix - kk - 1 = r; omega
    rw [e, List.take_set_of_le (Nat.le_refl _)]
    have e3 := congrArg (List.take r) g6
    rw [List.take_take, List.take_take, Nat.min_eq_left (by omega)] at e3
    exact e3
def own_num (A kk : Nat) (ng : Int32) : List Value := (if ng = 1 then [.int (45 : Int32)] else []) ++ (List.range kk).map fun i => .int (own_dig A (kk - 1 - i))
theorem own_num_len {A kk : Nat} {ng : Int32} (h : ng = 0 ∨ ng = 1) : (own_num A kk ng).length = kk + ng.toNatClampNeg := by
  rcases h with rfl | rfl
  · simp [own_num]
  · simp only [own_num, if_pos rfl, List.length_append, List.length_cons, List.length_nil, List.length_map, List.length_range]; show 0 + 1 + kk = kk + 1; omega
theorem own_digs {A kk ix : Nat} {us : List Value} (h : ∀ t, t < kk → us[ix - 1 - t]? = some (.int (own_dig A t))) {c : Nat} (hc : c + kk = ix) : (us.take ix).drop c = (List.range kk).map fun i => .int (own_dig A (kk - 1 - i)) := by
  apply List.ext_getElem?
  intro i
  rw [List.getElem?_drop, List.getElem?_take, List.getElem?_map]
  by_cases hi : i < kk
  · have e : c + i = ix - 1 - (kk - 1 - i) := by omega
    rw [if_pos (by omega), e, h _ (by omega), List.getElem?_range hi]
    rfl
  · rw [if_neg (by omega), List.getElem?_eq_none (by rw [List.length_range]; omega)]
    rfl
theorem own_out_take {A kk ix cn : Nat} {ng : Int32} {vs us : List Value} (h : own_out A kk ix ng vs us) (hn : ng = 0 ∨ ng = 1) (hx : ix = cn + kk + ng.toNatClampNeg) (hl : ix ≤ vs.length) : us.take ix = vs.take cn ++ own_num A kk ng := by
  obtain ⟨h1, h2, h3, h4⟩ := h
  have e : ix - kk - ng.toNatClampNeg = cn := by omega
  rw [e] at h4
  have hd := own_digs h2 (c := cn + ng.toNatClampNeg) (by omega)
  rw [own_num, ← hd, ← h4]
  rcases hn with rfl | rfl
  · have e0 : Int32.toNatClampNeg 0 = 0 := rfl
    rw [if_neg (by decide), List.nil_append, e0]
    have q := (List.take_append_drop cn (us.take ix)).symm
    rw [List.take_take, Nat.min_eq_left (by omega)] at q
    exact q
  · have e0 : Int32.toNatClampNeg 1 = 1 := rfl
    rw [e0] at hx hd ⊢
    rw [if_pos rfl, ← List.append_assoc]
    have q := (List.take_append_drop (cn + 1) (us.take ix)).symm
    rw [List.take_take, Nat.min_eq_left (by omega)] at q
    have e3 : us.take (cn + 1) = us.take cn ++ [.int (45 : Int32)] := by
      have e4 : ix - 1 - kk = cn := by omega
      have r := h3 rfl
      rw [e4] at r
      rw [List.take_add_one, r]
      rfl
    rw [e3] at q
    exact q
theorem own_dgs_le {a k : Nat} (h : own_dgs a k) (ha : a ≤ 9223372036854775808) : k ≤ 19 := by
  rcases h.2.2 with q | q
  · omega
  · have r : 10 ^ (k - 1) < 10 ^ 19 := Nat.lt_of_le_of_lt q (Nat.lt_of_le_of_lt ha (by decide))
    have s := (Nat.pow_lt_pow_iff_right (by decide : 1 < 10)).mp r
    omega

def own_s4 : Option Int64 → Slot | none => .unset | some v => .val (.long v)
def own_s5 : Option Int64 → Slot | none => .unset | some _ => .second
def own_s6 : Option Int32 → Slot | none => .unset | some v => .val (.int v)

set_option maxRecDepth 65536 in
set_option maxHeartbeats 4000000 in
theorem gcT {p : Program} {l : Launch} {e : Env} {R : Room} {s : State} {m : MethodId} {args : Array Value} {below : List Frame} {meth : Method} {c : Code} {Z : State} {a0 : Array Value} (hw : ∀ d ∈ tables_1, d.before a0 Z = true) (hx : p.tables.exec = Jvm.exec) (hby : c.code = jdk_35_method_14_code) (hml : c.maxLocals = 11) (hret : meth.sig.returnType = some .int) (hlk : meth.locks = false) (hown : s.vm.findClass "java/lang/Long" = some m.cls) (hZ : Z.Warmed39 s.vm) (n0 : Nat) (h0 : Heap) (d : Addr) (kd : ClassId) (cap : Int32) (vs : List Value) (A kk : Nat) (ix ng : Int32) (da db : Addr) (ko kt : ClassId) (hD : own_D Z da ko db kt) (hkk : own_dgs A kk) (g_d : n0 ≤ d) (hng : ng = 0 ∨ ng = 1) (hix : 0 ≤ ix.toInt ∧ ix.toInt ≤ cap.toInt ∧ cap.toInt ≤ 1000 ∧ (kk : Int) + ng.toInt ≤ ix.toInt) (hlen : vs.length = cap.toNatClampNeg) (xl : Int64) (o4 : Option Int64) (o6 o9 : Option Int32) :
    ∀ (yy : Nat) (T0 : State) (hh : Heap) (lc : List Loc) (us : List Value) (X0 : Stand p l e R s m args below meth c T0 lc 0 0) (e0 : T0.heap = hh) (N0 : Fr n0 lc) (K0 : Keep h0 hh [d]) (O0 : own_Old Z n0 hh) (z0 : n0 ≤ hh.size) (V0 : Arv Z hh d kd .byte cap us (.int (0 : Int32))) (jj : Nat) (ps : Int32) (hgi : own_gi A ix.toNatClampNeg vs us ps.toNatClampNeg yy jj) (hps : 0 ≤ ps.toInt ∧ ps.toInt ≤ ix.toInt) (i2 : Int32) (hi2 : i2.toInt = -(yy : Int)) (hy : yy < 100), own_WP p e below (FrameEnd s) (fun v h L => ∃ (z : Int32) (us : List Value), v = some (.int z) ∧ Fr n0 L ∧ Keep h0 h [d] ∧ Arv Z h d kd .byte cap us (.int (0 : Int32)) ∧ own_out A kk ix.toNatClampNeg ng vs us) 0 0 (T0.setTop (mkF m 143 #[.val (.long xl), .second, .val (.int ix), .val (.ref d), (own_s4 o4), (own_s5 o4), (own_s6 o6), .val (.int ps), .val (.int ng), (own_s6 o9), .val (.int i2)] [])) := by
  intro yy T0 hh lc us X0 e0 N0 K0 O0 z0 V0 jj ps hgi hps i2 hi2 hy
  have hneg : (-i2).toInt = (yy : Int) := by have q := c_ineg i2; have r := rng32 (-i2); omega
  obtain ⟨a1, a2, a3, a4, a5, a6, a7⟩ := hgi
  have hnx := own_nat (x := ix) (by omega)
  have hnp := own_nat (x := ps) (by omega)
  have hnc := own_nat (x := cap) (by omega)
  have hngr : ng.toInt = 0 ∨ ng.toInt = 1 := hng.elim (fun q => Or.inl (by rw [q]; rfl)) (fun q => Or.inr (by rw [q]; rfl))
  have hroom : jj + 1 ≤ kk := a7.elim (fun q => by have := hkk.1; omega) (fun q => by have := own_room (e := 0) hkk a2 (by simpa using q); omega)
  refine own_aloadN (pc' := 144) X0 hx (hb hby d26_143) rfl rfl rfl ?_
  obtain ⟨v1, hv1⟩ : ∃ z : Int32, z = (ps + (-1 : Int32)) := ⟨_, rfl⟩
  refine own_iinc (pc' := 147) (l' := #[.val (.long xl), .second, .val (.int ix), .val (.ref d), (own_s4 o4), (own_s5 o4), (own_s6 o6), .val (.int v1), .val (.int ng), (own_s6 o9), .val (.int i2)]) X0 hx (hb hby d26_144) rfl hv1 rfl rfl ?_
  refine own_iload (pc' := 149) X0 hx (hb hby d26_147) rfl rfl ?_
  refine own_getS (pc' := 152) X0 hx hZ hown (host := "") (Or.inl (own_w hw 156 rfl)) Via.refl e0 (hD.1.ext O0.x) (hb hby d26_149) rfl ?_
  intro T2 X2 e2
  refine own_iload (pc' := 154) X2 hx (hb hby d26_152) rfl rfl ?_
  refine own_ineg (pc' := 155) X2 hx (hb hby d26_154) rfl ?_
  refine own_baload (pc' := 156) (v := (.int (Int32.ofNat (48 + yy % 10)))) X2 hx hZ e2 (hD.2.1.ext O0.x) (own_ones_at hneg hy).1 (own_ones_at hneg hy).2 (hb hby d26_155) rfl ?_
  obtain ⟨v4, hv4⟩ : ∃ z : Int32, z = (Int32.ofNat (48 + yy % 10)) := ⟨_, rfl⟩
  rw [← hv4]
  have hq5 : v1.toInt = ps.toInt - 1 := by have q := own_add hv1 (by omega) (by decide); have e : (-1 : Int32).toInt = -1 := rfl; omega
  have hn5 := own_nat (x := v1) (by omega)
  refine own_bastore (pc' := 157) X2 hx hZ e2 V0 ⟨own_nn (by omega), by rw [Int32.lt_iff_toInt_lt]; omega⟩ v1.toNatClampNeg rfl (by first | omega | (simp only [List.length_set]; omega)) (hb hby d26_156) rfl ?_
  intro T3 h3 X3 e3 W3 V3
  have o3 : own_Old Z n0 h3 := O0.wr W3 g_d
  have N3 := Fr.snoc X3 N0 g_d
  have K3 : Keep h0 h3 [d] := K0.wr W3 (Or.inl (List.mem_of_getElem? (i := 0) rfl))
  have g1 := own_gi_step (d := nar .byte v4) (q := v1.toNatClampNeg) ⟨a1, a2, a3, a4, a5, a6⟩ (by omega) (by omega) (by rw [hv4]; exact own_dnar (Nat.mod_lt _ (by decide)))
  refine own_iload (pc' := 159) X3 hx (hb hby d26_157) rfl rfl ?_
  refine own_bipush (pc' := 161) X3 hx (-9 : Int32) (hb hby d26_159) rfl rfl ?_
  refine own_icmp_ge (pt := 178) (pf := 164) X3 hx (hb hby d26_161) rfl (by decide) rfl (fun hc161 => ?_) (fun hc161 => ?_)
  · skip
    have hc9 : ¬ i2.toInt < -9 := by rw [Int32.lt_iff_toInt_lt] at hc161; exact hc161
    have hkj : kk = jj + 1 := own_dgs_uniq hkk (own_dgs_end (by rw [g1.2.1]; omega) (a7.elim Or.inl (fun q => Or.inr (by rw [a2]; exact q))))
    refine own_iload (pc' := 180) X3 hx (hb hby d26_178) rfl rfl ?_
    refine own_if_eq (pt := 192) (pf := 183) X3 hx (hb hby d26_180) rfl (by decide) rfl (fun hc180 => ?_) (fun hc180 => ?_)
    · skip
      refine own_iload (pc' := 194) X3 hx (hb hby d26_192) rfl rfl ?_
      refine own_retI X3 hx (fun _ _ _ _ q => q) hlk hret (hb hby d26_194) (by decide) (by decide) ?_
      rw [e3]
      refine ⟨_, _, rfl, N3, K3, V3, ?_⟩
      exact own_out0 g1 hkj hc180
    · skip
      have hng1 : ng = 1 := hng.elim (fun q => absurd q hc180) id
      have hngi : ng.toInt = 1 := by rw [hng1]; rfl
      refine own_aloadN (pc' := 184) X3 hx (hb hby d26_183) rfl rfl rfl ?_
      obtain ⟨v6, hv6⟩ : ∃ z : Int32, z = (v1 + (-1 : Int32)) := ⟨_, rfl⟩
      refine own_iinc (pc' := 187) (l' := #[.val (.long xl), .second, .val (.int ix), .val (.ref d), (own_s4 o4), (own_s5 o4), (own_s6 o6), .val (.int v6), .val (.int ng), (own_s6 o9), .val (.int i2)]) X3 hx (hb hby d26_184) rfl hv6 rfl rfl ?_
      refine own_iload (pc' := 189) X3 hx (hb hby d26_187) rfl rfl ?_
      refine own_bipush (pc' := 191) X3 hx (45 : Int32) (hb hby d26_189) rfl rfl ?_
      have hq8 : v6.toInt = v1.toInt - 1 := by have q := own_add hv6 (by omega) (by decide); have e : (-1 : Int32).toInt = -1 := rfl; omega
      have hn8 := own_nat (x := v6) (by omega)
      refine own_bastore (pc' := 192) X3 hx hZ e3 V3 ⟨own_nn (by omega), by rw [Int32.lt_iff_toInt_lt]; omega⟩ v6.toNatClampNeg rfl (by first | omega | (simp only [List.length_set]; omega)) (hb hby d26_191) rfl ?_
      intro T7 h7 X7 e7 W7 V7
      have N7 := Fr.snoc X7 N3 g_d
      have K7 : Keep h0 h7 [d] := K3.wr W7 (Or.inl (List.mem_of_getElem? (i := 0) rfl))
      refine own_iload (pc' := 194) X7 hx (hb hby d26_192) rfl rfl ?_
      refine own_retI X7 hx (fun _ _ _ _ q => q) hlk hret (hb hby d26_194) (by decide) (by decide) ?_
      rw [e7]
      refine ⟨_, _, rfl, N7, K7, V7, ?_⟩
      exact own_out1 g1 hkj hng1 (by omega)
  · skip
    have hc9 : i2.toInt < -9 := by rw [Int32.lt_iff_toInt_lt] at hc161; exact hc161
    have hroom2 : jj + 1 + 1 ≤ kk := by have := own_room (e := 1) hkk a2 (by omega); omega
    refine own_aloadN (pc' := 165) X3 hx (hb hby d26_164) rfl rfl rfl ?_
    obtain ⟨v9, hv9⟩ : ∃ z : Int32, z = (v1 + (-1 : Int32)) := ⟨_, rfl⟩
    refine own_iinc (pc' := 168) (l' := #[.val (.long xl), .second, .val (.int ix), .val (.ref d), (own_s4 o4), (own_s5 o4), (own_s6 o6), .val (.int v9), .val (.int ng), (own_s6 o9), .val (.int i2)]) X3 hx (hb hby d26_165) rfl hv9 rfl rfl ?_
    refine own_iload (pc' := 170) X3 hx (hb hby d26_168) rfl rfl ?_
    refine own_getS (pc' := 173) X3 hx hZ hown (host := "") (Or.inl (own_w hw 292 rfl)) Via.refl e3 (hD.2.2.1.ext o3.x) (hb hby d26_170) rfl ?_
    intro T10 X10 e10
    refine own_iload (pc' := 175) X10 hx (hb hby d26_173) rfl rfl ?_
    refine own_ineg (pc' := 176) X10 hx (hb hby d26_175) rfl ?_
    refine own_baload (pc' := 177) (v := (.int (Int32.ofNat (48 + yy / 10)))) X10 hx hZ e10 (hD.2.2.2.ext o3.x) (own_tens_at hneg hy).1 (own_tens_at hneg hy).2 (hb hby d26_176) rfl ?_
    obtain ⟨v12, hv12⟩ : ∃ z : Int32, z = (Int32.ofNat (48 + yy / 10)) := ⟨_, rfl⟩
    rw [← hv12]
    have hq13 : v9.toInt = v1.toInt - 1 := by have q := own_add hv9 (by omega) (by decide); have e : (-1 : Int32).toInt = -1 := rfl; omega
    have hn13 := own_nat (x := v9) (by omega)
    refine own_bastore (pc' := 178) X10 hx hZ e10 V3 ⟨own_nn (by omega), by rw [Int32.lt_iff_toInt_lt]; omega⟩ v9.toNatClampNeg rfl (by first | omega | (simp only [List.length_set]; omega)) (hb hby d26_177) rfl ?_
    intro T11 h11 X11 e11 W11 V11
    have N11 := Fr.snoc X11 N3 g_d
    have K11 : Keep h0 h11 [d] := K3.wr W11 (Or.inl (List.mem_of_getElem? (i := 0) rfl))
    have g2 := own_gi_step (d := nar .byte v12) (q := v9.toNatClampNeg) g1 (by omega) (by omega) (by rw [hv12, own_dnar (by omega)]; congr 1; omega)
    have hkj : kk = jj + 1 + 1 := own_dgs_uniq hkk (own_dgs_end (by rw [g2.2.1]; omega) (Or.inr (by rw [g1.2.1]; omega)))
    refine own_iload (pc' := 180) X11 hx (hb hby d26_178) rfl rfl ?_
    refine own_if_eq (pt := 192) (pf := 183) X11 hx (hb hby d26_180) rfl (by decide) rfl (fun hc180 => ?_) (fun hc180 => ?_)
    · skip
      refine own_iload (pc' := 194) X11 hx (hb hby d26_192) rfl rfl ?_
      refine own_retI X11 hx (fun _ _ _ _ q => q) hlk hret (hb hby d26_194) (by decide) (by decide) ?_
      rw [e11]
      refine ⟨_, _, rfl, N11, K11, V11, ?_⟩
      exact own_out0 g2 hkj hc180
    · skip
      have hng1 : ng = 1 := hng.elim (fun q => absurd q hc180) id
      have hngi : ng.toInt = 1 := by rw [hng1]; rfl
      refine own_aloadN (pc' := 184) X11 hx (hb hby d26_183) rfl rfl rfl ?_
      obtain ⟨v14, hv14⟩ : ∃ z : Int32, z = (v9 + (-1 : Int32)) := ⟨_, rfl⟩
      refine own_iinc (pc' := 187) (l' := #[.val (.long xl), .second, .val (.int ix), .val (.ref d), (own_s4 o4), (own_s5 o4), (own_s6 o6), .val (.int v14), .val (.int ng), (own_s6 o9), .val (.int i2)]) X11 hx (hb hby d26_184) rfl hv14 rfl rfl ?_
      refine own_iload (pc' := 189) X11 hx (hb hby d26_187) rfl rfl ?_
      refine own_bipush (pc' := 191) X11 hx (45 : Int32) (hb hby d26_189) rfl rfl ?_
      have hq16 : v14.toInt = v9.toInt - 1 := by have q := own_add hv14 (by omega) (by decide); have e : (-1 : Int32).toInt = -1 := rfl; omega
      have hn16 := own_nat (x := v14) (by omega)
      refine own_bastore (pc' := 192) X11 hx hZ e11 V11 ⟨own_nn (by omega), by rw [Int32.lt_iff_toInt_lt]; omega⟩ v14.toNatClampNeg rfl (by first | omega | (simp only [List.length_set]; omega)) (hb hby d26_191) rfl ?_
      intro T15 h15 X15 e15 W15 V15
      have N15 := Fr.snoc X15 N11 g_d
      have K15 : Keep h0 h15 [d] := K11.wr W15 (Or.inl (List.mem_of_getElem? (i := 0) rfl))
      refine own_iload (pc' := 194) X15 hx (hb hby d26_192) rfl rfl ?_
      refine own_retI X15 hx (fun _ _ _ _ q => q) hlk hret (hb hby d26_194) (by decide) (by decide) ?_
      rw [e15]
      refine ⟨_, _, rfl, N15, K15, V15, ?_⟩
      exact own_out1 g2 hkj hng1 (by omega)
set_option maxRecDepth 65536 in
set_option maxHeartbeats 4000000 in
theorem gc2 {p : Program} {l : Launch} {e : Env} {R : Room} {s : State} {m : MethodId} {args : Array Value} {below : List Frame} {meth : Method} {c : Code} {Z : State} {a0 : Array Value} (hw : ∀ d ∈ tables_1, d.before a0 Z = true) (hx : p.tables.exec = Jvm.exec) (hby : c.code = jdk_35_method_14_code) (hml : c.maxLocals = 11) (hret : meth.sig.returnType = some .int) (hlk : meth.locks = false) (hown : s.vm.findClass "java/lang/Long" = some m.cls) (hZ : Z.Warmed39 s.vm) (n0 : Nat) (h0 : Heap) (d : Addr) (kd : ClassId) (cap : Int32) (vs : List Value) (A kk : Nat) (ix ng : Int32) (da db : Addr) (ko kt : ClassId) (hD : own_D Z da ko db kt) (hkk : own_dgs A kk) (g_d : n0 ≤ d) (hng : ng = 0 ∨ ng = 1) (hix : 0 ≤ ix.toInt ∧ ix.toInt ≤ cap.toInt ∧ cap.toInt ≤ 1000 ∧ (kk : Int) + ng.toInt ≤ ix.toInt) (hlen : vs.length = cap.toNatClampNeg) (xl : Int64) (o4 : Option Int64) :
    ∀ (yy : Nat) (o6 o9 : Option Int32) (T0 : State) (hh : Heap) (lc : List Loc) (us : List Value) (X0 : Stand p l e R s m args below meth c T0 lc 0 0) (e0 : T0.heap = hh) (N0 : Fr n0 lc) (K0 : Keep h0 hh [d]) (O0 : own_Old Z n0 hh) (z0 : n0 ≤ hh.size) (V0 : Arv Z hh d kd .byte cap us (.int (0 : Int32))) (jj : Nat) (ps : Int32) (hgi : own_gi A ix.toNatClampNeg vs us ps.toNatClampNeg yy jj) (hps : 0 ≤ ps.toInt ∧ ps.toInt ≤ ix.toInt) (i2 : Int32) (hi2 : i2.toInt = -(yy : Int)), own_WP p e below (FrameEnd s) (fun v h L => ∃ (z : Int32) (us : List Value), v = some (.int z) ∧ Fr n0 L ∧ Keep h0 h [d] ∧ Arv Z h d kd .byte cap us (.int (0 : Int32)) ∧ own_out A kk ix.toNatClampNeg ng vs us) 0 0 (T0.setTop (mkF m 86 #[.val (.long xl), .second, .val (.int ix), .val (.ref d), (own_s4 o4), (own_s5 o4), (own_s6 o6), .val (.int ps), .val (.int ng), (own_s6 o9), .val (.int i2)] [])) := by
  intro yy
  induction yy using Nat.strongRecOn with | _ yy ih => ?_
  intro o6 o9 T0 hh lc us X0 e0 N0 K0 O0 z0 V0 jj ps hgi hps i2 hi2
  refine own_iload (pc' := 88) X0 hx (hb hby d26_86) rfl rfl ?_
  refine own_bipush (pc' := 90) X0 hx (-100 : Int32) (hb hby d26_88) rfl rfl ?_
  refine own_icmp_gt (pt := 143) (pf := 93) X0 hx (hb hby d26_90) rfl (by decide) rfl (fun hc90 => ?_) (fun hc90 => ?_)
  · skip
    have hy : yy < 100 := by rw [Int32.lt_iff_toInt_lt] at hc90; have hc90 : (-100 : Int) < i2.toInt := hc90; omega
    exact gcT hw hx hby hml hret hlk hown hZ n0 h0 d kd cap vs A kk ix ng da db ko kt hD hkk g_d hng hix hlen xl o4 o6 o9 yy T0 hh lc us X0 e0 N0 K0 O0 z0 V0 jj ps hgi hps i2 hi2 hy
  · skip
    have hge : 100 ≤ yy := by rw [Int32.lt_iff_toInt_lt] at hc90; have hc90 : ¬ (-100 : Int) < i2.toInt := hc90; omega
    obtain ⟨a1, a2, a3, a4, a5, a6, a7⟩ := hgi
    have hnx := own_nat (x := ix) (by omega)
    have hnp := own_nat (x := ps) (by omega)
    have hnc := own_nat (x := cap) (by omega)
    have hngr : ng.toInt = 0 ∨ ng.toInt = 1 := hng.elim (fun q => Or.inl (by rw [q]; rfl)) (fun q => Or.inr (by rw [q]; rfl))
    have hroom : jj + 3 ≤ kk := by have := own_room (e := 2) hkk a2 (by omega); omega
    refine own_iload (pc' := 95) X0 hx (hb hby d26_93) rfl rfl ?_
    refine own_bipush (pc' := 97) X0 hx (100 : Int32) (hb hby d26_95) rfl rfl ?_
    refine own_idiv (pc' := 98) X0 hx (hb hby d26_97) (by decide) rfl ?_
    obtain ⟨v1, hv1⟩ : ∃ z : Int32, z = (i2 / (100 : Int32)) := ⟨_, rfl⟩
    refine own_istore (pc' := 100) (l' := #[.val (.long xl), .second, .val (.int ix), .val (.ref d), (own_s4 o4), (own_s5 o4), (own_s6 o6), .val (.int ps), .val (.int ng), .val (.int v1), .val (.int i2)]) X0 hx (hb hby d26_98) hv1 (by cases o9 <;> rfl) rfl ?_
    refine own_iload (pc' := 102) X0 hx (hb hby d26_100) rfl rfl ?_
    refine own_bipush (pc' := 104) X0 hx (100 : Int32) (hb hby d26_102) rfl rfl ?_
    refine own_imul (pc' := 105) X0 hx (hb hby d26_104) rfl ?_
    refine own_iload (pc' := 107) X0 hx (hb hby d26_105) rfl rfl ?_
    refine own_isub (pc' := 108) X0 hx (hb hby d26_107) rfl ?_
    obtain ⟨v2, hv2⟩ : ∃ z : Int32, z = ((v1 * (100 : Int32)) - i2) := ⟨_, rfl⟩
    refine own_istore (pc' := 110) (l' := #[.val (.long xl), .second, .val (.int ix), .val (.ref d), (own_s4 o4), (own_s5 o4), .val (.int v2), .val (.int ps), .val (.int ng), .val (.int v1), .val (.int i2)]) X0 hx (hb hby d26_108) hv2 (by cases o6 <;> rfl) rfl ?_
    have hd6 := own_d100I (y := yy) hi2 hv1 hv2
    refine own_iload (pc' := 112) X0 hx (hb hby d26_110) rfl rfl ?_
    refine own_istore (pc' := 114) (l' := #[.val (.long xl), .second, .val (.int ix), .val (.ref d), (own_s4 o4), (own_s5 o4), .val (.int v2), .val (.int ps), .val (.int ng), .val (.int v1), .val (.int v1)]) X0 hx (hb hby d26_112) rfl rfl rfl ?_
    refine own_aloadN (pc' := 115) X0 hx (hb hby d26_114) rfl rfl rfl ?_
    obtain ⟨v3, hv3⟩ : ∃ z : Int32, z = (ps + (-1 : Int32)) := ⟨_, rfl⟩
    refine own_iinc (pc' := 118) (l' := #[.val (.long xl), .second, .val (.int ix), .val (.ref d), (own_s4 o4), (own_s5 o4), .val (.int v2), .val (.int v3), .val (.int ng), .val (.int v1), .val (.int v1)]) X0 hx (hb hby d26_115) rfl hv3 rfl rfl ?_
    refine own_iload (pc' := 120) X0 hx (hb hby d26_118) rfl rfl ?_
    refine own_getS (pc' := 123) X0 hx hZ hown (host := "") (Or.inl (own_w hw 156 rfl)) Via.refl e0 (hD.1.ext O0.x) (hb hby d26_120) rfl ?_
    intro T4 X4 e4
    refine own_iload (pc' := 125) X4 hx (hb hby d26_123) rfl rfl ?_
    refine own_baload (pc' := 126) (v := (.int (Int32.ofNat (48 + (yy % 100) % 10)))) X4 hx hZ e4 (hD.2.1.ext O0.x) (own_ones_at hd6.2 (Nat.mod_lt _ (by decide))).1 (own_ones_at hd6.2 (Nat.mod_lt _ (by decide))).2 (hb hby d26_125) rfl ?_
    obtain ⟨v6, hv6⟩ : ∃ z : Int32, z = (Int32.ofNat (48 + (yy % 100) % 10)) := ⟨_, rfl⟩
    rw [← hv6]
    have hq7 : v3.toInt = ps.toInt - 1 := by have q := own_add hv3 (by omega) (by decide); have e : (-1 : Int32).toInt = -1 := rfl; omega
    have hn7 := own_nat (x := v3) (by omega)
    refine own_bastore (pc' := 127) X4 hx hZ e4 V0 ⟨own_nn (by omega), by rw [Int32.lt_iff_toInt_lt]; omega⟩ v3.toNatClampNeg rfl (by first | omega | (simp only [List.length_set]; omega)) (hb hby d26_126) rfl ?_
    intro T5 h5 X5 e5 W5 V5
    have o5 : own_Old Z n0 h5 := O0.wr W5 g_d
    have z5 : n0 ≤ h5.size := Nat.le_trans z0 (Keep.of_wr W5).1
    have N5 := Fr.snoc X5 N0 g_d
    have K5 : Keep h0 h5 [d] := K0.wr W5 (Or.inl (List.mem_of_getElem? (i := 0) rfl))
    refine own_aloadN (pc' := 128) X5 hx (hb hby d26_127) rfl rfl rfl ?_
    obtain ⟨v8, hv8⟩ : ∃ z : Int32, z = (v3 + (-1 : Int32)) := ⟨_, rfl⟩
    refine own_iinc (pc' := 131) (l' := #[.val (.long xl), .second, .val (.int ix), .val (.ref d), (own_s4 o4), (own_s5 o4), .val (.int v2), .val (.int v8), .val (.int ng), .val (.int v1), .val (.int v1)]) X5 hx (hb hby d26_128) rfl hv8 rfl rfl ?_
    refine own_iload (pc' := 133) X5 hx (hb hby d26_131) rfl rfl ?_
    refine own_getS (pc' := 136) X5 hx hZ hown (host := "") (Or.inl (own_w hw 292 rfl)) Via.refl e5 (hD.2.2.1.ext o5.x) (hb hby d26_133) rfl ?_
    intro T9 X9 e9
    refine own_iload (pc' := 138) X9 hx (hb hby d26_136) rfl rfl ?_
    refine own_baload (pc' := 139) (v := (.int (Int32.ofNat (48 + (yy % 100) / 10)))) X9 hx hZ e9 (hD.2.2.2.ext o5.x) (own_tens_at hd6.2 (Nat.mod_lt _ (by decide))).1 (own_tens_at hd6.2 (Nat.mod_lt _ (by decide))).2 (hb hby d26_138) rfl ?_
    obtain ⟨v11, hv11⟩ : ∃ z : Int32, z = (Int32.ofNat (48 + (yy % 100) / 10)) := ⟨_, rfl⟩
    rw [← hv11]
    have hq12 : v8.toInt = v3.toInt - 1 := by have q := own_add hv8 (by omega) (by decide); have e : (-1 : Int32).toInt = -1 := rfl; omega
    have hn12 := own_nat (x := v8) (by omega)
    refine own_bastore (pc' := 140) X9 hx hZ e9 V5 ⟨own_nn (by omega), by rw [Int32.lt_iff_toInt_lt]; omega⟩ v8.toNatClampNeg rfl (by first | omega | (simp only [List.length_set]; omega)) (hb hby d26_139) rfl ?_
    intro T10 h10 X10 e10 W10 V10
    have o10 : own_Old Z n0 h10 := o5.wr W10 g_d
    have z10 : n0 ≤ h10.size := Nat.le_trans z5 (Keep.of_wr W10).1
    have N10 := Fr.snoc X10 N5 g_d
    have K10 : Keep h0 h10 [d] := K5.wr W10 (Or.inl (List.mem_of_getElem? (i := 0) rfl))
    refine own_goto (pc' := 86) X10 hx (hb hby d26_140) (by decide) rfl ?_
    have g1 := own_gi_step (d := nar .byte v6) (q := v3.toNatClampNeg) ⟨a1, a2, a3, a4, a5, a6⟩ (by omega) (by omega) (by rw [hv6, own_dnar (Nat.mod_lt _ (by decide))]; congr 1; omega)
    have g2 := own_gi_step (d := nar .byte v11) (q := v8.toNatClampNeg) g1 (by omega) (by omega) (by rw [hv11, own_dnar (by omega)]; congr 1; omega)
    exact ih (yy / 10 / 10) (by omega) (some v2) (some v1) T10 h10 _ _ X10 e10 N10 K10 o10 z10 V10 (jj + 1 + 1) v8 ⟨g2.1, g2.2.1, g2.2.2.1, g2.2.2.2.1, g2.2.2.2.2.1, g2.2.2.2.2.2, Or.inr (by omega)⟩ (by omega) v1 (by rw [hd6.1]; omega)
set_option maxRecDepth 65536 in
set_option maxHeartbeats 4000000 in
theorem gc1 {p : Program} {l : Launch} {e : Env} {R : Room} {s : State} {m : MethodId} {args : Array Value} {below : List Frame} {meth : Method} {c : Code} {Z : State} {a0 : Array Value} (hw : ∀ d ∈ tables_1, d.before a0 Z = true) (hx : p.tables.exec = Jvm.exec) (hby : c.code = jdk_35_method_14_code) (hml : c.maxLocals = 11) (hret : meth.sig.returnType = some .int) (hlk : meth.locks = false) (hown : s.vm.findClass "java/lang/Long" = some m.cls) (hZ : Z.Warmed39 s.vm) (n0 : Nat) (h0 : Heap) (d : Addr) (kd : ClassId) (cap : Int32) (vs : List Value) (A kk : Nat) (ix ng : Int32) (da db : Addr) (ko kt : ClassId) (hD : own_D Z da ko db kt) (hkk : own_dgs A kk) (g_d : n0 ≤ d) (hng : ng = 0 ∨ ng = 1) (hix : 0 ≤ ix.toInt ∧ ix.toInt ≤ cap.toInt ∧ cap.toInt ≤ 1000 ∧ (kk : Int) + ng.toInt ≤ ix.toInt) (hlen : vs.length = cap.toNatClampNeg)  :
    ∀ (yy : Nat) (o4 : Option Int64) (o6 : Option Int32) (T0 : State) (hh : Heap) (lc : List Loc) (us : List Value) (X0 : Stand p l e R s m args below meth c T0 lc 0 0) (e0 : T0.heap = hh) (N0 : Fr n0 lc) (K0 : Keep h0 hh [d]) (O0 : own_Old Z n0 hh) (z0 : n0 ≤ hh.size) (V0 : Arv Z hh d kd .byte cap us (.int (0 : Int32))) (jj : Nat) (ps : Int32) (hgi : own_gi A ix.toNatClampNeg vs us ps.toNatClampNeg yy jj) (hps : 0 ≤ ps.toInt ∧ ps.toInt ≤ ix.toInt) (xl : Int64) (hxl : xl.toInt = -(yy : Int)), own_WP p e below (FrameEnd s) (fun v h L => ∃ (z : Int32) (us : List Value), v = some (.int z) ∧ Fr n0 L ∧ Keep h0 h [d] ∧ Arv Z h d kd .byte cap us (.int (0 : Int32)) ∧ own_out A kk ix.toNatClampNeg ng vs us) 0 0 (T0.setTop (mkF m 24 #[.val (.long xl), .second, .val (.int ix), .val (.ref d), (own_s4 o4), (own_s5 o4), (own_s6 o6), .val (.int ps), .val (.int ng), .unset, .unset] [])) := by
  intro yy
  induction yy using Nat.strongRecOn with | _ yy ih => ?_
  intro o4 o6 T0 hh lc us X0 e0 N0 K0 O0 z0 V0 jj ps hgi hps xl hxl
  refine own_lloadN (pc' := 25) X0 hx (hb hby d26_24) rfl rfl ?_
  refine own_ldc2Long (pc' := 28) X0 hx hZ hown (own_w hw 155 rfl) (hb hby d26_25) rfl ?_
  refine own_lcmp (pc' := 29) X0 hx (hb hby d26_28) rfl ?_
  refine own_ifl_gt (pt := 82) (pf := 32) X0 hx (hb hby d26_29) rfl (by decide) rfl (fun hc29 => ?_) (fun hc29 => ?_)
  · skip
    refine own_lloadN (pc' := 83) X0 hx (hb hby d26_82) rfl rfl ?_
    refine own_l2i (pc' := 84) X0 hx (hb hby d26_83) rfl ?_
    obtain ⟨v1, hv1⟩ : ∃ z : Int32, z = (xl.toInt32) := ⟨_, rfl⟩
    refine own_istore (pc' := 86) (l' := #[.val (.long xl), .second, .val (.int ix), .val (.ref d), (own_s4 o4), (own_s5 o4), (own_s6 o6), .val (.int ps), .val (.int ng), .unset, .val (.int v1)]) X0 hx (hb hby d26_84) hv1 rfl rfl ?_
    have hlt : yy < 2147483648 := by rw [Int64.lt_iff_toInt_lt] at hc29; have hc29 : (-2147483648 : Int) < xl.toInt := hc29; omega
    exact gc2 hw hx hby hml hret hlk hown hZ n0 h0 d kd cap vs A kk ix ng da db ko kt hD hkk g_d hng hix hlen xl o4 yy o6 none T0 hh lc us X0 e0 N0 K0 O0 z0 V0 jj ps hgi hps v1 (by have q := c_l2i xl; have r := rng32 xl.toInt32; rw [hv1]; omega)
  · skip
    have hge : 2147483648 ≤ yy := by rw [Int64.lt_iff_toInt_lt] at hc29; have hc29 : ¬ (-2147483648 : Int) < xl.toInt := hc29; omega
    obtain ⟨a1, a2, a3, a4, a5, a6, a7⟩ := hgi
    have hnx := own_nat (x := ix) (by omega)
    have hnp := own_nat (x := ps) (by omega)
    have hnc := own_nat (x := cap) (by omega)
    have hngr : ng.toInt = 0 ∨ ng.toInt = 1 := hng.elim (fun q => Or.inl (by rw [q]; rfl)) (fun q => Or.inr (by rw [q]; rfl))
    have hroom : jj + 3 ≤ kk := by have := own_room (e := 2) hkk a2 (by omega); omega
    refine own_lloadN (pc' := 33) X0 hx (hb hby d26_32) rfl rfl ?_
    refine own_ldc2Long (pc' := 36) X0 hx hZ hown (own_w hw 291 rfl) (hb hby d26_33) rfl ?_
    refine own_ldiv (pc' := 37) X0 hx (hb hby d26_36) (by decide) rfl ?_
    obtain ⟨v2, hv2⟩ : ∃ z : Int64, z = (xl / (100 : Int64)) := ⟨_, rfl⟩
    refine own_lstore (pc' := 39) (l' := #[.val (.long xl), .second, .val (.int ix), .val (.ref d), .val (.long v2), .second, (own_s6 o6), .val (.int ps), .val (.int ng), .unset, .unset]) X0 hx (hb hby d26_37) hv2 (by cases o4 <;> rfl) rfl ?_
    refine own_lload (pc' := 41) X0 hx (hb hby d26_39) rfl rfl ?_
    refine own_ldc2Long (pc' := 44) X0 hx hZ hown (own_w hw 291 rfl) (hb hby d26_41) rfl ?_
    refine own_lmul (pc' := 45) X0 hx (hb hby d26_44) rfl ?_
    refine own_lloadN (pc' := 46) X0 hx (hb hby d26_45) rfl rfl ?_
    refine own_lsub (pc' := 47) X0 hx (hb hby d26_46) rfl ?_
    refine own_l2i (pc' := 48) X0 hx (hb hby d26_47) rfl ?_
    obtain ⟨v3, hv3⟩ : ∃ z : Int32, z = (((v2 * (100 : Int64)) - xl).toInt32) := ⟨_, rfl⟩
    refine own_istore (pc' := 50) (l' := #[.val (.long xl), .second, .val (.int ix), .val (.ref d), .val (.long v2), .second, .val (.int v3), .val (.int ps), .val (.int ng), .unset, .unset]) X0 hx (hb hby d26_48) hv3 (by cases o6 <;> rfl) rfl ?_
    have hd6 := own_d100J (y := yy) hxl hv2 hv3
    refine own_lload (pc' := 52) X0 hx (hb hby d26_50) rfl rfl ?_
    refine own_lstoreN (pc' := 53) (l' := #[.val (.long v2), .second, .val (.int ix), .val (.ref d), .val (.long v2), .second, .val (.int v3), .val (.int ps), .val (.int ng), .unset, .unset]) X0 hx (hb hby d26_52) rfl rfl rfl ?_
    refine own_aloadN (pc' := 54) X0 hx (hb hby d26_53) rfl rfl rfl ?_
    obtain ⟨v4, hv4⟩ : ∃ z : Int32, z = (ps + (-1 : Int32)) := ⟨_, rfl⟩
    refine own_iinc (pc' := 57) (l' := #[.val (.long v2), .second, .val (.int ix), .val (.ref d), .val (.long v2), .second, .val (.int v3), .val (.int v4), .val (.int ng), .unset, .unset]) X0 hx (hb hby d26_54) rfl hv4 rfl rfl ?_
    refine own_iload (pc' := 59) X0 hx (hb hby d26_57) rfl rfl ?_
    refine own_getS (pc' := 62) X0 hx hZ hown (host := "") (Or.inl (own_w hw 156 rfl)) Via.refl e0 (hD.1.ext O0.x) (hb hby d26_59) rfl ?_
    intro T5 X5 e5
    refine own_iload (pc' := 64) X5 hx (hb hby d26_62) rfl rfl ?_
    refine own_baload (pc' := 65) (v := (.int (Int32.ofNat (48 + (yy % 100) % 10)))) X5 hx hZ e5 (hD.2.1.ext O0.x) (own_ones_at hd6.2 (Nat.mod_lt _ (by decide))).1 (own_ones_at hd6.2 (Nat.mod_lt _ (by decide))).2 (hb hby d26_64) rfl ?_
    obtain ⟨v7, hv7⟩ : ∃ z : Int32, z = (Int32.ofNat (48 + (yy % 100) % 10)) := ⟨_, rfl⟩
    rw [← hv7]
    have hq8 : v4.toInt = ps.toInt - 1 := by have q := own_add hv4 (by omega) (by decide); have e : (-1 : Int32).toInt = -1 := rfl; omega
    have hn8 := own_nat (x := v4) (by omega)
    refine own_bastore (pc' := 66) X5 hx hZ e5 V0 ⟨own_nn (by omega), by rw [Int32.lt_iff_toInt_lt]; omega⟩ v4.toNatClampNeg rfl (by first | omega | (simp only [List.length_set]; omega)) (hb hby d26_65) rfl ?_
    intro T6 h6 X6 e6 W6 V6
    have o6 : own_Old Z n0 h6 := O0.wr W6 g_d
    have z6 : n0 ≤ h6.size := Nat.le_trans z0 (Keep.of_wr W6).1
    have N6 := Fr.snoc X6 N0 g_d
    have K6 : Keep h0 h6 [d] := K0.wr W6 (Or.inl (List.mem_of_getElem? (i := 0) rfl))
    refine own_aloadN (pc' := 67) X6 hx (hb hby d26_66) rfl rfl rfl ?_
    obtain ⟨v9, hv9⟩ : ∃ z : Int32, z = (v4 + (-1 : Int32)) := ⟨_, rfl⟩
    refine own_iinc (pc' := 70) (l' := #[.val (.long v2), .second, .val (.int ix), .val (.ref d), .val (.long v2), .second, .val (.int v3), .val (.int v9), .val (.int ng), .unset, .unset]) X6 hx (hb hby d26_67) rfl hv9 rfl rfl ?_
    refine own_iload (pc' := 72) X6 hx (hb hby d26_70) rfl rfl ?_
    refine own_getS (pc' := 75) X6 hx hZ hown (host := "") (Or.inl (own_w hw 292 rfl)) Via.refl e6 (hD.2.2.1.ext o6.x) (hb hby d26_72) rfl ?_
    intro T10 X10 e10
    refine own_iload (pc' := 77) X10 hx (hb hby d26_75) rfl rfl ?_
    refine own_baload (pc' := 78) (v := (.int (Int32.ofNat (48 + (yy % 100) / 10)))) X10 hx hZ e10 (hD.2.2.2.ext o6.x) (own_tens_at hd6.2 (Nat.mod_lt _ (by decide))).1 (own_tens_at hd6.2 (Nat.mod_lt _ (by decide))).2 (hb hby d26_77) rfl ?_
    obtain ⟨v12, hv12⟩ : ∃ z : Int32, z = (Int32.ofNat (48 + (yy % 100) / 10)) := ⟨_, rfl⟩
    rw [← hv12]
    have hq13 : v9.toInt = v4.toInt - 1 := by have q := own_add hv9 (by omega) (by decide); have e : (-1 : Int32).toInt = -1 := rfl; omega
    have hn13 := own_nat (x := v9) (by omega)
    refine own_bastore (pc' := 79) X10 hx hZ e10 V6 ⟨own_nn (by omega), by rw [Int32.lt_iff_toInt_lt]; omega⟩ v9.toNatClampNeg rfl (by first | omega | (simp only [List.length_set]; omega)) (hb hby d26_78) rfl ?_
    intro T11 h11 X11 e11 W11 V11
    have o11 : own_Old Z n0 h11 := o6.wr W11 g_d
    have z11 : n0 ≤ h11.size := Nat.le_trans z6 (Keep.of_wr W11).1
    have N11 := Fr.snoc X11 N6 g_d
    have K11 : Keep h0 h11 [d] := K6.wr W11 (Or.inl (List.mem_of_getElem? (i := 0) rfl))
    refine own_goto (pc' := 24) X11 hx (hb hby d26_79) (by decide) rfl ?_
    have g1 := own_gi_step (d := nar .byte v7) (q := v4.toNatClampNeg) ⟨a1, a2, a3, a4, a5, a6⟩ (by omega) (by omega) (by rw [hv7, own_dnar (Nat.mod_lt _ (by decide))]; congr 1; omega)
    have g2 := own_gi_step (d := nar .byte v12) (q := v9.toNatClampNeg) g1 (by omega) (by omega) (by rw [hv12, own_dnar (by omega)]; congr 1; omega)
    exact ih (yy / 10 / 10) (by omega) (some v2) (some v3) T11 h11 _ _ X11 e11 N11 K11 o11 z11 V11 (jj + 1 + 1) v9 ⟨g2.1, g2.2.1, g2.2.2.1, g2.2.2.2.1, g2.2.2.2.2.1, g2.2.2.2.2.2, Or.inr (by omega)⟩ (by omega) v2 (by rw [hd6.1]; omega)
theorem ef_con_gc (m : MethodId) (xl : Int64) (ix : Int32) (d : Addr) : entryFrame m #[(.long xl), (.int ix), (.ref d)] 11 = mkF m 0 #[.val (.long xl), .second, .val (.int ix), .val (.ref d), .unset, .unset, .unset, .unset, .unset, .unset, .unset] [] := by first | (simp [entryFrame, mkF, argsToLocals, Value.category]; done) | rfl
set_option maxRecDepth 65536 in
set_option maxHeartbeats 4000000 in
theorem con_gc (l : Launch) (Z : State) (a0 : Array Value) (hw : ∀ d ∈ tables_1, d.before a0 Z = true) (xl : Int64) (ix : Int32) (d : Addr) (h0 : Heap) (n0 : Nat) (Z0 : n0 ≤ h0.size) (kd : ClassId) (cap : Int32) (vs : List Value) (A kk : Nat) (ng : Int32) (da db : Addr) (ko kt : ClassId) (hD : own_D Z da ko db kt) (X00 : own_Old Z n0 h0) (hA : Arv Z h0 d kd .byte cap vs (.int (0 : Int32))) (hkk : own_dgs A kk) (g_d : n0 ≤ d) (hA0 : A = xl.toInt.natAbs) (hngx : (xl.toInt < 0 ∧ ng = 1) ∨ (¬ xl.toInt < 0 ∧ ng = 0)) (hix : 0 ≤ ix.toInt ∧ ix.toInt ≤ cap.toInt ∧ cap.toInt ≤ 1000 ∧ (kk : Int) + ng.toInt ≤ ix.toInt) (hlen : vs.length = cap.toNatClampNeg) :
    own_Con l Z (⟨"java/lang/Long", "getChars", "(JI[B)I"⟩ : MethodName) jdk_35_method_14_code 11 (some .int) ({ frames := 0, cells := 0, slots := 0, locals := 0 } : Room) #[(.long xl), (.int ix), (.ref d)] h0 (fun v h L => ∃ (z : Int32) (us : List Value), v = some (.int z) ∧ Fr n0 L ∧ Keep h0 h [d] ∧ Arv Z h d kd .byte cap us (.int (0 : Int32)) ∧ own_out A kk ix.toNatClampNeg ng vs us) := by
  refine own_Con_of pn_26 ?_
  intro p e s m below meth c s₁ X0 hx hby hml hret hlk hnm hown hZ e0
  have hown : s.vm.findClass "java/lang/Long" = some m.cls := hown
  have hml : c.maxLocals = 11 := hml
  have N0 := Fr.nil n0
  show own_WP _ _ _ _ _ _ _ (s₁.setTop (entryFrame m #[(.long xl), (.int ix), (.ref d)] 11))
  rw [ef_con_gc m xl ix d]
  refine own_iloadN (pc' := 1) X0 hx (hb hby d26_0) rfl rfl ?_
  refine own_istore (pc' := 3) (l' := #[.val (.long xl), .second, .val (.int ix), .val (.ref d), .unset, .unset, .unset, .val (.int ix), .unset, .unset, .unset]) X0 hx (hb hby d26_1) rfl rfl rfl ?_
  refine own_lloadN (pc' := 4) X0 hx (hb hby d26_3) rfl rfl ?_
  refine own_lconst0 (pc' := 5) X0 hx (hb hby d26_4) rfl ?_
  refine own_lcmp (pc' := 6) X0 hx (hb hby d26_5) rfl ?_
  refine own_ifl_ge (pt := 13) (pf := 9) X0 hx (hb hby d26_6) rfl (by decide) rfl (fun hc6 => ?_) (fun hc6 => ?_)
  · skip
    refine own_iconst (pc' := 14) X0 hx (0 : Int32) (hb hby d26_13) rfl rfl ?_
    refine own_istore (pc' := 16) (l' := #[.val (.long xl), .second, .val (.int ix), .val (.ref d), .unset, .unset, .unset, .val (.int ix), .val (.int (0 : Int32)), .unset, .unset]) X0 hx (hb hby d26_14) rfl rfl rfl ?_
    refine own_iload (pc' := 18) X0 hx (hb hby d26_16) rfl rfl ?_
    refine own_if_ne (pt := 24) (pf := 21) X0 hx (hb hby d26_18) rfl (by decide) rfl (fun hc18 => absurd (by decide) hc18) (fun hc18 => ?_)
    refine own_lloadN (pc' := 22) X0 hx (hb hby d26_21) rfl rfl ?_
    refine own_lneg (pc' := 23) X0 hx (hb hby d26_22) rfl ?_
    obtain ⟨v1, hv1⟩ : ∃ z : Int64, z = (-xl) := ⟨_, rfl⟩
    refine own_lstoreN (pc' := 24) (l' := #[.val (.long v1), .second, .val (.int ix), .val (.ref d), .unset, .unset, .unset, .val (.int ix), .val (.int (0 : Int32)), .unset, .unset]) X0 hx (hb hby d26_23) hv1 rfl rfl ?_
    have hc6 : ¬ xl.toInt < 0 := by rw [Int64.lt_iff_toInt_lt] at hc6; exact hc6
    obtain rfl : ng = (0 : Int32) := hngx.elim (fun q => absurd q.1 hc6) (fun q => q.2)
    have hnx := own_nat (x := ix) (by omega)
    have hnc := own_nat (x := cap) (by omega)
    exact gc1 hw hx hby hml hret hlk hown hZ n0 h0 d kd cap vs A kk ix (0 : Int32) da db ko kt hD hkk g_d (Or.inl rfl) hix hlen A none none s₁ h0 [] vs X0 e0 N0 (Keep.refl h0 [d]) X00 Z0 hA 0 ix (own_gi_start (by omega)) (by omega) v1 (by rw [own_negJ hv1 (by omega)]; omega)
  · skip
    refine own_iconst (pc' := 10) X0 hx (1 : Int32) (hb hby d26_9) rfl rfl ?_
    refine own_goto (pc' := 14) X0 hx (hb hby d26_10) (by decide) rfl ?_
    refine own_istore (pc' := 16) (l' := #[.val (.long xl), .second, .val (.int ix), .val (.ref d), .unset, .unset, .unset, .val (.int ix), .val (.int (1 : Int32)), .unset, .unset]) X0 hx (hb hby d26_14) rfl rfl rfl ?_
    refine own_iload (pc' := 18) X0 hx (hb hby d26_16) rfl rfl ?_
    refine own_if_ne (pt := 24) (pf := 21) X0 hx (hb hby d26_18) rfl (by decide) rfl (fun hc18 => ?_) (fun hc18 => absurd hc18 (by decide))
    have hc6 : xl.toInt < 0 := by rw [Int64.lt_iff_toInt_lt] at hc6; exact hc6
    obtain rfl : ng = (1 : Int32) := hngx.elim (fun q => q.2) (fun q => absurd hc6 q.1)
    have hnx := own_nat (x := ix) (by omega)
    have hnc := own_nat (x := cap) (by omega)
    exact gc1 hw hx hby hml hret hlk hown hZ n0 h0 d kd cap vs A kk ix (1 : Int32) da db ko kt hD hkk g_d (Or.inr rfl) hix hlen A none none s₁ h0 [] vs X0 e0 N0 (Keep.refl h0 [d]) X00 Z0 hA 0 ix (own_gi_start (by omega)) (by omega) xl (by omega)
theorem d25_0 : decode jdk_68_method_68_code 0 = .ok (.getstatic 18, 3) := by decide +kernel
theorem d25_3 : decode jdk_68_method_68_code 3 = .ok (.ifCond .eq 14, 3) := by decide +kernel
theorem d25_6 : decode jdk_68_method_68_code 6 = .ok (.aload_n 0, 1) := by decide +kernel
theorem d25_7 : decode jdk_68_method_68_code 7 = .ok (.getfield 22, 3) := by decide +kernel
theorem d25_10 : decode jdk_68_method_68_code 10 = .ok (.ifCond .ne 7, 3) := by decide +kernel
theorem d25_13 : decode jdk_68_method_68_code 13 = .ok (.iconst 1, 1) := by decide +kernel
theorem d25_14 : decode jdk_68_method_68_code 14 = .ok (.goto 4, 3) := by decide +kernel
theorem d25_18 : decode jdk_68_method_68_code 18 = .ok (.ireturn, 1) := by decide +kernel
theorem pn_25 : plainFor (⟨"java/lang/AbstractStringBuilder", "isLatin1", "()Z"⟩ : MethodName) = true := plainFor_of_name (by first | (simp [plainName, overriddenIn]; done) | decide +kernel)
theorem ef_con_al1 (m : MethodId) (sb : Addr) : entryFrame m #[(.ref sb)] 1 = mkF m 0 #[.val (.ref sb)] [] := by first | (simp [entryFrame, mkF, argsToLocals, Value.category]; done) | rfl
set_option maxRecDepth 65536 in
set_option maxHeartbeats 4000000 in
theorem con_al1 (l : Launch) (Z : State) (a0 : Array Value) (hw : ∀ d ∈ tables_1, d.before a0 Z = true) (sb : Addr) (h0 : Heap) (n0 : Nat) (Z0 : n0 ≤ h0.size) (G1 : Int32) (fm : Value) (hG : own_G Z G1 fm) (X00 : own_Old Z n0 h0) (bC : Fld Z h0 sb "java/lang/AbstractStringBuilder" "coder" "B" (.int (0 : Int32))) :
    own_Con l Z (⟨"java/lang/AbstractStringBuilder", "isLatin1", "()Z"⟩ : MethodName) jdk_68_method_68_code 1 (some .boolean) ({ frames := 0, cells := 0, slots := 0, locals := 0 } : Room) #[(.ref sb)] h0 (fun v h L => ∃ z : Int32, v = some (.int z) ∧ (z = 1) ∧ L = [] ∧ h = h0) := by
  refine own_Con_of pn_25 ?_
  intro p e s m below meth c s₁ X0 hx hby hml hret hlk hnm hown hZ e0
  have hown : s.vm.findClass "java/lang/AbstractStringBuilder" = some m.cls := hown
  have hml : c.maxLocals = 1 := hml
  show own_WP _ _ _ _ _ _ _ (s₁.setTop (entryFrame m #[(.ref sb)] 1))
  rw [ef_con_al1 m sb]
  refine own_getS (pc' := 3) X0 hx hZ hown (host := "") (Or.inl (own_w hw 56 rfl)) Via.refl e0 (hG.1.ext X00.x) (hb hby d25_0) rfl ?_
  intro T1 X1 e1
  refine own_if_eq (pt := 17) (pf := 6) X1 hx (hb hby d25_3) rfl (by decide) rfl (fun hc3 => absurd hc3 (hG.2.1)) (fun hc3 => ?_)
  refine own_aloadN (pc' := 7) X1 hx (hb hby d25_6) rfl rfl rfl ?_
  refine own_getF (pc' := 10) X1 hx hZ hown (host := "") (Or.inl (own_w hw 59 rfl)) Via.refl e1 bC (hb hby d25_7) rfl ?_
  intro T2 X2 e2
  refine own_if_ne (pt := 17) (pf := 13) X2 hx (hb hby d25_10) rfl (by decide) rfl (fun hc10 => absurd (by decide) hc10) (fun hc10 => ?_)
  refine own_iconst (pc' := 14) X2 hx (1 : Int32) (hb hby d25_13) rfl rfl ?_
  refine own_goto (pc' := 18) X2 hx (hb hby d25_14) (by decide) rfl ?_
  refine own_retN X2 hx (fun _ _ _ _ q => q) hlk (t := .boolean) (by decide) hret (hb hby d25_18) (by decide) (by decide) ?_
  exact ⟨(1 : Int32), rfl, rfl, rfl, e2⟩
theorem d23_0 : decode jdk_68_method_33_code 0 = .ok (.aload_n 0, 1) := by decide +kernel
theorem d23_1 : decode jdk_68_method_33_code 1 = .ok (.getfield 79, 3) := by decide +kernel
theorem d23_4 : decode jdk_68_method_33_code 4 = .ok (.istore_n 3, 1) := by decide +kernel
theorem d23_5 : decode jdk_68_method_33_code 5 = .ok (.iload_n 3, 1) := by decide +kernel
theorem d23_6 : decode jdk_68_method_33_code 6 = .ok (.lload_n 1, 1) := by decide +kernel
theorem d23_7 : decode jdk_68_method_33_code 7 = .ok (.invokestatic 254, 3) := by decide +kernel
theorem d23_10 : decode jdk_68_method_33_code 10 = .ok (.iadd, 1) := by decide +kernel
theorem d23_11 : decode jdk_68_method_33_code 11 = .ok (.istore 4, 2) := by decide +kernel
theorem d23_13 : decode jdk_68_method_33_code 13 = .ok (.aload_n 0, 1) := by decide +kernel
theorem d23_14 : decode jdk_68_method_33_code 14 = .ok (.iload 4, 2) := by decide +kernel
theorem d23_16 : decode jdk_68_method_33_code 16 = .ok (.invokevirtual 100, 3) := by decide +kernel
theorem d23_19 : decode jdk_68_method_33_code 19 = .ok (.aload_n 0, 1) := by decide +kernel
theorem d23_20 : decode jdk_68_method_33_code 20 = .ok (.invokevirtual 83, 3) := by decide +kernel
theorem d23_23 : decode jdk_68_method_33_code 23 = .ok (.ifCond .eq 17, 3) := by decide +kernel
theorem d23_26 : decode jdk_68_method_33_code 26 = .ok (.lload_n 1, 1) := by decide +kernel
theorem d23_27 : decode jdk_68_method_33_code 27 = .ok (.iload 4, 2) := by decide +kernel
theorem d23_29 : decode jdk_68_method_33_code 29 = .ok (.aload_n 0, 1) := by decide +kernel
theorem d23_30 : decode jdk_68_method_33_code 30 = .ok (.getfield 15, 3) := by decide +kernel
theorem d23_33 : decode jdk_68_method_33_code 33 = .ok (.invokestatic 259, 3) := by decide +kernel
theorem d23_36 : decode jdk_68_method_33_code 36 = .ok (.pop, 1) := by decide +kernel
theorem d23_37 : decode jdk_68_method_33_code 37 = .ok (.goto 15, 3) := by decide +kernel
theorem d23_52 : decode jdk_68_method_33_code 52 = .ok (.aload_n 0, 1) := by decide +kernel
theorem d23_53 : decode jdk_68_method_33_code 53 = .ok (.iload 4, 2) := by decide +kernel
theorem d23_55 : decode jdk_68_method_33_code 55 = .ok (.putfield 79, 3) := by decide +kernel
theorem d23_58 : decode jdk_68_method_33_code 58 = .ok (.aload_n 0, 1) := by decide +kernel
theorem d23_59 : decode jdk_68_method_33_code 59 = .ok (.areturn, 1) := by decide +kernel
theorem pn_23 : plainFor (⟨"java/lang/AbstractStringBuilder", "append", "(J)Ljava/lang/AbstractStringBuilder;"⟩ : MethodName) = true := plainFor_of_name (by first | (simp [plainName, overriddenIn]; done) | decide +kernel)
theorem ef_con_aj (m : MethodId) (sb : Addr) (xl : Int64) : entryFrame m #[(.ref sb), (.long xl)] 5 = mkF m 0 #[.val (.ref sb), .val (.long xl), .second, .unset, .unset] [] := by first | (simp [entryFrame, mkF, argsToLocals, Value.category]; done) | rfl
theorem pd18 : parseMethodDescriptor "(J)I" = some ⟨[.long], some .int⟩ := by decide +kernel
theorem pd19 : parseMethodDescriptor "(JI[B)I" = some ⟨[.long, .int, (.array .byte)], some .int⟩ := by decide +kernel
set_option maxRecDepth 65536 in
set_option maxHeartbeats 4000000 in
theorem con_aj (l : Launch) (Z : State) (a0 : Array Value) (hw : ∀ d ∈ tables_1, d.before a0 Z = true) (sb : Addr) (xl : Int64) (h0 : Heap) (n0 : Nat) (Z0 : n0 ≤ h0.size) (G1 : Int32) (fm : Value) (hG : own_G Z G1 fm) (X00 : own_Old Z n0 h0) (d : Addr) (kd : ClassId) (cap cnt : Int32) (vs : List Value) (bE : Exa Z h0 sb "java/lang/StringBuilder") (bV : Fld Z h0 sb "java/lang/AbstractStringBuilder" "value" "[B" (.ref d)) (bC : Fld Z h0 sb "java/lang/AbstractStringBuilder" "coder" "B" (.int (0 : Int32))) (bN : Fld Z h0 sb "java/lang/AbstractStringBuilder" "count" "I" (.int cnt)) (bA : Arv Z h0 d kd .byte cap vs (.int (0 : Int32))) (hB : own_BA Z kd) (ne_sb_d : sb ≠ d) (ne_d_sb : d ≠ sb) (g_sb : n0 ≤ sb) (g_d : n0 ≤ d) (hcap : 0 ≤ cnt.toInt ∧ cnt.toInt ≤ cap.toInt ∧ cap.toInt ≤ 80) (hlen : vs.length = cap.toNatClampNeg) (da db : Addr) (ko kt : ClassId) (hD : own_D Z da ko db kt) :
    own_Con l Z (⟨"java/lang/AbstractStringBuilder", "append", "(J)Ljava/lang/AbstractStringBuilder;"⟩ : MethodName) jdk_68_method_33_code 5 (some (.object "java/lang/AbstractStringBuilder")) ({ frames := 4, cells := 1, slots := 170, locals := 81 } : Room) #[(.ref sb), (.long xl)] h0 (fun v h L => ∃ (d' : Addr) (kd' : ClassId) (cap' cnt' : Int32) (us : List Value) (kk : Nat) (ng : Int32), v = some (.ref sb) ∧ Fr n0 L ∧ Keep h0 h [sb, d] ∧ (d' = d ∨ h0.size ≤ d') ∧ n0 ≤ d' ∧ sb ≠ d' ∧ Exa Z h sb "java/lang/StringBuilder" ∧ Fld Z h sb "java/lang/AbstractStringBuilder" "value" "[B" (.ref d') ∧ Fld Z h sb "java/lang/AbstractStringBuilder" "coder" "B" (.int (0 : Int32)) ∧ Fld Z h sb "java/lang/AbstractStringBuilder" "count" "I" (.int cnt') ∧ Arv Z h d' kd' .byte cap' us (.int (0 : Int32)) ∧ own_BA Z kd' ∧ us.length = cap'.toNatClampNeg ∧ cap'.toInt = own_cap cap.toInt cnt'.toInt ∧ own_dgs xl.toInt.natAbs kk ∧ ((xl.toInt < 0 ∧ ng = 1) ∨ (¬ xl.toInt < 0 ∧ ng = 0)) ∧ cnt'.toInt = cnt.toInt + kk + ng.toInt ∧ us.take cnt'.toNatClampNeg = vs.take cnt.toNatClampNeg ++ own_num xl.toInt.natAbs kk ng) := by
  refine own_Con_of pn_23 ?_
  intro p e s m below meth c s₁ X0 hx hby hml hret hlk hnm hown hZ e0
  have hown : s.vm.findClass "java/lang/AbstractStringBuilder" = some m.cls := hown
  have hml : c.maxLocals = 5 := hml
  have N0 := Fr.nil n0
  show own_WP _ _ _ _ _ _ _ (s₁.setTop (entryFrame m #[(.ref sb), (.long xl)] 5))
  rw [ef_con_aj m sb xl]
  refine own_aloadN (pc' := 1) X0 hx (hb hby d23_0) rfl rfl rfl ?_
  refine own_getF (pc' := 4) X0 hx hZ hown (host := "") (Or.inl (own_w hw 83 rfl)) Via.refl e0 bN (hb hby d23_1) rfl ?_
  intro T1 X1 e1
  refine own_istoreN (pc' := 5) (l' := #[.val (.ref sb), .val (.long xl), .second, .val (.int cnt), .unset]) X1 hx (hb hby d23_4) rfl rfl rfl ?_
  refine own_iloadN (pc' := 6) X1 hx (hb hby d23_5) rfl rfl ?_
  refine own_lloadN (pc' := 7) X1 hx (hb hby d23_6) rfl rfl ?_
  refine own_callS (pc' := 10) (W := 1) (y := (⟨"java/lang/Long", "stringSize", "(J)I"⟩ : MethodName)) X1 hx hZ hown (own_w hw 142 rfl) (own_w hw 143 rfl) (own_w hw 144 rfl) (own_w hw 145 rfl) (by decide) (con_sz l Z a0 hw xl _) e1 pd18 [(.long xl)] [(.int cnt)] rfl rfl rfl (Nat.le_of_eq rfl) (by decide) (by decide) (by rw [hml]; rfl) (hb hby d23_7) (by decide) (by decide) rfl ?_
  intro v2 T2 L2 X2 q2
  obtain ⟨r2, rfl, ⟨kk, hkk, hsz⟩, rfl, e2⟩ := q2
  have M2 := Fr.nil n0
  have N2 := Fr.app N0 M2
  obtain ⟨ng, hngx⟩ : ∃ ng : Int32, (xl.toInt < 0 ∧ ng = 1) ∨ (¬ xl.toInt < 0 ∧ ng = 0) := by
    by_cases hx0 : xl.toInt < 0
    · exact ⟨1, Or.inl ⟨hx0, rfl⟩⟩
    · exact ⟨0, Or.inr ⟨hx0, rfl⟩⟩
  have hng : ng = 0 ∨ ng = 1 := hngx.elim (fun q => Or.inr q.2) (fun q => Or.inl q.2)
  have hngt : ng.toInt = 0 ∨ ng.toInt = 1 := hng.elim (fun q => Or.inl (by rw [q]; rfl)) (fun q => Or.inr (by rw [q]; rfl))
  have hsz2 : r2.toInt = (kk : Int) + ng.toInt := by rcases hngx with ⟨q1, q2⟩ | ⟨q1, q2⟩ <;> simp [q1] at hsz <;> rw [hsz, q2] <;> rfl
  have hk19 := own_dgs_le hkk (by have := rng64 xl; omega)
  show own_WP _ _ _ _ _ _ _ (T2.setTop (mkF m 10 #[.val (.ref sb), .val (.long xl), .second, .val (.int cnt), .unset] [(.int r2), (.int cnt)]))
  refine own_iadd (pc' := 11) X2 hx (hb hby d23_10) rfl ?_
  obtain ⟨v3, hv3⟩ : ∃ z : Int32, z = (cnt + r2) := ⟨_, rfl⟩
  refine own_istore (pc' := 13) (l' := #[.val (.ref sb), .val (.long xl), .second, .val (.int cnt), .val (.int v3)]) X2 hx (hb hby d23_11) hv3 rfl rfl ?_
  have hmi : v3.toInt = cnt.toInt + kk + ng.toInt := by rw [own_add hv3 (by omega) (by omega)]; omega
  refine own_aloadN (pc' := 14) X2 hx (hb hby d23_13) rfl rfl rfl ?_
  refine own_iload (pc' := 16) X2 hx (hb hby d23_14) rfl rfl ?_
  refine own_callP (pc' := 19) (W := 0) (y := (⟨"java/lang/AbstractStringBuilder", "ensureCapacityInternal", "(I)V"⟩ : MethodName)) X2 hx hZ hown (own_w hw 85 rfl) (own_w hw 86 rfl) (own_w hw 87 rfl) (own_w hw 88 rfl) (own_w hw 53 rfl) (own_w hw 89 rfl) (by decide) bE (con_en l Z a0 hw sb v3 _ n0 Z0 d kd cap cnt vs bE bV bC bN bA hB ne_sb_d ne_d_sb g_sb g_d (by omega) hlen (by omega)) e2 pd15 [(.int v3)] [] rfl rfl rfl (Nat.le_of_eq rfl) (by decide) (by decide) (by rw [hml]; rfl) (hb hby d23_16) (by decide) (by decide) rfl ?_
  intro v4 T4 L4 X4 q4
  obtain ⟨c4, k4, cp4, u4, rfl, M4, K4, hor4, g_c4, nsb4, E4q, F4a, F4b, F4c, V4, Bk4, lu4, hcp4, tu4⟩ := q4
  have ne_sb_c4 : sb ≠ c4 := own_ne2 ne_sb_d bE.lt hor4
  have ne_c4_sb := ne_sb_c4.symm
  obtain ⟨h4, e4⟩ : ∃ z, z = T4.heap := ⟨_, rfl⟩
  rw [← e4] at K4 E4q F4a F4b F4c V4
  have e4 := e4.symm
  have o4 : own_Old Z n0 h4 := X00.keep K4 (allS g_sb all0)
  have z4 : n0 ≤ h4.size := Nat.le_trans Z0 K4.1
  have KK4 : Keep h0 h4 [sb, d] := (Keep.refl h0 [sb, d]).trans K4 (allS (P := fun x => x ∈ [sb, d] ∨ h0.size ≤ x) (Or.inl (List.mem_of_getElem? (i := 0) rfl)) all0)
  have N4 := Fr.app N2 M4
  show own_WP _ _ _ _ _ _ _ (T4.setTop (mkF m 19 #[.val (.ref sb), .val (.long xl), .second, .val (.int cnt), .val (.int v3)] []))
  refine own_aloadN (pc' := 20) X4 hx (hb hby d23_19) rfl rfl rfl ?_
  refine own_callV (pc' := 23) (W := 0) (y := (⟨"java/lang/AbstractStringBuilder", "isLatin1", "()Z"⟩ : MethodName)) (z := (⟨"java/lang/AbstractStringBuilder", "isLatin1", "()Z"⟩ : MethodName)) X4 hx hZ hown (own_w hw 147 rfl) (own_w hw 148 rfl) (notFace_of_selects (args := #[]) (mvT hZ (own_w hw 150 rfl))) (own_w hw 150 rfl) (own_w hw 149 rfl) (own_w hw 53 rfl) (own_w hw 151 rfl) (by decide) E4q (con_al1 l Z a0 hw sb _ n0 z4 G1 fm hG o4 F4b) e4 pd3 [] [] rfl rfl rfl (Nat.le_of_eq rfl) (by decide) (by decide) (by rw [hml]; rfl) (hb hby d23_20) (by decide) (by decide) rfl ?_
  intro v5 T5 L5 X5 q5
  obtain ⟨r5, rfl, hr5, rfl, e5⟩ := q5
  have M5 := Fr.nil n0
  have N5 := Fr.app N4 M5
  subst hr5
  show own_WP _ _ _ _ _ _ _ (T5.setTop (mkF m 23 #[.val (.ref sb), .val (.long xl), .second, .val (.int cnt), .val (.int v3)] [(.int (1 : Int32))]))
  refine own_if_eq (pt := 40) (pf := 26) X5 hx (hb hby d23_23) rfl (by decide) rfl (fun hc23 => absurd hc23 (by decide)) (fun hc23 => ?_)
  refine own_lloadN (pc' := 27) X5 hx (hb hby d23_26) rfl rfl ?_
  refine own_iload (pc' := 29) X5 hx (hb hby d23_27) rfl rfl ?_
  refine own_aloadN (pc' := 30) X5 hx (hb hby d23_29) rfl rfl rfl ?_
  refine own_getF (pc' := 33) X5 hx hZ hown (host := "") (Or.inl (own_w hw 57 rfl)) Via.refl e5 F4a (hb hby d23_30) rfl ?_
  intro T6 X6 e6
  have hcg := own_cap_le (cap := cap.toInt) (mi := v3.toInt) (by omega) (by omega) (by omega)
  have hcq := own_cap_ge (cap := cap.toInt) (mi := v3.toInt)
  refine own_callS (pc' := 36) (W := 0) (y := (⟨"java/lang/Long", "getChars", "(JI[B)I"⟩ : MethodName)) X6 hx hZ hown (own_w hw 152 rfl) (own_w hw 153 rfl) (own_w hw 144 rfl) (own_w hw 154 rfl) (by decide) (con_gc l Z a0 hw xl v3 c4 _ n0 z4 k4 cp4 u4 _ kk ng da db ko kt hD o4 V4 hkk g_c4 rfl hngx (by omega) lu4) e6 pd19 [(.long xl), (.int v3), (.ref c4)] [] rfl rfl rfl (Nat.le_of_eq rfl) (by decide) (by decide) (by rw [hml]; rfl) (hb hby d23_33) (by decide) (by decide) rfl ?_
  intro v7 T7 L7 X7 q7
  obtain ⟨r7, u7, rfl, M7, K7, V7, hout⟩ := q7
  obtain ⟨h7, e7⟩ : ∃ z, z = T7.heap := ⟨_, rfl⟩
  rw [← e7] at K7 V7
  have e7 := e7.symm
  have KK7 : Keep h0 h7 [sb, d] := KK4.trans K7 (allS (P := fun x => x ∈ [sb, d] ∨ h0.size ≤ x) (hor4.elim (fun e => Or.inl (e ▸ List.mem_of_getElem? (i := 1) rfl)) (fun q => Or.inr (Nat.le_trans (Keep.refl h0 []).1 q))) all0)
  have N7 := Fr.app N5 M7
  show own_WP _ _ _ _ _ _ _ (T7.setTop (mkF m 36 #[.val (.ref sb), .val (.long xl), .second, .val (.int cnt), .val (.int v3)] [(.int r7)]))
  refine own_pop (pc' := 37) X7 hx (hb hby d23_36) rfl rfl ?_
  refine own_goto (pc' := 52) X7 hx (hb hby d23_37) (by decide) rfl ?_
  refine own_aloadN (pc' := 53) X7 hx (hb hby d23_52) rfl rfl rfl ?_
  refine own_iload (pc' := 55) X7 hx (hb hby d23_53) rfl rfl ?_
  have f8 := (F4c.keep K7 (ninS ne_sb_c4 nin0))
  have f9 := (E4q.keep K7)
  refine own_putF (pc' := 58) X7 hx hZ hown (host := "") (Or.inl (own_w hw 83 rfl)) Via.refl e7 f8 f9 (Or.inl (own_w hw 84 rfl)) (own_w hw 44 rfl) (ty := .int) (by decide) rfl rfl (hb hby d23_55) rfl ?_
  intro T10 h10 X10 e10 W10
  have Fw10 := f8.same W10
  have N10 := Fr.snoc X10 N7 g_sb
  have K10 : Keep h0 h10 [sb, d] := KK7.wr W10 (Or.inl (List.mem_of_getElem? (i := 0) rfl))
  refine own_aloadN (pc' := 59) X10 hx (hb hby d23_58) rfl rfl rfl ?_
  have f11 := (f9.wr W10)
  have f12 := ((F4a.keep K7 (ninS ne_sb_c4 nin0)).other W10 (Or.inr (slot_ne (Or.inl (own_w hw 58 rfl)) (Or.inl (own_w hw 84 rfl)) (by decide) (t := (.array .byte)) (t' := .int) (by decide +kernel) (by decide +kernel))))
  have f13 := ((F4b.keep K7 (ninS ne_sb_c4 nin0)).other W10 (Or.inr (slot_ne (Or.inl (own_w hw 60 rfl)) (Or.inl (own_w hw 84 rfl)) (by decide) (t := .byte) (t' := .int) (by decide +kernel) (by decide +kernel))))
  have f14 := (V7.other W10 ne_c4_sb)
  refine own_retA X10 hx (fun _ _ _ _ q => q) hlk rfl hret rfl rfl (hb hby d23_59) (by decide) (by decide) ?_
  rw [e10]
  have q1 := own_nat (x := cnt) (by omega)
  have q2 := own_nat (x := cap) (by omega)
  have q3 := own_nat (x := v3) (by omega)
  have q4 := own_nat (x := ng) (by omega)
  have q5 := own_nat (x := cp4) (by omega)
  have ht : u4.take cnt.toNatClampNeg = vs.take cnt.toNatClampNeg := by rw [← tu4, List.take_take, Nat.min_eq_left (by omega)]
  exact ⟨c4, k4, cp4, v3, u7, kk, ng, rfl, N10, K10, hor4, g_c4, ne_sb_c4, f11, f12, f13, Fw10, f14, Bk4, by rw [hout.1]; exact lu4, hcp4, hkk, hngx, hmi, by rw [← ht]; exact own_out_take hout hng (by omega) (by omega)⟩
theorem d22_0 : decode jdk_67_method_16_code 0 = .ok (.aload_n 0, 1) := by decide +kernel
theorem d22_1 : decode jdk_67_method_16_code 1 = .ok (.lload_n 1, 1) := by decide +kernel
theorem d22_2 : decode jdk_67_method_16_code 2 = .ok (.invokespecial 56, 3) := by decide +kernel
theorem d22_5 : decode jdk_67_method_16_code 5 = .ok (.pop, 1) := by decide +kernel
theorem d22_6 : decode jdk_67_method_16_code 6 = .ok (.aload_n 0, 1) := by decide +kernel
theorem d22_7 : decode jdk_67_method_16_code 7 = .ok (.areturn, 1) := by decide +kernel
theorem pn_22 : plainFor (⟨"java/lang/StringBuilder", "append", "(J)Ljava/lang/StringBuilder;"⟩ : MethodName) = true := plainFor_of_name (by first | (simp [plainName, overriddenIn]; done) | decide +kernel)
theorem ef_con_sj (m : MethodId) (sb : Addr) (xl : Int64) : entryFrame m #[(.ref sb), (.long xl)] 3 = mkF m 0 #[.val (.ref sb), .val (.long xl), .second] [] := by first | (simp [entryFrame, mkF, argsToLocals, Value.category]; done) | rfl
theorem pd20 : parseMethodDescriptor "(J)Ljava/lang/AbstractStringBuilder;" = some ⟨[.long], some (.object "java/lang/AbstractStringBuilder")⟩ := by decide +kernel
set_option maxRecDepth 65536 in
set_option maxHeartbeats 4000000 in
theorem con_sj (l : Launch) (Z : State) (a0 : Array Value) (hw : ∀ d ∈ tables_1, d.before a0 Z = true) (sb : Addr) (xl : Int64) (h0 : Heap) (n0 : Nat) (Z0 : n0 ≤ h0.size) (G1 : Int32) (fm : Value) (hG : own_G Z G1 fm) (X00 : own_Old Z n0 h0) (d : Addr) (kd : ClassId) (cap cnt : Int32) (vs : List Value) (bE : Exa Z h0 sb "java/lang/StringBuilder") (bV : Fld Z h0 sb "java/lang/AbstractStringBuilder" "value" "[B" (.ref d)) (bC : Fld Z h0 sb "java/lang/AbstractStringBuilder" "coder" "B" (.int (0 : Int32))) (bN : Fld Z h0 sb "java/lang/AbstractStringBuilder" "count" "I" (.int cnt)) (bA : Arv Z h0 d kd .byte cap vs (.int (0 : Int32))) (hB : own_BA Z kd) (ne_sb_d : sb ≠ d) (ne_d_sb : d ≠ sb) (g_sb : n0 ≤ sb) (g_d : n0 ≤ d) (hcap : 0 ≤ cnt.toInt ∧ cnt.toInt ≤ cap.toInt ∧ cap.toInt ≤ 80) (hlen : vs.length = cap.toNatClampNeg) (da db : Addr) (ko kt : ClassId) (hD : own_D Z da ko db kt) :
    own_Con l Z (⟨"java/lang/StringBuilder", "append", "(J)Ljava/lang/StringBuilder;"⟩ : MethodName) jdk_67_method_16_code 3 (some (.object "java/lang/StringBuilder")) ({ frames := 5, cells := 1, slots := 170, locals := 98 } : Room) #[(.ref sb), (.long xl)] h0 (fun v h L => ∃ (d' : Addr) (kd' : ClassId) (cap' cnt' : Int32) (us : List Value) (kk : Nat) (ng : Int32), v = some (.ref sb) ∧ Fr n0 L ∧ Keep h0 h [sb, d] ∧ (d' = d ∨ h0.size ≤ d') ∧ n0 ≤ d' ∧ sb ≠ d' ∧ Exa Z h sb "java/lang/StringBuilder" ∧ Fld Z h sb "java/lang/AbstractStringBuilder" "value" "[B" (.ref d') ∧ Fld Z h sb "java/lang/AbstractStringBuilder" "coder" "B" (.int (0 : Int32)) ∧ Fld Z h sb "java/lang/AbstractStringBuilder" "count" "I" (.int cnt') ∧ Arv Z h d' kd' .byte cap' us (.int (0 : Int32)) ∧ own_BA Z kd' ∧ us.length = cap'.toNatClampNeg ∧ cap'.toInt = own_cap cap.toInt cnt'.toInt ∧ own_dgs xl.toInt.natAbs kk ∧ ((xl.toInt < 0 ∧ ng = 1) ∨ (¬ xl.toInt < 0 ∧ ng = 0)) ∧ cnt'.toInt = cnt.toInt + kk + ng.toInt ∧ us.take cnt'.toNatClampNeg = vs.take cnt.toNatClampNeg ++ own_num xl.toInt.natAbs kk ng) := by
  refine own_Con_of pn_22 ?_
  intro p e s m below meth c s₁ X0 hx hby hml hret hlk hnm hown hZ e0
  have hown : s.vm.findClass "java/lang/StringBuilder" = some m.cls := hown
  have hml : c.maxLocals = 3 := hml
  have N0 := Fr.nil n0
  show own_WP _ _ _ _ _ _ _ (s₁.setTop (entryFrame m #[(.ref sb), (.long xl)] 3))
  rw [ef_con_sj m sb xl]
  refine own_aloadN (pc' := 1) X0 hx (hb hby d22_0) rfl rfl rfl ?_
  refine own_lloadN (pc' := 2) X0 hx (hb hby d22_1) rfl rfl ?_
  refine own_callSup (pc' := 5) (W := 0) (y := (⟨"java/lang/AbstractStringBuilder", "append", "(J)Ljava/lang/AbstractStringBuilder;"⟩ : MethodName)) X0 hx hZ hown (own_w hw 138 rfl) (own_w hw 139 rfl) (own_same (y := (⟨"java/lang/AbstractStringBuilder", "append", "(J)Ljava/lang/AbstractStringBuilder;"⟩ : MethodName)) (by decide) (own_w hw 139 rfl) (own_nif (y := (⟨"java/lang/AbstractStringBuilder", "ensureCapacityInternal", "(I)V"⟩ : MethodName)) (own_w hw 88 rfl))) (own_w hw 69 rfl) (by decide) (own_w hw 53 rfl) (own_w hw 141 rfl) bE (con_aj l Z a0 hw sb xl _ n0 Z0 G1 fm hG X00 d kd cap cnt vs bE bV bC bN bA hB ne_sb_d ne_d_sb g_sb g_d hcap hlen da db ko kt hD) e0 pd20 [(.long xl)] [] rfl rfl rfl (Nat.le_of_eq rfl) (by decide) (by decide) (by rw [hml]; rfl) (hb hby d22_2) (by decide) (by decide) rfl ?_
  intro v1 T1 L1 X1 q1
  obtain ⟨c1, k1, cp1, ct1, u1, kk, ng, rfl, M1, K1, hor1, g_c1, nsb1, E1q, F1a, F1b, F1c, V1, Bk1, lu1, hcp1, hkk, hngx, hct1, tu1⟩ := q1
  have ne_sb_c1 : sb ≠ c1 := own_ne2 ne_sb_d bE.lt hor1
  obtain ⟨h1, e1⟩ : ∃ z, z = T1.heap := ⟨_, rfl⟩
  rw [← e1] at K1 E1q F1a F1b F1c V1
  have e1 := e1.symm
  have KK1 : Keep h0 h1 [sb, d] := (Keep.refl h0 [sb, d]).trans K1 (allS (P := fun x => x ∈ [sb, d] ∨ h0.size ≤ x) (Or.inl (List.mem_of_getElem? (i := 0) rfl)) (allS (P := fun x => x ∈ [sb, d] ∨ h0.size ≤ x) (Or.inl (List.mem_of_getElem? (i := 1) rfl)) all0))
  have N1 := Fr.app N0 M1
  show own_WP _ _ _ _ _ _ _ (T1.setTop (mkF m 5 #[.val (.ref sb), .val (.long xl), .second] [(.ref sb)]))
  refine own_pop (pc' := 6) X1 hx (hb hby d22_5) rfl rfl ?_
  refine own_aloadN (pc' := 7) X1 hx (hb hby d22_6) rfl rfl rfl ?_
  refine own_retA X1 hx (fun _ _ _ _ q => q) hlk rfl hret rfl rfl (hb hby d22_7) (by decide) (by decide) ?_
  rw [e1]
  exact ⟨c1, k1, cp1, ct1, u1, kk, ng, rfl, N1, KK1, hor1, g_c1, ne_sb_c1, E1q, F1a, F1b, F1c, V1, Bk1, lu1, hcp1, hkk, hngx, hct1, tu1⟩
theorem own_sub0 (x : Int32) : x - 0 = x := by simp
theorem d30_0 : decode jdk_68_method_64_code 0 = .ok (.aload_n 0, 1) := by decide +kernel
theorem d30_1 : decode jdk_68_method_64_code 1 = .ok (.getfield 15, 3) := by decide +kernel
theorem d30_4 : decode jdk_68_method_64_code 4 = .ok (.areturn, 1) := by decide +kernel
theorem pn_30 : plainFor (⟨"java/lang/AbstractStringBuilder", "getValue", "()[B"⟩ : MethodName) = true := plainFor_of_name (by first | (simp [plainName, overriddenIn]; done) | decide +kernel)
theorem ef_con_gv (m : MethodId) (sb : Addr) : entryFrame m #[(.ref sb)] 1 = mkF m 0 #[.val (.ref sb)] [] := by first | (simp [entryFrame, mkF, argsToLocals, Value.category]; done) | rfl
set_option maxRecDepth 65536 in
set_option maxHeartbeats 4000000 in
theorem con_gv (l : Launch) (Z : State) (a0 : Array Value) (hw : ∀ d ∈ tables_1, d.before a0 Z = true) (sb : Addr) (h0 : Heap) (n0 : Nat) (Z0 : n0 ≤ h0.size) (d : Addr) (bV : Fld Z h0 sb "java/lang/AbstractStringBuilder" "value" "[B" (.ref d)) :
    own_Con l Z (⟨"java/lang/AbstractStringBuilder", "getValue", "()[B"⟩ : MethodName) jdk_68_method_64_code 1 (some (.array .byte)) ({ frames := 0, cells := 0, slots := 0, locals := 0 } : Room) #[(.ref sb)] h0 (fun v h L => v = some (.ref d) ∧ L = [] ∧ h = h0) := by
  refine own_Con_of pn_30 ?_
  intro p e s m below meth c s₁ X0 hx hby hml hret hlk hnm hown hZ e0
  have hown : s.vm.findClass "java/lang/AbstractStringBuilder" = some m.cls := hown
  have hml : c.maxLocals = 1 := hml
  show own_WP _ _ _ _ _ _ _ (s₁.setTop (entryFrame m #[(.ref sb)] 1))
  rw [ef_con_gv m sb]
  refine own_aloadN (pc' := 1) X0 hx (hb hby d30_0) rfl rfl rfl ?_
  refine own_getF (pc' := 4) X0 hx hZ hown (host := "") (Or.inl (own_w hw 57 rfl)) Via.refl e0 bV (hb hby d30_1) rfl ?_
  intro T1 X1 e1
  refine own_retA X1 hx (fun _ _ _ _ q => q) hlk rfl hret rfl rfl (hb hby d30_4) (by decide) (by decide) ?_
  exact ⟨rfl, rfl, e1⟩
theorem d32_0 : decode jdk_68_method_6_code 0 = .ok (.aload_n 0, 1) := by decide +kernel
theorem d32_1 : decode jdk_68_method_6_code 1 = .ok (.getfield 79, 3) := by decide +kernel
theorem d32_4 : decode jdk_68_method_6_code 4 = .ok (.ireturn, 1) := by decide +kernel
theorem pn_32 : plainFor (⟨"java/lang/AbstractStringBuilder", "length", "()I"⟩ : MethodName) = true := plainFor_of_name (by first | (simp [plainName, overriddenIn]; done) | decide +kernel)
theorem ef_con_al (m : MethodId) (sb : Addr) : entryFrame m #[(.ref sb)] 1 = mkF m 0 #[.val (.ref sb)] [] := by first | (simp [entryFrame, mkF, argsToLocals, Value.category]; done) | rfl
set_option maxRecDepth 65536 in
set_option maxHeartbeats 4000000 in
theorem con_al (l : Launch) (Z : State) (a0 : Array Value) (hw : ∀ d ∈ tables_1, d.before a0 Z = true) (sb : Addr) (h0 : Heap) (n0 : Nat) (Z0 : n0 ≤ h0.size) (cnt : Int32) (bE : Exa Z h0 sb "java/lang/StringBuilder") (bN : Fld Z h0 sb "java/lang/AbstractStringBuilder" "count" "I" (.int cnt)) :
    own_Con l Z (⟨"java/lang/AbstractStringBuilder", "length", "()I"⟩ : MethodName) jdk_68_method_6_code 1 (some .int) ({ frames := 0, cells := 0, slots := 0, locals := 0 } : Room) #[(.ref sb)] h0 (fun v h L => v = some (.int cnt) ∧ L = [] ∧ h = h0) := by
  refine own_Con_of pn_32 ?_
  intro p e s m below meth c s₁ X0 hx hby hml hret hlk hnm hown hZ e0
  have hown : s.vm.findClass "java/lang/AbstractStringBuilder" = some m.cls := hown
  have hml : c.maxLocals = 1 := hml
  show own_WP _ _ _ _ _ _ _ (s₁.setTop (entryFrame m #[(.ref sb)] 1))
  rw [ef_con_al m sb]
  refine own_aloadN (pc' := 1) X0 hx (hb hby d32_0) rfl rfl rfl ?_
  refine own_getF (pc' := 4) X0 hx hZ hown (host := "") (Or.inl (own_w hw 83 rfl)) Via.refl e0 bN (hb hby d32_1) rfl ?_
  intro T1 X1 e1
  refine own_retI X1 hx (fun _ _ _ _ q => q) hlk hret (hb hby d32_4) (by decide) (by decide) ?_
  exact ⟨rfl, rfl, e1⟩
theorem d31_0 : decode jdk_67_method_93_code 0 = .ok (.aload_n 0, 1) := by decide +kernel
theorem d31_1 : decode jdk_67_method_93_code 1 = .ok (.invokespecial 343, 3) := by decide +kernel
theorem d31_4 : decode jdk_67_method_93_code 4 = .ok (.ireturn, 1) := by decide +kernel
theorem pn_31 : plainFor (⟨"java/lang/StringBuilder", "length", "()I"⟩ : MethodName) = true := plainFor_of_name (by first | (simp [plainName, overriddenIn]; done) | decide +kernel)
theorem ef_con_sl (m : MethodId) (sb : Addr) : entryFrame m #[(.ref sb)] 1 = mkF m 0 #[.val (.ref sb)] [] := by first | (simp [entryFrame, mkF, argsToLocals, Value.category]; done) | rfl
set_option maxRecDepth 65536 in
set_option maxHeartbeats 4000000 in
theorem con_sl (l : Launch) (Z : State) (a0 : Array Value) (hw : ∀ d ∈ tables_1, d.before a0 Z = true) (sb : Addr) (h0 : Heap) (n0 : Nat) (Z0 : n0 ≤ h0.size) (cnt : Int32) (bE : Exa Z h0 sb "java/lang/StringBuilder") (bN : Fld Z h0 sb "java/lang/AbstractStringBuilder" "count" "I" (.int cnt)) :
    own_Con l Z (⟨"java/lang/StringBuilder", "length", "()I"⟩ : MethodName) jdk_67_method_93_code 1 (some .int) ({ frames := 1, cells := 0, slots := 0, locals := 12 } : Room) #[(.ref sb)] h0 (fun v h L => v = some (.int cnt) ∧ L = [] ∧ h = h0) := by
  refine own_Con_of pn_31 ?_
  intro p e s m below meth c s₁ X0 hx hby hml hret hlk hnm hown hZ e0
  have hown : s.vm.findClass "java/lang/StringBuilder" = some m.cls := hown
  have hml : c.maxLocals = 1 := hml
  show own_WP _ _ _ _ _ _ _ (s₁.setTop (entryFrame m #[(.ref sb)] 1))
  rw [ef_con_sl m sb]
  refine own_aloadN (pc' := 1) X0 hx (hb hby d31_0) rfl rfl rfl ?_
  refine own_callSup (pc' := 4) (W := 0) (y := (⟨"java/lang/AbstractStringBuilder", "length", "()I"⟩ : MethodName)) X0 hx hZ hown (own_w hw 184 rfl) (own_w hw 180 rfl) (own_same (y := (⟨"java/lang/AbstractStringBuilder", "length", "()I"⟩ : MethodName)) (by decide) (own_w hw 180 rfl) (own_nif (y := (⟨"java/lang/AbstractStringBuilder", "ensureCapacityInternal", "(I)V"⟩ : MethodName)) (own_w hw 88 rfl))) (own_w hw 69 rfl) (by decide) (own_w hw 53 rfl) (own_w hw 185 rfl) bE (con_al l Z a0 hw sb _ n0 Z0 _ bE bN) e0 pd14 [] [] rfl rfl rfl (Nat.le_of_eq rfl) (by decide) (by decide) (by rw [hml]; rfl) (hb hby d31_1) (by decide) (by decide) rfl ?_
  intro v1 T1 L1 X1 q1
  obtain ⟨rfl, rfl, e1⟩ := q1
  show own_WP _ _ _ _ _ _ _ (T1.setTop (mkF m 4 #[.val (.ref sb)] [(.int cnt)]))
  refine own_retI X1 hx (fun _ _ _ _ q => q) hlk hret (hb hby d31_4) (by decide) (by decide) ?_
  exact ⟨rfl, rfl, e1⟩
theorem d35_0 : decode jdk_65_method_131_code 0 = .ok (.iload_n 1, 1) := by decide +kernel
theorem d35_1 : decode jdk_65_method_131_code 1 = .ok (.iload_n 0, 1) := by decide +kernel
theorem d35_2 : decode jdk_65_method_131_code 2 = .ok (.if_icmp .ge 35, 3) := by decide +kernel
theorem d35_37 : decode jdk_65_method_131_code 37 = .ok (.return_, 1) := by decide +kernel
theorem pn_35 : plainFor (⟨"java/util/Arrays", "checkLength", "(II)V"⟩ : MethodName) = true := plainFor_of_name (by first | (simp [plainName, overriddenIn]; done) | decide +kernel)
theorem ef_con_ck (m : MethodId) (c2 : Int32) : entryFrame m #[(.int (0 : Int32)), (.int c2)] 2 = mkF m 0 #[.val (.int (0 : Int32)), .val (.int c2)] [] := by first | (simp [entryFrame, mkF, argsToLocals, Value.category]; done) | rfl
set_option maxRecDepth 65536 in
set_option maxHeartbeats 4000000 in
theorem con_ck (l : Launch) (Z : State) (a0 : Array Value) (hw : ∀ d ∈ tables_1, d.before a0 Z = true) (c2 : Int32) (h0 : Heap) (n0 : Nat) (Z0 : n0 ≤ h0.size) (hc : ¬ c2 < 0) :
    own_Con l Z (⟨"java/util/Arrays", "checkLength", "(II)V"⟩ : MethodName) jdk_65_method_131_code 2 none ({ frames := 0, cells := 0, slots := 0, locals := 0 } : Room) #[(.int (0 : Int32)), (.int c2)] h0 (fun v h L => v = none ∧ L = [] ∧ h = h0) := by
  refine own_Con_of pn_35 ?_
  intro p e s m below meth c s₁ X0 hx hby hml hret hlk hnm hown hZ e0
  have hown : s.vm.findClass "java/util/Arrays" = some m.cls := hown
  have hml : c.maxLocals = 2 := hml
  show own_WP _ _ _ _ _ _ _ (s₁.setTop (entryFrame m #[(.int (0 : Int32)), (.int c2)] 2))
  rw [ef_con_ck m c2]
  refine own_iloadN (pc' := 1) X0 hx (hb hby d35_0) rfl rfl ?_
  refine own_iloadN (pc' := 2) X0 hx (hb hby d35_1) rfl rfl ?_
  refine own_icmp_ge (pt := 37) (pf := 5) X0 hx (hb hby d35_2) rfl (by decide) rfl (fun hc2 => ?_) (fun hc2 => absurd hc2 (hc))
  refine own_ret0 X0 hx (fun _ _ _ _ q => q) hlk hret (hb hby d35_37) (by decide) (by decide) ?_
  exact ⟨rfl, rfl, e0⟩
theorem d34_0 : decode jdk_65_method_133_code 0 = .ok (.iload_n 1, 1) := by decide +kernel
theorem d34_1 : decode jdk_65_method_133_code 1 = .ok (.iload_n 2, 1) := by decide +kernel
theorem d34_2 : decode jdk_65_method_133_code 2 = .ok (.invokestatic 343, 3) := by decide +kernel
theorem d34_5 : decode jdk_65_method_133_code 5 = .ok (.iload_n 2, 1) := by decide +kernel
theorem d34_6 : decode jdk_65_method_133_code 6 = .ok (.iload_n 1, 1) := by decide +kernel
theorem d34_7 : decode jdk_65_method_133_code 7 = .ok (.isub, 1) := by decide +kernel
theorem d34_8 : decode jdk_65_method_133_code 8 = .ok (.istore_n 3, 1) := by decide +kernel
theorem d34_9 : decode jdk_65_method_133_code 9 = .ok (.iload_n 3, 1) := by decide +kernel
theorem d34_10 : decode jdk_65_method_133_code 10 = .ok (.newarray .byte, 2) := by decide +kernel
theorem d34_12 : decode jdk_65_method_133_code 12 = .ok (.astore 4, 2) := by decide +kernel
theorem d34_14 : decode jdk_65_method_133_code 14 = .ok (.aload_n 0, 1) := by decide +kernel
theorem d34_15 : decode jdk_65_method_133_code 15 = .ok (.iload_n 1, 1) := by decide +kernel
theorem d34_16 : decode jdk_65_method_133_code 16 = .ok (.aload 4, 2) := by decide +kernel
theorem d34_18 : decode jdk_65_method_133_code 18 = .ok (.iconst 0, 1) := by decide +kernel
theorem d34_19 : decode jdk_65_method_133_code 19 = .ok (.aload_n 0, 1) := by decide +kernel
theorem d34_20 : decode jdk_65_method_133_code 20 = .ok (.arraylength, 1) := by decide +kernel
theorem d34_21 : decode jdk_65_method_133_code 21 = .ok (.iload_n 1, 1) := by decide +kernel
theorem d34_22 : decode jdk_65_method_133_code 22 = .ok (.isub, 1) := by decide +kernel
theorem d34_23 : decode jdk_65_method_133_code 23 = .ok (.iload_n 3, 1) := by decide +kernel
theorem d34_24 : decode jdk_65_method_133_code 24 = .ok (.invokestatic 304, 3) := by decide +kernel
theorem d34_27 : decode jdk_65_method_133_code 27 = .ok (.invokestatic 150, 3) := by decide +kernel
theorem d34_30 : decode jdk_65_method_133_code 30 = .ok (.aload 4, 2) := by decide +kernel
theorem d34_32 : decode jdk_65_method_133_code 32 = .ok (.areturn, 1) := by decide +kernel
theorem pn_34 : plainFor (⟨"java/util/Arrays", "copyOfRangeByte", "([BII)[B"⟩ : MethodName) = true := plainFor_of_name (by first | (simp [plainName, overriddenIn]; done) | decide +kernel)
theorem ef_con_cb (m : MethodId) (b0 : Addr) (c2 : Int32) : entryFrame m #[(.ref b0), (.int (0 : Int32)), (.int c2)] 5 = mkF m 0 #[.val (.ref b0), .val (.int (0 : Int32)), .val (.int c2), .unset, .unset] [] := by first | (simp [entryFrame, mkF, argsToLocals, Value.category]; done) | rfl
set_option maxRecDepth 65536 in
set_option maxHeartbeats 4000000 in
theorem con_cb (l : Launch) (Z : State) (a0 : Array Value) (hw : ∀ d ∈ tables_1, d.before a0 Z = true) (b0 : Addr) (c2 : Int32) (h0 : Heap) (n0 : Nat) (Z0 : n0 ≤ h0.size) (kb : ClassId) (zc : Int32) (vs : List Value) (hA : Arv Z h0 b0 kb .byte zc vs (.int (0 : Int32))) (hB : own_BA Z kb) (hzc : 0 ≤ c2.toInt ∧ c2.toInt < zc.toInt ∧ zc.toInt ≤ 170) (hlen : vs.length = zc.toNatClampNeg) :
    own_Con l Z (⟨"java/util/Arrays", "copyOfRangeByte", "([BII)[B"⟩ : MethodName) jdk_65_method_133_code 5 (some (.array .byte)) ({ frames := 1, cells := 1, slots := 170, locals := 32 } : Room) #[(.ref b0), (.int (0 : Int32)), (.int c2)] h0 (fun v h L => ∃ (b : Addr) (kb : ClassId) (us : List Value), v = some (.ref b) ∧ Fr n0 L ∧ Keep h0 h [] ∧ h0.size ≤ b ∧ Arv Z h b kb .byte c2 us (.int (0 : Int32)) ∧ us = vs.take c2.toNatClampNeg) := by
  refine own_Con_of pn_34 ?_
  intro p e s m below meth c s₁ X0 hx hby hml hret hlk hnm hown hZ e0
  have hown : s.vm.findClass "java/util/Arrays" = some m.cls := hown
  have hml : c.maxLocals = 5 := hml
  have N0 := Fr.nil n0
  show own_WP _ _ _ _ _ _ _ (s₁.setTop (entryFrame m #[(.ref b0), (.int (0 : Int32)), (.int c2)] 5))
  rw [ef_con_cb m b0 c2]
  refine own_iloadN (pc' := 1) X0 hx (hb hby d34_0) rfl rfl ?_
  refine own_iloadN (pc' := 2) X0 hx (hb hby d34_1) rfl rfl ?_
  refine own_callS (pc' := 5) (W := 0) (y := (⟨"java/util/Arrays", "checkLength", "(II)V"⟩ : MethodName)) X0 hx hZ hown (own_w hw 193 rfl) (own_w hw 194 rfl) (own_w hw 107 rfl) (own_w hw 195 rfl) (by decide) (con_ck l Z a0 hw c2 _ n0 Z0 (own_nn (by omega))) e0 pd2 [(.int (0 : Int32)), (.int c2)] [] rfl rfl rfl (Nat.le_of_eq rfl) (by decide) (by decide) (by rw [hml]; rfl) (hb hby d34_2) (by decide) (by decide) rfl ?_
  intro v1 T1 L1 X1 q1
  obtain ⟨rfl, rfl, e1⟩ := q1
  have M1 := Fr.nil n0
  have N1 := Fr.app N0 M1
  show own_WP _ _ _ _ _ _ _ (T1.setTop (mkF m 5 #[.val (.ref b0), .val (.int (0 : Int32)), .val (.int c2), .unset, .unset] []))
  refine own_iloadN (pc' := 6) X1 hx (hb hby d34_5) rfl rfl ?_
  refine own_iloadN (pc' := 7) X1 hx (hb hby d34_6) rfl rfl ?_
  refine own_isub (pc' := 8) X1 hx (hb hby d34_7) rfl ?_
  rw [own_sub0]
  refine own_istoreN (pc' := 9) (l' := #[.val (.ref b0), .val (.int (0 : Int32)), .val (.int c2), .val (.int c2), .unset]) X1 hx (hb hby d34_8) rfl rfl rfl ?_
  refine own_iloadN (pc' := 10) X1 hx (hb hby d34_9) rfl rfl ?_
  refine own_newP (pc' := 12) (cap := 170) X1 hx hZ (own_w hw 15 rfl) e1 (hb hby d34_10) (own_nn (by omega)) (by have q := own_nat (x := c2) (by omega); omega) (by decide) (by decide) (by decide) rfl ?_
  intro T2 h2 k2 b2 g2 X2 e2 E2 A2
  have g_b2 : n0 ≤ b2 := Nat.le_trans Z0 (Nat.le_of_eq g2.symm)
  have sz_b2 : h0.size ≤ b2 := Nat.le_trans (Keep.refl h0 []).1 (Nat.le_of_eq g2.symm)
  have K2 : Keep h0 h2 [] := (Keep.refl h0 []).ext E2
  have V2 : Arv Z h2 b2 k2 .byte c2 (List.replicate c2.toNatClampNeg (.int (0 : Int32))) (.int (0 : Int32)) := (Arv.new A2 (own_nn (by omega))).pad (pad_rep [] (.int (0 : Int32)) c2.toNatClampNeg)
  refine own_astore (pc' := 14) (l' := #[.val (.ref b0), .val (.int (0 : Int32)), .val (.int c2), .val (.int c2), .val (.ref b2)]) X2 hx (hb hby d34_12) rfl rfl rfl ?_
  refine own_aloadN (pc' := 15) X2 hx (hb hby d34_14) rfl rfl rfl ?_
  refine own_iloadN (pc' := 16) X2 hx (hb hby d34_15) rfl rfl ?_
  refine own_aload (pc' := 18) X2 hx (hb hby d34_16) rfl rfl rfl ?_
  refine own_iconst (pc' := 19) X2 hx (0 : Int32) (hb hby d34_18) rfl rfl ?_
  refine own_aloadN (pc' := 20) X2 hx (hb hby d34_19) rfl rfl rfl ?_
  have f3 := (hA.ext E2)
  refine own_arrlen (pc' := 21) X2 hx hZ e2 f3 (hb hby d34_20) rfl ?_
  refine own_iloadN (pc' := 22) X2 hx (hb hby d34_21) rfl rfl ?_
  refine own_isub (pc' := 23) X2 hx (hb hby d34_22) rfl ?_
  rw [own_sub0]
  refine own_iloadN (pc' := 24) X2 hx (hb hby d34_23) rfl rfl ?_
  refine own_callS (pc' := 27) (W := 4) (y := (⟨"java/lang/Math", "min", "(II)I"⟩ : MethodName)) X2 hx hZ hown (own_w hw 109 rfl) (own_w hw 110 rfl) (own_w hw 101 rfl) (own_w hw 111 rfl) (by decide) (con_min l Z a0 hw zc c2 _) e2 pd8 [(.int zc), (.int c2)] [(.int (0 : Int32)), (.ref b2), (.int (0 : Int32)), (.ref b0)] rfl rfl rfl (Nat.le_of_eq rfl) (by decide) (by decide) (by rw [hml]; rfl) (hb hby d34_24) (by decide) (by decide) rfl ?_
  intro v4 T4 L4 X4 q4
  obtain ⟨r4, rfl, hr4, rfl, e4⟩ := q4
  have M4 := Fr.nil n0
  have N4 := Fr.app N1 M4
  show own_WP _ _ _ _ _ _ _ (T4.setTop (mkF m 27 #[.val (.ref b0), .val (.int (0 : Int32)), .val (.int c2), .val (.int c2), .val (.ref b2)] [(.int r4), (.int (0 : Int32)), (.ref b2), (.int (0 : Int32)), (.ref b0)]))
  have hmn := own_mn hr4
  have er4 : c2 = r4 := Int32.toInt_inj.mp (by omega)
  subst er4
  have q1 := own_nat (x := c2) (by omega)
  have q2 := own_nat (x := zc) (by omega)
  refine own_cpA (pc' := 30) (W := 0) (n0 := n0) X4 hx hZ hown (own_w hw 112 rfl) (own_w hw 115 rfl) (own_w hw 113 rfl) (own_w hw 114 rfl) e4 f3 V2 (by decide) (by decide) (own_nn (by omega)) (by show 0 + _ ≤ _; omega) (by show 0 + _ ≤ _; omega) (own_us (by show 0 + _ ≤ _; omega)) (by rw [List.length_replicate]; show 0 + _ ≤ _; omega) N4 g_b2 (by rw [hml]; rfl) (hb hby d34_27) (by decide) (Nat.le_of_eq rfl) (by decide) rfl ?_
  intro T5 h5 L5 X5 e5 N5 K5 V5
  have KK5 : Keep h0 h5 [] := K2.trans K5 (allS (P := fun x => x ∈ [] ∨ h0.size ≤ x) (Or.inr sz_b2) all0)
  refine own_aload (pc' := 32) X5 hx (hb hby d34_30) rfl rfl rfl ?_
  refine own_retA X5 hx (fun _ _ _ _ q => q) hlk rfl hret rfl rfl (hb hby d34_32) (by decide) (by decide) ?_
  rw [e5]
  have q := V5
  refine ⟨b2, k2, _, rfl, N5, KK5, sz_b2, q, ?_⟩
  rw [own_t0, List.take_zero, List.nil_append, List.drop_zero, Nat.zero_add, List.drop_eq_nil_of_le (by rw [List.length_replicate]; exact Nat.le_refl _), List.append_nil]
theorem d33_0 : decode jdk_65_method_132_code 0 = .ok (.iload_n 1, 1) := by decide +kernel
theorem d33_1 : decode jdk_65_method_132_code 1 = .ok (.ifCond .ne 9, 3) := by decide +kernel
theorem d33_4 : decode jdk_65_method_132_code 4 = .ok (.iload_n 2, 1) := by decide +kernel
theorem d33_5 : decode jdk_65_method_132_code 5 = .ok (.aload_n 0, 1) := by decide +kernel
theorem d33_6 : decode jdk_65_method_132_code 6 = .ok (.arraylength, 1) := by decide +kernel
theorem d33_7 : decode jdk_65_method_132_code 7 = .ok (.if_icmp .eq 10, 3) := by decide +kernel
theorem d33_10 : decode jdk_65_method_132_code 10 = .ok (.aload_n 0, 1) := by decide +kernel
theorem d33_11 : decode jdk_65_method_132_code 11 = .ok (.iload_n 1, 1) := by decide +kernel
theorem d33_12 : decode jdk_65_method_132_code 12 = .ok (.iload_n 2, 1) := by decide +kernel
theorem d33_13 : decode jdk_65_method_132_code 13 = .ok (.invokestatic 339, 3) := by decide +kernel
theorem d33_16 : decode jdk_65_method_132_code 16 = .ok (.areturn, 1) := by decide +kernel
theorem pn_33 : plainFor (⟨"java/util/Arrays", "copyOfRange", "([BII)[B"⟩ : MethodName) = true := plainFor_of_name (by first | (simp [plainName, overriddenIn]; done) | decide +kernel)
theorem ef_con_cr (m : MethodId) (b0 : Addr) (c2 : Int32) : entryFrame m #[(.ref b0), (.int (0 : Int32)), (.int c2)] 3 = mkF m 0 #[.val (.ref b0), .val (.int (0 : Int32)), .val (.int c2)] [] := by first | (simp [entryFrame, mkF, argsToLocals, Value.category]; done) | rfl
theorem pd21 : parseMethodDescriptor "([BII)[B" = some ⟨[(.array .byte), .int, .int], some (.array .byte)⟩ := by decide +kernel
set_option maxRecDepth 65536 in
set_option maxHeartbeats 4000000 in
theorem con_cr (l : Launch) (Z : State) (a0 : Array Value) (hw : ∀ d ∈ tables_1, d.before a0 Z = true) (b0 : Addr) (c2 : Int32) (h0 : Heap) (n0 : Nat) (Z0 : n0 ≤ h0.size) (kb : ClassId) (zc : Int32) (vs : List Value) (hA : Arv Z h0 b0 kb .byte zc vs (.int (0 : Int32))) (hB : own_BA Z kb) (hzc : 0 ≤ c2.toInt ∧ c2.toInt < zc.toInt ∧ zc.toInt ≤ 170) (hlen : vs.length = zc.toNatClampNeg) :
    own_Con l Z (⟨"java/util/Arrays", "copyOfRange", "([BII)[B"⟩ : MethodName) jdk_65_method_132_code 3 (some (.array .byte)) ({ frames := 2, cells := 1, slots := 170, locals := 48 } : Room) #[(.ref b0), (.int (0 : Int32)), (.int c2)] h0 (fun v h L => ∃ (b : Addr) (kb : ClassId) (us : List Value), v = some (.ref b) ∧ Fr n0 L ∧ Keep h0 h [] ∧ h0.size ≤ b ∧ Arv Z h b kb .byte c2 us (.int (0 : Int32)) ∧ us = vs.take c2.toNatClampNeg) := by
  refine own_Con_of pn_33 ?_
  intro p e s m below meth c s₁ X0 hx hby hml hret hlk hnm hown hZ e0
  have hown : s.vm.findClass "java/util/Arrays" = some m.cls := hown
  have hml : c.maxLocals = 3 := hml
  have N0 := Fr.nil n0
  show own_WP _ _ _ _ _ _ _ (s₁.setTop (entryFrame m #[(.ref b0), (.int (0 : Int32)), (.int c2)] 3))
  rw [ef_con_cr m b0 c2]
  refine own_iloadN (pc' := 1) X0 hx (hb hby d33_0) rfl rfl ?_
  refine own_if_ne (pt := 10) (pf := 4) X0 hx (hb hby d33_1) rfl (by decide) rfl (fun hc1 => absurd (by decide) hc1) (fun hc1 => ?_)
  refine own_iloadN (pc' := 5) X0 hx (hb hby d33_4) rfl rfl ?_
  refine own_aloadN (pc' := 6) X0 hx (hb hby d33_5) rfl rfl rfl ?_
  refine own_arrlen (pc' := 7) X0 hx hZ e0 hA (hb hby d33_6) rfl ?_
  refine own_icmp_eq (pt := 17) (pf := 10) X0 hx (hb hby d33_7) rfl (by decide) rfl (fun hc7 => absurd hc7 (fun q => by rw [q] at hzc; omega)) (fun hc7 => ?_)
  refine own_aloadN (pc' := 11) X0 hx (hb hby d33_10) rfl rfl rfl ?_
  refine own_iloadN (pc' := 12) X0 hx (hb hby d33_11) rfl rfl ?_
  refine own_iloadN (pc' := 13) X0 hx (hb hby d33_12) rfl rfl ?_
  refine own_callS (pc' := 16) (W := 0) (y := (⟨"java/util/Arrays", "copyOfRangeByte", "([BII)[B"⟩ : MethodName)) X0 hx hZ hown (own_w hw 190 rfl) (own_w hw 191 rfl) (own_w hw 107 rfl) (own_w hw 192 rfl) (by decide) (con_cb l Z a0 hw b0 c2 _ n0 Z0 kb zc vs hA hB (by omega) hlen) e0 pd21 [(.ref b0), (.int (0 : Int32)), (.int c2)] [] rfl rfl rfl (Nat.le_of_eq rfl) (by decide) (by decide) (by rw [hml]; rfl) (hb hby d33_13) (by decide) (by decide) rfl ?_
  intro v1 T1 L1 X1 q1
  obtain ⟨c1, k1, u1, rfl, M1, K1, s1, V1, hu1⟩ := q1
  have sz_c1 : h0.size ≤ c1 := Nat.le_trans (Keep.refl h0 []).1 s1
  obtain ⟨h1, e1⟩ : ∃ z, z = T1.heap := ⟨_, rfl⟩
  rw [← e1] at K1 V1
  have e1 := e1.symm
  have KK1 : Keep h0 h1 [] := (Keep.refl h0 []).trans K1 all0
  have N1 := Fr.app N0 M1
  show own_WP _ _ _ _ _ _ _ (T1.setTop (mkF m 16 #[.val (.ref b0), .val (.int (0 : Int32)), .val (.int c2)] [(.ref c1)]))
  refine own_retA X1 hx (fun _ _ _ _ q => q) hlk rfl hret rfl rfl (hb hby d33_16) (by decide) (by decide) ?_
  rw [e1]
  exact ⟨c1, _, _, rfl, N1, KK1, sz_c1, V1, hu1⟩
theorem d29_0 : decode jdk_42_method_150_code 0 = .ok (.aload_n 0, 1) := by decide +kernel
theorem d29_1 : decode jdk_42_method_150_code 1 = .ok (.invokespecial 1, 3) := by decide +kernel
theorem d29_4 : decode jdk_42_method_150_code 4 = .ok (.aload_n 1, 1) := by decide +kernel
theorem d29_5 : decode jdk_42_method_150_code 5 = .ok (.invokevirtual 552, 3) := by decide +kernel
theorem d29_8 : decode jdk_42_method_150_code 8 = .ok (.astore_n 3, 1) := by decide +kernel
theorem d29_9 : decode jdk_42_method_150_code 9 = .ok (.aload_n 1, 1) := by decide +kernel
theorem d29_10 : decode jdk_42_method_150_code 10 = .ok (.invokevirtual 549, 3) := by decide +kernel
theorem d29_13 : decode jdk_42_method_150_code 13 = .ok (.istore 4, 2) := by decide +kernel
theorem d29_15 : decode jdk_42_method_150_code 15 = .ok (.aload_n 1, 1) := by decide +kernel
theorem d29_16 : decode jdk_42_method_150_code 16 = .ok (.invokevirtual 1047, 3) := by decide +kernel
theorem d29_19 : decode jdk_42_method_150_code 19 = .ok (.ifCond .eq 22, 3) := by decide +kernel
theorem d29_22 : decode jdk_42_method_150_code 22 = .ok (.aload_n 0, 1) := by decide +kernel
theorem d29_23 : decode jdk_42_method_150_code 23 = .ok (.iconst 0, 1) := by decide +kernel
theorem d29_24 : decode jdk_42_method_150_code 24 = .ok (.putfield 15, 3) := by decide +kernel
theorem d29_27 : decode jdk_42_method_150_code 27 = .ok (.aload_n 0, 1) := by decide +kernel
theorem d29_28 : decode jdk_42_method_150_code 28 = .ok (.aload_n 3, 1) := by decide +kernel
theorem d29_29 : decode jdk_42_method_150_code 29 = .ok (.iconst 0, 1) := by decide +kernel
theorem d29_30 : decode jdk_42_method_150_code 30 = .ok (.iload 4, 2) := by decide +kernel
theorem d29_32 : decode jdk_42_method_150_code 32 = .ok (.invokestatic 54, 3) := by decide +kernel
theorem d29_35 : decode jdk_42_method_150_code 35 = .ok (.putfield 9, 3) := by decide +kernel
theorem d29_38 : decode jdk_42_method_150_code 38 = .ok (.goto 59, 3) := by decide +kernel
theorem d29_97 : decode jdk_42_method_150_code 97 = .ok (.return_, 1) := by decide +kernel
theorem pn_29 : plainFor (⟨"java/lang/String", "<init>", "(Ljava/lang/AbstractStringBuilder;Ljava/lang/Void;)V"⟩ : MethodName) = true := plainFor_of_name (by first | (simp [plainName, overriddenIn]; done) | decide +kernel)
theorem ef_con_ia (m : MethodId) (a : Addr) (sb : Addr) : entryFrame m #[(.ref a), (.ref sb), .null] 5 = mkF m 0 #[.val (.ref a), .val (.ref sb), .val .null, .unset, .unset] [] := by first | (simp [entryFrame, mkF, argsToLocals, Value.category]; done) | rfl
theorem pd22 : parseMethodDescriptor "()[B" = some ⟨[], some (.array .byte)⟩ := by decide +kernel
set_option maxRecDepth 65536 in
set_option maxHeartbeats 4000000 in
theorem con_ia (l : Launch) (Z : State) (a0 : Array Value) (hw : ∀ d ∈ tables_1, d.before a0 Z = true) (a : Addr) (sb : Addr) (h0 : Heap) (n0 : Nat) (Z0 : n0 ≤ h0.size) (G1 : Int32) (fm : Value) (hG : own_G Z G1 fm) (X00 : own_Old Z n0 h0) (d : Addr) (kd : ClassId) (cap cnt : Int32) (vs : List Value) (bE : Exa Z h0 sb "java/lang/StringBuilder") (bV : Fld Z h0 sb "java/lang/AbstractStringBuilder" "value" "[B" (.ref d)) (bC : Fld Z h0 sb "java/lang/AbstractStringBuilder" "coder" "B" (.int (0 : Int32))) (bN : Fld Z h0 sb "java/lang/AbstractStringBuilder" "count" "I" (.int cnt)) (bA : Arv Z h0 d kd .byte cap vs (.int (0 : Int32))) (hB : own_BA Z kd) (v0 c0 : Value) (hE : Exa Z h0 a "java/lang/String") (hC : Fld Z h0 a "java/lang/String" "coder" "B" c0) (hV : Fld Z h0 a "java/lang/String" "value" "[B" v0) (g_a : n0 ≤ a) (ne_a_sb : a ≠ sb) (ne_sb_a : sb ≠ a) (ne_a_d : a ≠ d) (ne_d_a : d ≠ a) (hcap : 0 ≤ cnt.toInt ∧ cnt.toInt < cap.toInt ∧ cap.toInt ≤ 170) (hlen : vs.length = cap.toNatClampNeg) :
    own_Con l Z (⟨"java/lang/String", "<init>", "(Ljava/lang/AbstractStringBuilder;Ljava/lang/Void;)V"⟩ : MethodName) jdk_42_method_150_code 5 none ({ frames := 3, cells := 1, slots := 170, locals := 66 } : Room) #[(.ref a), (.ref sb), .null] h0 (fun v h L => ∃ (b : Addr) (kb : ClassId) (us : List Value), v = none ∧ Fr n0 L ∧ Keep h0 h [a] ∧ h0.size ≤ b ∧ Exa Z h a "java/lang/String" ∧ Fld Z h a "java/lang/String" "coder" "B" (.int (0 : Int32)) ∧ Fld Z h a "java/lang/String" "value" "[B" (.ref b) ∧ Arv Z h b kb .byte cnt us (.int (0 : Int32)) ∧ us = vs.take cnt.toNatClampNeg) := by
  refine own_Con_of pn_29 ?_
  intro p e s m below meth c s₁ X0 hx hby hml hret hlk hnm hown hZ e0
  have hown : s.vm.findClass "java/lang/String" = some m.cls := hown
  have hml : c.maxLocals = 5 := hml
  have N0 := Fr.nil n0
  show own_WP _ _ _ _ _ _ _ (s₁.setTop (entryFrame m #[(.ref a), (.ref sb), .null] 5))
  rw [ef_con_ia m a sb]
  refine own_aloadN (pc' := 1) X0 hx (hb hby d29_0) rfl rfl rfl ?_
  refine own_initO (pc' := 4) (W := 0) X0 hx hZ hown (own_w hw 11 rfl) (own_w hw 12 rfl) (own_w hw 13 rfl) e0 (by rw [hml]; rfl) (hb hby d29_1) (by decide) (Nat.le_of_eq rfl) (by decide) rfl ?_
  intro T1 X1 e1
  refine own_aloadN (pc' := 5) X1 hx (hb hby d29_4) rfl rfl rfl ?_
  refine own_callV (pc' := 8) (W := 0) (y := (⟨"java/lang/AbstractStringBuilder", "getValue", "()[B"⟩ : MethodName)) (z := (⟨"java/lang/AbstractStringBuilder", "getValue", "()[B"⟩ : MethodName)) X1 hx hZ hown (own_w hw 173 rfl) (own_w hw 174 rfl) (notFace_of_selects (args := #[]) (mvT hZ (own_w hw 176 rfl))) (own_w hw 176 rfl) (own_w hw 175 rfl) (own_w hw 53 rfl) (own_w hw 177 rfl) (by decide) bE (con_gv l Z a0 hw sb _ n0 Z0 _ bV) e1 pd22 [] [] rfl rfl rfl (Nat.le_of_eq rfl) (by decide) (by decide) (by rw [hml]; rfl) (hb hby d29_5) (by decide) (by decide) rfl ?_
  intro v2 T2 L2 X2 q2
  obtain ⟨rfl, rfl, e2⟩ := q2
  have M2 := Fr.nil n0
  have N2 := Fr.app N0 M2
  show own_WP _ _ _ _ _ _ _ (T2.setTop (mkF m 8 #[.val (.ref a), .val (.ref sb), .val .null, .unset, .unset] [(.ref d)]))
  refine own_astoreN (pc' := 9) (l' := #[.val (.ref a), .val (.ref sb), .val .null, .val (.ref d), .unset]) X2 hx (hb hby d29_8) rfl rfl rfl ?_
  refine own_aloadN (pc' := 10) X2 hx (hb hby d29_9) rfl rfl rfl ?_
  refine own_callV (pc' := 13) (W := 0) (y := (⟨"java/lang/AbstractStringBuilder", "length", "()I"⟩ : MethodName)) (z := (⟨"java/lang/StringBuilder", "length", "()I"⟩ : MethodName)) X2 hx hZ hown (own_w hw 178 rfl) (own_w hw 179 rfl) (own_notface (a0 := #[]) (y := (⟨"java/lang/AbstractStringBuilder", "length", "()I"⟩ : MethodName)) (y1 := (⟨"java/lang/AbstractStringBuilder", "ensureCapacityInternal", "(I)V"⟩ : MethodName)) (by decide) (mvT hZ (own_w hw 88 rfl))) (own_w hw 181 rfl) (own_w hw 182 rfl) (own_w hw 45 rfl) (own_w hw 183 rfl) (by decide) bE (con_sl l Z a0 hw sb _ n0 Z0 _ bE bN) e2 pd14 [] [] rfl rfl rfl (Nat.le_of_eq rfl) (by decide) (by decide) (by rw [hml]; rfl) (hb hby d29_10) (by decide) (by decide) rfl ?_
  intro v3 T3 L3 X3 q3
  obtain ⟨rfl, rfl, e3⟩ := q3
  have M3 := Fr.nil n0
  have N3 := Fr.app N2 M3
  show own_WP _ _ _ _ _ _ _ (T3.setTop (mkF m 13 #[.val (.ref a), .val (.ref sb), .val .null, .val (.ref d), .unset] [(.int cnt)]))
  refine own_istore (pc' := 15) (l' := #[.val (.ref a), .val (.ref sb), .val .null, .val (.ref d), .val (.int cnt)]) X3 hx (hb hby d29_13) rfl rfl rfl ?_
  refine own_aloadN (pc' := 16) X3 hx (hb hby d29_15) rfl rfl rfl ?_
  refine own_callV (pc' := 19) (W := 0) (y := (⟨"java/lang/AbstractStringBuilder", "isLatin1", "()Z"⟩ : MethodName)) (z := (⟨"java/lang/AbstractStringBuilder", "isLatin1", "()Z"⟩ : MethodName)) X3 hx hZ hown (own_w hw 186 rfl) (own_w hw 148 rfl) (notFace_of_selects (args := #[]) (mvT hZ (own_w hw 150 rfl))) (own_w hw 150 rfl) (own_w hw 149 rfl) (own_w hw 53 rfl) (own_w hw 151 rfl) (by decide) bE (con_al1 l Z a0 hw sb _ n0 Z0 G1 fm hG X00 bC) e3 pd3 [] [] rfl rfl rfl (Nat.le_of_eq rfl) (by decide) (by decide) (by rw [hml]; rfl) (hb hby d29_16) (by decide) (by decide) rfl ?_
  intro v4 T4 L4 X4 q4
  obtain ⟨r4, rfl, hr4, rfl, e4⟩ := q4
  have M4 := Fr.nil n0
  have N4 := Fr.app N3 M4
  subst hr4
  show own_WP _ _ _ _ _ _ _ (T4.setTop (mkF m 19 #[.val (.ref a), .val (.ref sb), .val .null, .val (.ref d), .val (.int cnt)] [(.int (1 : Int32))]))
  refine own_if_eq (pt := 41) (pf := 22) X4 hx (hb hby d29_19) rfl (by decide) rfl (fun hc19 => absurd hc19 (by decide)) (fun hc19 => ?_)
  refine own_aloadN (pc' := 23) X4 hx (hb hby d29_22) rfl rfl rfl ?_
  refine own_iconst (pc' := 24) X4 hx (0 : Int32) (hb hby d29_23) rfl rfl ?_
  refine own_putF (pc' := 27) X4 hx hZ hown (host := "") (Or.inl (own_w hw 21 rfl)) Via.refl e4 hC hE (Or.inr ⟨(own_w hw 17 rfl), rfl, hnm⟩) (own_w hw 1 rfl) (ty := .byte) (by decide) rfl rfl (hb hby d29_24) rfl ?_
  intro T5 h5 X5 e5 W5
  have z5 : n0 ≤ h5.size := Nat.le_trans Z0 (Keep.of_wr W5).1
  have Fw5 := hC.same W5
  have N5 := Fr.snoc X5 N4 g_a
  have K5 : Keep h0 h5 [a] := (Keep.refl h0 [a]).wr W5 (Or.inl (List.mem_of_getElem? (i := 0) rfl))
  refine own_aloadN (pc' := 28) X5 hx (hb hby d29_27) rfl rfl rfl ?_
  refine own_aloadN (pc' := 29) X5 hx (hb hby d29_28) rfl rfl rfl ?_
  refine own_iconst (pc' := 30) X5 hx (0 : Int32) (hb hby d29_29) rfl rfl ?_
  refine own_iload (pc' := 32) X5 hx (hb hby d29_30) rfl rfl ?_
  have f7 := (bA.other W5 ne_d_a)
  refine own_callS (pc' := 35) (W := 1) (y := (⟨"java/util/Arrays", "copyOfRange", "([BII)[B"⟩ : MethodName)) X5 hx hZ hown (own_w hw 187 rfl) (own_w hw 188 rfl) (own_w hw 107 rfl) (own_w hw 189 rfl) (by decide) (con_cr l Z a0 hw d cnt _ n0 z5 kd cap vs f7 hB (by omega) hlen) e5 pd21 [(.ref d), (.int (0 : Int32)), (.int cnt)] [(.ref a)] rfl rfl rfl (Nat.le_of_eq rfl) (by decide) (by decide) (by rw [hml]; rfl) (hb hby d29_32) (by decide) (by decide) rfl ?_
  intro v6 T6 L6 X6 q6
  obtain ⟨c6, k6, u6, rfl, M6, K6, s6, V6, hu6⟩ := q6
  have f8 := (hE.wr W5)
  have ne_a_c6 : a ≠ c6 := Nat.ne_of_lt (Nat.lt_of_lt_of_le f8.lt s6)
  have ne_c6_a := ne_a_c6.symm
  have sz_c6 : h0.size ≤ c6 := Nat.le_trans K5.1 s6
  obtain ⟨h6, e6⟩ : ∃ z, z = T6.heap := ⟨_, rfl⟩
  rw [← e6] at K6 V6
  have e6 := e6.symm
  have KK6 : Keep h0 h6 [a] := K5.trans K6 all0
  have N6 := Fr.app N5 M6
  show own_WP _ _ _ _ _ _ _ (T6.setTop (mkF m 35 #[.val (.ref a), .val (.ref sb), .val .null, .val (.ref d), .val (.int cnt)] [(.ref c6), (.ref a)]))
  have f10 := ((hV.other W5 (Or.inr (slot_ne (Or.inr (own_w hw 16 rfl)) (Or.inr (own_w hw 17 rfl)) (by decide) (t := (.array .byte)) (t' := .byte) (by decide +kernel) (by decide +kernel)))).keep K6 nin0)
  have f11 := (f8.keep K6)
  refine own_putF (pc' := 38) X6 hx hZ hown (host := "") (Or.inl (own_w hw 20 rfl)) Via.refl e6 f10 f11 (Or.inr ⟨(own_w hw 16 rfl), rfl, hnm⟩) (own_w hw 1 rfl) (ty := (.array .byte)) (by decide +kernel) rfl rfl (hb hby d29_35) rfl ?_
  intro T12 h12 X12 e12 W12
  have Fw12 := f10.same W12
  have N12 := Fr.snoc X12 N6 g_a
  have K12 : Keep h0 h12 [a] := KK6.wr W12 (Or.inl (List.mem_of_getElem? (i := 0) rfl))
  refine own_goto (pc' := 97) X12 hx (hb hby d29_38) (by decide) rfl ?_
  have f13 := (f11.wr W12)
  have f14 := ((Fw5.keep K6 nin0).other W12 (Or.inr (slot_ne (Or.inr (own_w hw 17 rfl)) (Or.inr (own_w hw 16 rfl)) (by decide) (t := .byte) (t' := (.array .byte)) (by decide +kernel) (by decide +kernel))))
  have f15 := (V6.other W12 ne_c6_a)
  refine own_ret0 X12 hx (fun _ _ _ _ q => q) hlk hret (hb hby d29_97) (by decide) (by decide) ?_
  rw [e12]
  exact ⟨c6, k6, u6, rfl, N12, K12, sz_c6, f13, f14, Fw12, f15, hu6⟩
theorem d28_0 : decode jdk_42_method_53_code 0 = .ok (.aload_n 0, 1) := by decide +kernel
theorem d28_1 : decode jdk_42_method_53_code 1 = .ok (.aload_n 1, 1) := by decide +kernel
theorem d28_2 : decode jdk_42_method_53_code 2 = .ok (.aconst_null, 1) := by decide +kernel
theorem d28_3 : decode jdk_42_method_53_code 3 = .ok (.invokespecial 489, 3) := by decide +kernel
theorem d28_6 : decode jdk_42_method_53_code 6 = .ok (.return_, 1) := by decide +kernel
theorem pn_28 : plainFor (⟨"java/lang/String", "<init>", "(Ljava/lang/StringBuilder;)V"⟩ : MethodName) = true := plainFor_of_name (by first | (simp [plainName, overriddenIn]; done) | decide +kernel)
theorem ef_con_ib (m : MethodId) (a : Addr) (sb : Addr) : entryFrame m #[(.ref a), (.ref sb)] 2 = mkF m 0 #[.val (.ref a), .val (.ref sb)] [] := by first | (simp [entryFrame, mkF, argsToLocals, Value.category]; done) | rfl
theorem pd23 : parseMethodDescriptor "(Ljava/lang/AbstractStringBuilder;Ljava/lang/Void;)V" = some ⟨[(.object "java/lang/AbstractStringBuilder"), (.object "java/lang/Void")], none⟩ := by decide +kernel
set_option maxRecDepth 65536 in
set_option maxHeartbeats 4000000 in
theorem con_ib (l : Launch) (Z : State) (a0 : Array Value) (hw : ∀ d ∈ tables_1, d.before a0 Z = true) (a : Addr) (sb : Addr) (h0 : Heap) (n0 : Nat) (Z0 : n0 ≤ h0.size) (G1 : Int32) (fm : Value) (hG : own_G Z G1 fm) (X00 : own_Old Z n0 h0) (d : Addr) (kd : ClassId) (cap cnt : Int32) (vs : List Value) (bE : Exa Z h0 sb "java/lang/StringBuilder") (bV : Fld Z h0 sb "java/lang/AbstractStringBuilder" "value" "[B" (.ref d)) (bC : Fld Z h0 sb "java/lang/AbstractStringBuilder" "coder" "B" (.int (0 : Int32))) (bN : Fld Z h0 sb "java/lang/AbstractStringBuilder" "count" "I" (.int cnt)) (bA : Arv Z h0 d kd .byte cap vs (.int (0 : Int32))) (hB : own_BA Z kd) (v0 c0 : Value) (hE : Exa Z h0 a "java/lang/String") (hC : Fld Z h0 a "java/lang/String" "coder" "B" c0) (hV : Fld Z h0 a "java/lang/String" "value" "[B" v0) (g_a : n0 ≤ a) (ne_a_sb : a ≠ sb) (ne_sb_a : sb ≠ a) (ne_a_d : a ≠ d) (ne_d_a : d ≠ a) (hcap : 0 ≤ cnt.toInt ∧ cnt.toInt < cap.toInt ∧ cap.toInt ≤ 170) (hlen : vs.length = cap.toNatClampNeg) :
    own_Con l Z (⟨"java/lang/String", "<init>", "(Ljava/lang/StringBuilder;)V"⟩ : MethodName) jdk_42_method_53_code 2 none ({ frames := 4, cells := 1, slots := 170, locals := 82 } : Room) #[(.ref a), (.ref sb)] h0 (fun v h L => ∃ (b : Addr) (kb : ClassId) (us : List Value), v = none ∧ Fr n0 L ∧ Keep h0 h [a] ∧ h0.size ≤ b ∧ Exa Z h a "java/lang/String" ∧ Fld Z h a "java/lang/String" "coder" "B" (.int (0 : Int32)) ∧ Fld Z h a "java/lang/String" "value" "[B" (.ref b) ∧ Arv Z h b kb .byte cnt us (.int (0 : Int32)) ∧ us = vs.take cnt.toNatClampNeg) := by
  refine own_Con_of pn_28 ?_
  intro p e s m below meth c s₁ X0 hx hby hml hret hlk hnm hown hZ e0
  have hown : s.vm.findClass "java/lang/String" = some m.cls := hown
  have hml : c.maxLocals = 2 := hml
  have N0 := Fr.nil n0
  show own_WP _ _ _ _ _ _ _ (s₁.setTop (entryFrame m #[(.ref a), (.ref sb)] 2))
  rw [ef_con_ib m a sb]
  refine own_aloadN (pc' := 1) X0 hx (hb hby d28_0) rfl rfl rfl ?_
  refine own_aloadN (pc' := 2) X0 hx (hb hby d28_1) rfl rfl rfl ?_
  refine own_anull (pc' := 3) X0 hx (hb hby d28_2) rfl ?_
  refine own_callN (pc' := 6) (W := 0) (y := (⟨"java/lang/String", "<init>", "(Ljava/lang/AbstractStringBuilder;Ljava/lang/Void;)V"⟩ : MethodName)) X0 hx hZ rfl hown (own_w hw 170 rfl) (own_w hw 171 rfl) (own_w hw 2 rfl) (own_w hw 172 rfl) (by decide) (con_ia l Z a0 hw a sb _ n0 Z0 G1 fm hG X00 d kd cap cnt vs bE bV bC bN bA hB _ _ hE hC hV g_a ne_a_sb ne_sb_a ne_a_d ne_d_a hcap hlen) e0 pd23 a [(.ref sb), .null] [] rfl rfl rfl (Nat.le_of_eq rfl) (by decide) (by decide) (by rw [hml]; rfl) (hb hby d28_3) (by decide) (by decide) rfl ?_
  intro v1 T1 L1 X1 q1
  obtain ⟨c1, k1, u1, rfl, M1, K1, s1, E1q, F1a, F1b, V1, hu1⟩ := q1
  have sz_c1 : h0.size ≤ c1 := Nat.le_trans (Keep.refl h0 [a]).1 s1
  obtain ⟨h1, e1⟩ : ∃ z, z = T1.heap := ⟨_, rfl⟩
  rw [← e1] at K1 E1q F1a F1b V1
  have e1 := e1.symm
  have KK1 : Keep h0 h1 [a] := (Keep.refl h0 [a]).trans K1 (allS (P := fun x => x ∈ [a] ∨ h0.size ≤ x) (Or.inl (List.mem_of_getElem? (i := 0) rfl)) all0)
  have N1 := Fr.app N0 M1
  show own_WP _ _ _ _ _ _ _ (T1.setTop (mkF m 6 #[.val (.ref a), .val (.ref sb)] []))
  refine own_ret0 X1 hx (fun _ _ _ _ q => q) hlk hret (hb hby d28_6) (by decide) (by decide) ?_
  rw [e1]
  exact ⟨c1, k1, u1, rfl, N1, KK1, sz_c1, E1q, F1a, F1b, V1, hu1⟩
theorem d27_0 : decode jdk_67_method_42_code 0 = .ok (.new 18, 3) := by decide +kernel
theorem d27_3 : decode jdk_67_method_42_code 3 = .ok (.dup, 1) := by decide +kernel
theorem d27_4 : decode jdk_67_method_42_code 4 = .ok (.aload_n 0, 1) := by decide +kernel
theorem d27_5 : decode jdk_67_method_42_code 5 = .ok (.invokespecial 137, 3) := by decide +kernel
theorem d27_8 : decode jdk_67_method_42_code 8 = .ok (.areturn, 1) := by decide +kernel
theorem pn_27 : plainFor (⟨"java/lang/StringBuilder", "toString", "()Ljava/lang/String;"⟩ : MethodName) = true := plainFor_of_name (by first | (simp [plainName, overriddenIn]; done) | decide +kernel)
theorem ef_con_ts (m : MethodId) (sb : Addr) : entryFrame m #[(.ref sb)] 1 = mkF m 0 #[.val (.ref sb)] [] := by first | (simp [entryFrame, mkF, argsToLocals, Value.category]; done) | rfl
theorem pd24 : parseMethodDescriptor "(Ljava/lang/StringBuilder;)V" = some ⟨[(.object "java/lang/StringBuilder")], none⟩ := by decide +kernel
set_option maxRecDepth 65536 in
set_option maxHeartbeats 4000000 in
theorem con_ts (l : Launch) (Z : State) (a0 : Array Value) (hw : ∀ d ∈ tables_1, d.before a0 Z = true) (sb : Addr) (h0 : Heap) (n0 : Nat) (Z0 : n0 ≤ h0.size) (G1 : Int32) (fm : Value) (hG : own_G Z G1 fm) (X00 : own_Old Z n0 h0) (d : Addr) (kd : ClassId) (cap cnt : Int32) (vs : List Value) (bE : Exa Z h0 sb "java/lang/StringBuilder") (bV : Fld Z h0 sb "java/lang/AbstractStringBuilder" "value" "[B" (.ref d)) (bC : Fld Z h0 sb "java/lang/AbstractStringBuilder" "coder" "B" (.int (0 : Int32))) (bN : Fld Z h0 sb "java/lang/AbstractStringBuilder" "count" "I" (.int cnt)) (bA : Arv Z h0 d kd .byte cap vs (.int (0 : Int32))) (hB : own_BA Z kd)(hcap : 0 ≤ cnt.toInt ∧ cnt.toInt < cap.toInt ∧ cap.toInt ≤ 170) (hlen : vs.length = cap.toNatClampNeg) :
    own_Con l Z (⟨"java/lang/StringBuilder", "toString", "()Ljava/lang/String;"⟩ : MethodName) jdk_67_method_42_code 1 (some (.object "java/lang/String")) ({ frames := 5, cells := 2, slots := 174, locals := 97 } : Room) #[(.ref sb)] h0 (fun v h L => ∃ (a b : Addr) (kb : ClassId) (us : List Value), v = some (.ref a) ∧ Fr n0 L ∧ Keep h0 h [] ∧ h0.size ≤ a ∧ h0.size ≤ b ∧ Exa Z h a "java/lang/String" ∧ Fld Z h a "java/lang/String" "coder" "B" (.int (0 : Int32)) ∧ Fld Z h a "java/lang/String" "value" "[B" (.ref b) ∧ Arv Z h b kb .byte cnt us (.int (0 : Int32)) ∧ us = vs.take cnt.toNatClampNeg) := by
  refine own_Con_of pn_27 ?_
  intro p e s m below meth c s₁ X0 hx hby hml hret hlk hnm hown hZ e0
  have hown : s.vm.findClass "java/lang/StringBuilder" = some m.cls := hown
  have hml : c.maxLocals = 1 := hml
  have N0 := Fr.nil n0
  show own_WP _ _ _ _ _ _ _ (s₁.setTop (entryFrame m #[(.ref sb)] 1))
  rw [ef_con_ts m sb]
  refine own_new (pc' := 3) X0 hx hZ hown (own_w hw 166 rfl) (own_w hw 1 rfl) (own_w hw 2 rfl) e0 (hb hby d27_0) (by decide) (by decide) rfl ?_
  intro T1 h1 b1 g1 X1 e1 E1 A1 D1
  have ne_d_b1 : d ≠ b1 := Nat.ne_of_lt (Nat.lt_of_lt_of_le bA.lt (Nat.le_of_eq g1.symm))
  have ne_b1_d := ne_d_b1.symm
  have ne_sb_b1 : sb ≠ b1 := Nat.ne_of_lt (Nat.lt_of_lt_of_le bE.lt (Nat.le_of_eq g1.symm))
  have ne_b1_sb := ne_sb_b1.symm
  have g_b1 : n0 ≤ b1 := Nat.le_trans Z0 (Nat.le_of_eq g1.symm)
  have sz_b1 : h0.size ≤ b1 := Nat.le_trans (Keep.refl h0 []).1 (Nat.le_of_eq g1.symm)
  have o1 : own_Old Z n0 h1 := X00.ext E1
  have z1 : n0 ≤ h1.size := Nat.le_trans Z0 E1.1
  have K1 : Keep h0 h1 [] := (Keep.refl h0 []).ext E1
  have F1_value : Fld Z h1 b1 "java/lang/String" "value" "[B" .null := D1 (Or.inr (own_w hw 16 rfl)) (ty := (.array .byte)) (by decide +kernel)
  have F1_coder : Fld Z h1 b1 "java/lang/String" "coder" "B" (.int (0 : Int32)) := D1 (Or.inr (own_w hw 17 rfl)) (ty := .byte) (by decide)
  refine own_dup (pc' := 4) X1 hx (hb hby d27_3) rfl rfl ?_
  refine own_aloadN (pc' := 5) X1 hx (hb hby d27_4) rfl rfl rfl ?_
  have f3 := (bE.ext E1)
  have f4 := (bV.ext E1)
  have f5 := (bC.ext E1)
  have f6 := (bN.ext E1)
  have f7 := (bA.ext E1)
  refine own_callN (pc' := 8) (W := 1) (y := (⟨"java/lang/String", "<init>", "(Ljava/lang/StringBuilder;)V"⟩ : MethodName)) X1 hx hZ rfl hown (own_w hw 167 rfl) (own_w hw 168 rfl) (own_w hw 2 rfl) (own_w hw 169 rfl) (by decide) (con_ib l Z a0 hw b1 sb _ n0 z1 G1 fm hG o1 d kd cap cnt vs f3 f4 f5 f6 f7 hB _ _ A1 F1_coder F1_value g_b1 ne_b1_sb ne_sb_b1 ne_b1_d ne_d_b1 hcap hlen) e1 pd24 b1 [(.ref sb)] [(.ref b1)] rfl rfl rfl (Nat.le_of_eq rfl) (by decide) (by decide) (by rw [hml]; rfl) (hb hby d27_5) (by decide) (by decide) rfl ?_
  intro v2 T2 L2 X2 q2
  obtain ⟨c2, k2, u2, rfl, M2, K2, s2, E2q, F2a, F2b, V2, hu2⟩ := q2
  have sz_c2 : h0.size ≤ c2 := Nat.le_trans K1.1 s2
  obtain ⟨h2, e2⟩ : ∃ z, z = T2.heap := ⟨_, rfl⟩
  rw [← e2] at K2 E2q F2a F2b V2
  have e2 := e2.symm
  have KK2 : Keep h0 h2 [] := K1.trans K2 (allS (P := fun x => x ∈ [] ∨ h0.size ≤ x) (Or.inr sz_b1) all0)
  have N2 := Fr.app N0 M2
  show own_WP _ _ _ _ _ _ _ (T2.setTop (mkF m 8 #[.val (.ref sb)] [(.ref b1)]))
  refine own_retA X2 hx (fun _ _ _ _ q => q) hlk rfl hret rfl rfl (hb hby d27_8) (by decide) (by decide) ?_
  rw [e2]
  exact ⟨b1, c2, k2, u2, rfl, N2, KK2, sz_b1, sz_c2, E2q, F2a, F2b, V2, hu2⟩
theorem d5_0 : decode jdk_30_method_1_code 0 = .ok (.aload_n 0, 1) := by decide +kernel
theorem d5_1 : decode jdk_30_method_1_code 1 = .ok (.invokespecial 1, 3) := by decide +kernel
theorem d5_4 : decode jdk_30_method_1_code 4 = .ok (.return_, 1) := by decide +kernel
theorem pn_5 : plainFor (⟨"java/lang/Record", "<init>", "()V"⟩ : MethodName) = true := plainFor_of_name (by first | (simp [plainName, overriddenIn]; done) | decide +kernel)
theorem ef_con_rc (m : MethodId) (a : Addr) : entryFrame m #[(.ref a)] 1 = mkF m 0 #[.val (.ref a)] [] := by first | (simp [entryFrame, mkF, argsToLocals, Value.category]; done) | rfl
set_option maxRecDepth 65536 in
set_option maxHeartbeats 4000000 in
theorem con_rc (l : Launch) (Z : State) (a0 : Array Value) (hw : ∀ d ∈ tables_1, d.before a0 Z = true) (a : Addr) (h0 : Heap) (n0 : Nat) (Z0 : n0 ≤ h0.size) :
    own_Con l Z (⟨"java/lang/Record", "<init>", "()V"⟩ : MethodName) jdk_30_method_1_code 1 none ({ frames := 1, cells := 0, slots := 0, locals := 12 } : Room) #[(.ref a)] h0 (fun v h L => v = none ∧ L = [] ∧ h = h0) := by
  refine own_Con_of pn_5 ?_
  intro p e s m below meth c s₁ X0 hx hby hml hret hlk hnm hown hZ e0
  have hown : s.vm.findClass "java/lang/Record" = some m.cls := hown
  have hml : c.maxLocals = 1 := hml
  show own_WP _ _ _ _ _ _ _ (s₁.setTop (entryFrame m #[(.ref a)] 1))
  rw [ef_con_rc m a]
  refine own_aloadN (pc' := 1) X0 hx (hb hby d5_0) rfl rfl rfl ?_
  refine own_initO (pc' := 4) (W := 0) X0 hx hZ hown (own_w hw 33 rfl) (own_w hw 12 rfl) (own_w hw 13 rfl) e0 (by rw [hml]; rfl) (hb hby d5_1) (by decide) (Nat.le_of_eq rfl) (by decide) rfl ?_
  intro T1 X1 e1
  refine own_ret0 X1 hx (fun _ _ _ _ q => q) hlk hret (hb hby d5_4) (by decide) (by decide) ?_
  exact ⟨rfl, rfl, e1⟩

theorem own_allS {α : Type} {P : α → Prop} {a : α} {l : List α} (h : P a) (t : ∀ x ∈ l, P x) : ∀ x ∈ a :: l, P x := fun x hx => (List.mem_cons.mp hx).elim (fun e => e ▸ h) (t x)
theorem own_all0 {α : Type} {P : α → Prop} : ∀ x ∈ ([] : List α), P x := fun _ hx => nomatch hx
def own_cs (cs : List Int32) : List Value := cs.map fun c => .int c
def own_bs (cs : List Int32) : List Value := cs.map fun c => .int (own_by c)
theorem own_cs_at {cs : List Int32} {p : Int32} {i : Nat} (hp : p.toInt = (i : Int)) (hi : i < cs.length) {d : Value} : (own_cs cs).getD p.toNatClampNeg d = .int (cs.getD i 0) := by
  have q := own_nat (x := p) (by omega)
  have e : p.toNatClampNeg = i := by omega
  rw [e]; simp [own_cs, List.getD, hi]
theorem own_cs_mem {cs : List Int32} {i : Nat} (hi : i < cs.length) : cs.getD i 0 ∈ cs := by simp [List.getD, hi]
theorem own_bs_step {cs : List Int32} {us : List Value} {i : Nat} (hl : us.length = cs.length) (hi : i < cs.length) (ht : us.take i = (own_bs cs).take i) : (us.set i (.int (own_by (cs.getD i 0)))).take (i + 1) = (own_bs cs).take (i + 1) := by
  rw [List.take_add_one, List.take_set_of_le (Nat.le_refl _), ht, List.getElem?_set_self (by omega), List.take_add_one (l := own_bs cs)]
  simp [own_bs, hi, List.getD]

theorem d43_0 : decode jdk_52_method_21_code 0 = .ok (.iconst 0, 1) := by decide +kernel
theorem d43_1 : decode jdk_52_method_21_code 1 = .ok (.istore 5, 2) := by decide +kernel
theorem d43_3 : decode jdk_52_method_21_code 3 = .ok (.iload 5, 2) := by decide +kernel
theorem d43_5 : decode jdk_52_method_21_code 5 = .ok (.iload 4, 2) := by decide +kernel
theorem d43_7 : decode jdk_52_method_21_code 7 = .ok (.if_icmp .ge 37, 3) := by decide +kernel
theorem d43_10 : decode jdk_52_method_21_code 10 = .ok (.aload_n 0, 1) := by decide +kernel
theorem d43_11 : decode jdk_52_method_21_code 11 = .ok (.iload_n 1, 1) := by decide +kernel
theorem d43_12 : decode jdk_52_method_21_code 12 = .ok (.caload, 1) := by decide +kernel
theorem d43_13 : decode jdk_52_method_21_code 13 = .ok (.istore 6, 2) := by decide +kernel
theorem d43_15 : decode jdk_52_method_21_code 15 = .ok (.iload 6, 2) := by decide +kernel
theorem d43_17 : decode jdk_52_method_21_code 17 = .ok (.sipush 255, 3) := by decide +kernel
theorem d43_20 : decode jdk_52_method_21_code 20 = .ok (.if_icmp .le 6, 3) := by decide +kernel
theorem d43_26 : decode jdk_52_method_21_code 26 = .ok (.aload_n 2, 1) := by decide +kernel
theorem d43_27 : decode jdk_52_method_21_code 27 = .ok (.iload_n 3, 1) := by decide +kernel
theorem d43_28 : decode jdk_52_method_21_code 28 = .ok (.iload 6, 2) := by decide +kernel
theorem d43_30 : decode jdk_52_method_21_code 30 = .ok (.i2b, 1) := by decide +kernel
theorem d43_31 : decode jdk_52_method_21_code 31 = .ok (.bastore, 1) := by decide +kernel
theorem d43_32 : decode jdk_52_method_21_code 32 = .ok (.iinc 1 1, 3) := by decide +kernel
theorem d43_35 : decode jdk_52_method_21_code 35 = .ok (.iinc 3 1, 3) := by decide +kernel
theorem d43_38 : decode jdk_52_method_21_code 38 = .ok (.iinc 5 1, 3) := by decide +kernel
theorem d43_41 : decode jdk_52_method_21_code 41 = .ok (.goto (-38), 3) := by decide +kernel
theorem d43_44 : decode jdk_52_method_21_code 44 = .ok (.iload 4, 2) := by decide +kernel
theorem d43_46 : decode jdk_52_method_21_code 46 = .ok (.ireturn, 1) := by decide +kernel
theorem pn_43 : plainFor (⟨"java/lang/StringUTF16", "compress", "([CI[BII)I"⟩ : MethodName) = true := plainFor_of_name (by first | (simp [plainName, overriddenIn]; done) | decide +kernel)
set_option maxRecDepth 65536 in
set_option maxHeartbeats 4000000 in
theorem cm5L {p : Program} {l : Launch} {e : Env} {R : Room} {s : State} {m : MethodId} {args : Array Value} {below : List Frame} {meth : Method} {c : Code} {Z : State} {a0 : Array Value} (hw : ∀ d ∈ tables_1, d.before a0 Z = true) (hx : p.tables.exec = Jvm.exec) (hby : c.code = jdk_52_method_21_code) (hml : c.maxLocals = 7) (hret : meth.sig.returnType = some .int) (hlk : meth.locks = false) (hown : s.vm.findClass "java/lang/StringUTF16" = some m.cls) (hZ : Z.Warmed39 s.vm) (n0 : Nat) (h0 : Heap) (cb bb : Addr) (kc kb : ClassId) (zz : Int32) (cs : List Int32) (hz : zz.toInt = (cs.length : Int)) (hz2 : cs.length ≤ 1000) (hcs : ∀ c ∈ cs, ¬ (255 : Int32) < c) (ne_cb_bb : cb ≠ bb) (g_bb : n0 ≤ bb) :
    ∀ (k : Nat) (o6 : Option Int32) (T0 : State) (hh : Heap) (lc : List Loc) (us : List Value) (X0 : Stand p l e R s m args below meth c T0 lc 0 0) (e0 : T0.heap = hh) (N0 : Fr n0 lc) (K0 : Keep h0 hh [bb]) (z0 : n0 ≤ hh.size) (V0 : Arv Z hh bb kb .byte zz us (.int (0 : Int32))) (C0 : Arv Z hh cb kc .char zz (own_cs cs) (.int (0 : Int32))) (i : Nat) (p1 p3 p5 : Int32) (h1i : p1.toInt = (i : Int)) (h3i : p3.toInt = (i : Int)) (h5i : p5.toInt = (i : Int)) (hul : us.length = cs.length) (hut : us.take i = (own_bs cs).take i) (hik : i + k = cs.length), own_WP p e below (FrameEnd s) (fun v h L => v = some (.int zz) ∧ Fr n0 L ∧ Keep h0 h [bb] ∧ Arv Z h bb kb .byte zz (own_bs cs) (.int (0 : Int32))) 0 0 (T0.setTop (mkF m 3 #[.val (.ref cb), .val (.int p1), .val (.ref bb), .val (.int p3), .val (.int zz), .val (.int p5), (own_s6 o6)] [])) := by
  intro k
  induction k using Nat.strongRecOn with | _ k ih => ?_
  intro o6 T0 hh lc us X0 e0 N0 K0 z0 V0 C0 i p1 p3 p5 h1i h3i h5i hul hut hik
  refine own_iload (pc' := 5) X0 hx (hb hby d43_3) rfl rfl ?_
  refine own_iload (pc' := 7) X0 hx (hb hby d43_5) rfl rfl ?_
  refine own_icmp_ge (pt := 44) (pf := 10) X0 hx (hb hby d43_7) rfl (by decide) rfl (fun hc7 => ?_) (fun hc7 => ?_)
  · skip
    refine own_iload (pc' := 46) X0 hx (hb hby d43_44) rfl rfl ?_
    refine own_retI X0 hx (fun _ _ _ _ q => q) hlk hret (hb hby d43_46) (by decide) (by decide) ?_
    rw [e0]
    have e9 : us = own_bs cs := by
      have q : ¬ (i : Int) < (cs.length : Int) := by rw [Int32.lt_iff_toInt_lt] at hc7; omega
      rw [List.take_of_length_le (by omega), List.take_of_length_le (by simp [own_bs]; omega)] at hut
      exact hut
    subst e9
    exact ⟨rfl, N0, K0, V0⟩
  · skip
    have hi : i < cs.length := by rw [Int32.lt_iff_toInt_lt] at hc7; omega
    refine own_aloadN (pc' := 11) X0 hx (hb hby d43_10) rfl rfl rfl ?_
    refine own_iloadN (pc' := 12) X0 hx (hb hby d43_11) rfl rfl ?_
    refine own_caload (pc' := 13) (v := (.int (cs.getD i 0))) X0 hx hZ e0 C0 ⟨own_nn (by omega), by rw [Int32.lt_iff_toInt_lt]; omega⟩ (own_cs_at h1i hi) (hb hby d43_12) rfl ?_
    obtain ⟨v1, hv1⟩ : ∃ z : Int32, z = (cs.getD i 0) := ⟨_, rfl⟩
    refine own_istore (pc' := 15) (l' := #[.val (.ref cb), .val (.int p1), .val (.ref bb), .val (.int p3), .val (.int zz), .val (.int p5), .val (.int v1)]) X0 hx (hb hby d43_13) hv1 (by cases o6 <;> rfl) rfl ?_
    refine own_iload (pc' := 17) X0 hx (hb hby d43_15) rfl rfl ?_
    refine own_sipush (pc' := 20) X0 hx (255 : Int32) (hb hby d43_17) rfl rfl ?_
    refine own_icmp_le (pt := 26) (pf := 23) X0 hx (hb hby d43_20) rfl (by decide) rfl (fun hc20 => ?_) (fun hc20 => absurd hc20 (by rw [hv1]; exact hcs _ (own_cs_mem hi)))
    refine own_aloadN (pc' := 27) X0 hx (hb hby d43_26) rfl rfl rfl ?_
    refine own_iloadN (pc' := 28) X0 hx (hb hby d43_27) rfl rfl ?_
    refine own_iload (pc' := 30) X0 hx (hb hby d43_28) rfl rfl ?_
    refine own_i2b (pc' := 31) X0 hx (hb hby d43_30) rfl ?_
    obtain ⟨v3, hv3⟩ : ∃ z : Int32, z = (v1.toInt8.toInt32) := ⟨_, rfl⟩
    rw [← hv3]
    refine own_bastore (pc' := 32) X0 hx hZ e0 V0 ⟨own_nn (by omega), by rw [Int32.lt_iff_toInt_lt]; omega⟩ p3.toNatClampNeg rfl (by have q := own_nat (x := p3) (by omega); omega) (hb hby d43_31) rfl ?_
    intro T2 h2 X2 e2 W2 V2
    have z2 : n0 ≤ h2.size := Nat.le_trans z0 (Keep.of_wr W2).1
    have N2 := Fr.snoc X2 N0 g_bb
    have K2 : Keep h0 h2 [bb] := K0.wr W2 (Or.inl (List.mem_of_getElem? (i := 0) rfl))
    have q3 := own_nat (x := p3) (by omega)
    have q4 : p3.toNatClampNeg = i := by omega
    have hst : ((us.set p3.toNatClampNeg (.int (nar .byte v3)))).take (i + 1) = (own_bs cs).take (i + 1) := by rw [q4, own_isbE hv3, hv3, hv1]; exact own_bs_step hul hi hut
    obtain ⟨v4, hv4⟩ : ∃ z : Int32, z = (p1 + (1 : Int32)) := ⟨_, rfl⟩
    refine own_iinc (pc' := 35) (l' := #[.val (.ref cb), .val (.int v4), .val (.ref bb), .val (.int p3), .val (.int zz), .val (.int p5), .val (.int v1)]) X2 hx (hb hby d43_32) rfl hv4 rfl rfl ?_
    obtain ⟨v5, hv5⟩ : ∃ z : Int32, z = (p3 + (1 : Int32)) := ⟨_, rfl⟩
    refine own_iinc (pc' := 38) (l' := #[.val (.ref cb), .val (.int v4), .val (.ref bb), .val (.int v5), .val (.int zz), .val (.int p5), .val (.int v1)]) X2 hx (hb hby d43_35) rfl hv5 rfl rfl ?_
    obtain ⟨v6, hv6⟩ : ∃ z : Int32, z = (p5 + (1 : Int32)) := ⟨_, rfl⟩
    refine own_iinc (pc' := 41) (l' := #[.val (.ref cb), .val (.int v4), .val (.ref bb), .val (.int v5), .val (.int zz), .val (.int v6), .val (.int v1)]) X2 hx (hb hby d43_38) rfl hv6 rfl rfl ?_
    refine own_goto (pc' := 3) X2 hx (hb hby d43_41) (by decide) rfl ?_
    have hs1 : v4.toInt = ((i + 1 : Nat) : Int) := by rw [own_add hv4 (by omega) (by decide)]; have e1 : (1 : Int32).toInt = 1 := rfl; omega
    have hs3 : v5.toInt = ((i + 1 : Nat) : Int) := by rw [own_add hv5 (by omega) (by decide)]; have e1 : (1 : Int32).toInt = 1 := rfl; omega
    have hs5 : v6.toInt = ((i + 1 : Nat) : Int) := by rw [own_add hv6 (by omega) (by decide)]; have e1 : (1 : Int32).toInt = 1 := rfl; omega
    have f7 := (C0.other W2 ne_cb_bb)
    exact ih (k - 1) (by omega) (some v1) T2 h2 _ _ X2 e2 N2 K2 z2 V2 f7 (i + 1) v4 v5 v6 hs1 hs3 hs5 (by rw [List.length_set]; exact hul) hst (by omega)
theorem ef_con_cm5 (m : MethodId) (cb : Addr) (bb : Addr) (zz : Int32) : entryFrame m #[(.ref cb), (.int (0 : Int32)), (.ref bb), (.int (0 : Int32)), (.int zz)] 7 = mkF m 0 #[.val (.ref cb), .val (.int (0 : Int32)), .val (.ref bb), .val (.int (0 : Int32)), .val (.int zz), .unset, .unset] [] := by first | (simp [entryFrame, mkF, argsToLocals, Value.category]; done) | rfl
set_option maxRecDepth 65536 in
set_option maxHeartbeats 4000000 in
theorem con_cm5 (l : Launch) (Z : State) (a0 : Array Value) (hw : ∀ d ∈ tables_1, d.before a0 Z = true) (cb : Addr) (bb : Addr) (zz : Int32) (h0 : Heap) (n0 : Nat) (Z0 : n0 ≤ h0.size) (kc : ClassId) (cs : List Int32) (hB : Arv Z h0 cb kc .char zz (own_cs cs) (.int (0 : Int32))) (hz : zz.toInt = (cs.length : Int)) (hz2 : 1 ≤ cs.length ∧ cs.length ≤ 21) (hcs : ∀ c ∈ cs, ¬ (255 : Int32) < c) (kb : ClassId) (us : List Value) (hA : Arv Z h0 bb kb .byte zz us (.int (0 : Int32))) (hul : us.length = cs.length) (ne_cb_bb : cb ≠ bb) (g_bb : n0 ≤ bb) :
    own_Con l Z (⟨"java/lang/StringUTF16", "compress", "([CI[BII)I"⟩ : MethodName) jdk_52_method_21_code 7 (some .int) ({ frames := 0, cells := 0, slots := 0, locals := 0 } : Room) #[(.ref cb), (.int (0 : Int32)), (.ref bb), (.int (0 : Int32)), (.int zz)] h0 (fun v h L => v = some (.int zz) ∧ Fr n0 L ∧ Keep h0 h [bb] ∧ Arv Z h bb kb .byte zz (own_bs cs) (.int (0 : Int32))) := by
  refine own_Con_of pn_43 ?_
  intro p e s m below meth c s₁ X0 hx hby hml hret hlk hnm hown hZ e0
  have hown : s.vm.findClass "java/lang/StringUTF16" = some m.cls := hown
  have hml : c.maxLocals = 7 := hml
  have N0 := Fr.nil n0
  show own_WP _ _ _ _ _ _ _ (s₁.setTop (entryFrame m #[(.ref cb), (.int (0 : Int32)), (.ref bb), (.int (0 : Int32)), (.int zz)] 7))
  rw [ef_con_cm5 m cb bb zz]
  refine own_iconst (pc' := 1) X0 hx (0 : Int32) (hb hby d43_0) rfl rfl ?_
  refine own_istore (pc' := 3) (l' := #[.val (.ref cb), .val (.int (0 : Int32)), .val (.ref bb), .val (.int (0 : Int32)), .val (.int zz), .val (.int (0 : Int32)), .unset]) X0 hx (hb hby d43_1) rfl rfl rfl ?_
  exact cm5L hw hx hby hml hret hlk hown hZ n0 h0 cb bb kc kb zz cs hz (by omega) hcs ne_cb_bb g_bb cs.length none s₁ h0 [] us X0 e0 N0 (Keep.refl h0 [bb]) Z0 hA hB 0 0 0 0 rfl rfl rfl hul rfl (by omega)
theorem d42_0 : decode jdk_52_method_16_code 0 = .ok (.iload_n 2, 1) := by decide +kernel
theorem d42_1 : decode jdk_52_method_16_code 1 = .ok (.newarray .byte, 2) := by decide +kernel
theorem d42_3 : decode jdk_52_method_16_code 3 = .ok (.astore_n 3, 1) := by decide +kernel
theorem d42_4 : decode jdk_52_method_16_code 4 = .ok (.aload_n 0, 1) := by decide +kernel
theorem d42_5 : decode jdk_52_method_16_code 5 = .ok (.iload_n 1, 1) := by decide +kernel
theorem d42_6 : decode jdk_52_method_16_code 6 = .ok (.aload_n 3, 1) := by decide +kernel
theorem d42_7 : decode jdk_52_method_16_code 7 = .ok (.iconst 0, 1) := by decide +kernel
theorem d42_8 : decode jdk_52_method_16_code 8 = .ok (.iload_n 2, 1) := by decide +kernel
theorem d42_9 : decode jdk_52_method_16_code 9 = .ok (.invokestatic 115, 3) := by decide +kernel
theorem d42_12 : decode jdk_52_method_16_code 12 = .ok (.istore 4, 2) := by decide +kernel
theorem d42_14 : decode jdk_52_method_16_code 14 = .ok (.iload 4, 2) := by decide +kernel
theorem d42_16 : decode jdk_52_method_16_code 16 = .ok (.iload_n 2, 1) := by decide +kernel
theorem d42_17 : decode jdk_52_method_16_code 17 = .ok (.if_icmp .eq 40, 3) := by decide +kernel
theorem d42_57 : decode jdk_52_method_16_code 57 = .ok (.aload_n 3, 1) := by decide +kernel
theorem d42_58 : decode jdk_52_method_16_code 58 = .ok (.areturn, 1) := by decide +kernel
theorem pn_42 : plainFor (⟨"java/lang/StringUTF16", "compress", "([CII)[B"⟩ : MethodName) = true := plainFor_of_name (by first | (simp [plainName, overriddenIn]; done) | decide +kernel)
theorem ef_con_cm3 (m : MethodId) (cb : Addr) (zz : Int32) : entryFrame m #[(.ref cb), (.int (0 : Int32)), (.int zz)] 6 = mkF m 0 #[.val (.ref cb), .val (.int (0 : Int32)), .val (.int zz), .unset, .unset, .unset] [] := by first | (simp [entryFrame, mkF, argsToLocals, Value.category]; done) | rfl
theorem pd25 : parseMethodDescriptor "([CI[BII)I" = some ⟨[(.array .char), .int, (.array .byte), .int, .int], some .int⟩ := by decide +kernel
set_option maxRecDepth 65536 in
set_option maxHeartbeats 4000000 in
theorem con_cm3 (l : Launch) (Z : State) (a0 : Array Value) (hw : ∀ d ∈ tables_1, d.before a0 Z = true) (cb : Addr) (zz : Int32) (h0 : Heap) (n0 : Nat) (Z0 : n0 ≤ h0.size) (kc : ClassId) (cs : List Int32) (hB : Arv Z h0 cb kc .char zz (own_cs cs) (.int (0 : Int32))) (hz : zz.toInt = (cs.length : Int)) (hz2 : 1 ≤ cs.length ∧ cs.length ≤ 21) (hcs : ∀ c ∈ cs, ¬ (255 : Int32) < c) :
    own_Con l Z (⟨"java/lang/StringUTF16", "compress", "([CII)[B"⟩ : MethodName) jdk_52_method_16_code 6 (some (.array .byte)) ({ frames := 1, cells := 1, slots := 21, locals := 18 } : Room) #[(.ref cb), (.int (0 : Int32)), (.int zz)] h0 (fun v h L => ∃ (b : Addr) (kb : ClassId), v = some (.ref b) ∧ Fr n0 L ∧ Keep h0 h [] ∧ h0.size ≤ b ∧ Arv Z h b kb .byte zz (own_bs cs) (.int (0 : Int32))) := by
  refine own_Con_of pn_42 ?_
  intro p e s m below meth c s₁ X0 hx hby hml hret hlk hnm hown hZ e0
  have hown : s.vm.findClass "java/lang/StringUTF16" = some m.cls := hown
  have hml : c.maxLocals = 6 := hml
  have N0 := Fr.nil n0
  show own_WP _ _ _ _ _ _ _ (s₁.setTop (entryFrame m #[(.ref cb), (.int (0 : Int32)), (.int zz)] 6))
  rw [ef_con_cm3 m cb zz]
  refine own_iloadN (pc' := 1) X0 hx (hb hby d42_0) rfl rfl ?_
  refine own_newP (pc' := 3) (cap := 21) X0 hx hZ (own_w hw 15 rfl) e0 (hb hby d42_1) (own_nn (by omega)) (by have q := own_nat (x := zz) (by omega); omega) (by decide) (by decide) (by decide) rfl ?_
  intro T1 h1 k1 b1 g1 X1 e1 E1 A1
  have ne_cb_b1 : cb ≠ b1 := Nat.ne_of_lt (Nat.lt_of_lt_of_le hB.lt (Nat.le_of_eq g1.symm))
  have g_b1 : n0 ≤ b1 := Nat.le_trans Z0 (Nat.le_of_eq g1.symm)
  have sz_b1 : h0.size ≤ b1 := Nat.le_trans (Keep.refl h0 []).1 (Nat.le_of_eq g1.symm)
  have z1 : n0 ≤ h1.size := Nat.le_trans Z0 E1.1
  have K1 : Keep h0 h1 [] := (Keep.refl h0 []).ext E1
  have V1 : Arv Z h1 b1 k1 .byte zz (List.replicate zz.toNatClampNeg (.int (0 : Int32))) (.int (0 : Int32)) := (Arv.new A1 (own_nn (by omega))).pad (pad_rep [] (.int (0 : Int32)) zz.toNatClampNeg)
  refine own_astoreN (pc' := 4) (l' := #[.val (.ref cb), .val (.int (0 : Int32)), .val (.int zz), .val (.ref b1), .unset, .unset]) X1 hx (hb hby d42_3) rfl rfl rfl ?_
  refine own_aloadN (pc' := 5) X1 hx (hb hby d42_4) rfl rfl rfl ?_
  refine own_iloadN (pc' := 6) X1 hx (hb hby d42_5) rfl rfl ?_
  refine own_aloadN (pc' := 7) X1 hx (hb hby d42_6) rfl rfl rfl ?_
  refine own_iconst (pc' := 8) X1 hx (0 : Int32) (hb hby d42_7) rfl rfl ?_
  refine own_iloadN (pc' := 9) X1 hx (hb hby d42_8) rfl rfl ?_
  have f3 := (hB.ext E1)
  refine own_callS (pc' := 12) (W := 0) (y := (⟨"java/lang/StringUTF16", "compress", "([CI[BII)I"⟩ : MethodName)) X1 hx hZ hown (own_w hw 245 rfl) (own_w hw 246 rfl) (own_w hw 243 rfl) (own_w hw 247 rfl) (by decide) (con_cm5 l Z a0 hw cb b1 zz _ n0 z1 _ cs f3 hz hz2 hcs _ _ V1 (by rw [List.length_replicate]; have q := own_nat (x := zz) (by omega); omega) ne_cb_b1 g_b1) e1 pd25 [(.ref cb), (.int (0 : Int32)), (.ref b1), (.int (0 : Int32)), (.int zz)] [] rfl rfl rfl (Nat.le_of_eq rfl) (by decide) (by decide) (by rw [hml]; rfl) (hb hby d42_9) (by decide) (by decide) rfl ?_
  intro v2 T2 L2 X2 q2
  obtain ⟨rfl, M2, K2, V2⟩ := q2
  obtain ⟨h2, e2⟩ : ∃ z, z = T2.heap := ⟨_, rfl⟩
  rw [← e2] at K2 V2
  have e2 := e2.symm
  have KK2 : Keep h0 h2 [] := K1.trans K2 (allS (P := fun x => x ∈ [] ∨ h0.size ≤ x) (Or.inr sz_b1) all0)
  have N2 := Fr.app N0 M2
  show own_WP _ _ _ _ _ _ _ (T2.setTop (mkF m 12 #[.val (.ref cb), .val (.int (0 : Int32)), .val (.int zz), .val (.ref b1), .unset, .unset] [(.int zz)]))
  refine own_istore (pc' := 14) (l' := #[.val (.ref cb), .val (.int (0 : Int32)), .val (.int zz), .val (.ref b1), .val (.int zz), .unset]) X2 hx (hb hby d42_12) rfl rfl rfl ?_
  refine own_iload (pc' := 16) X2 hx (hb hby d42_14) rfl rfl ?_
  refine own_iloadN (pc' := 17) X2 hx (hb hby d42_16) rfl rfl ?_
  refine own_icmp_eq (pt := 57) (pf := 20) X2 hx (hb hby d42_17) rfl (by decide) rfl (fun hc17 => ?_) (fun hc17 => absurd (rfl) hc17)
  refine own_aloadN (pc' := 58) X2 hx (hb hby d42_57) rfl rfl rfl ?_
  refine own_retA X2 hx (fun _ _ _ _ q => q) hlk rfl hret rfl rfl (hb hby d42_58) (by decide) (by decide) ?_
  rw [e2]
  exact ⟨b1, k1, rfl, N2, KK2, sz_b1, V2⟩
theorem d44_0 : decode jdk_52_method_15_code 0 = .ok (.iload_n 1, 1) := by decide +kernel
theorem d44_1 : decode jdk_52_method_15_code 1 = .ok (.aload_n 0, 1) := by decide +kernel
theorem d44_2 : decode jdk_52_method_15_code 2 = .ok (.arraylength, 1) := by decide +kernel
theorem d44_3 : decode jdk_52_method_15_code 3 = .ok (.isub, 1) := by decide +kernel
theorem d44_4 : decode jdk_52_method_15_code 4 = .ok (.bipush 31, 2) := by decide +kernel
theorem d44_6 : decode jdk_52_method_15_code 6 = .ok (.iushr, 1) := by decide +kernel
theorem d44_7 : decode jdk_52_method_15_code 7 = .ok (.i2b, 1) := by decide +kernel
theorem d44_8 : decode jdk_52_method_15_code 8 = .ok (.ireturn, 1) := by decide +kernel
theorem pn_44 : plainFor (⟨"java/lang/StringUTF16", "coderFromArrayLen", "([BI)B"⟩ : MethodName) = true := plainFor_of_name (by first | (simp [plainName, overriddenIn]; done) | decide +kernel)
theorem ef_con_cfl (m : MethodId) (b : Addr) (z1 : Int32) : entryFrame m #[(.ref b), (.int z1)] 2 = mkF m 0 #[.val (.ref b), .val (.int z1)] [] := by first | (simp [entryFrame, mkF, argsToLocals, Value.category]; done) | rfl
set_option maxRecDepth 65536 in
set_option maxHeartbeats 4000000 in
theorem con_cfl (l : Launch) (Z : State) (a0 : Array Value) (hw : ∀ d ∈ tables_1, d.before a0 Z = true) (b : Addr) (z1 : Int32) (h0 : Heap) (n0 : Nat) (Z0 : n0 ≤ h0.size) (kb : ClassId) (vs : List Value) (hA : Arv Z h0 b kb .byte z1 vs (.int (0 : Int32))) :
    own_Con l Z (⟨"java/lang/StringUTF16", "coderFromArrayLen", "([BI)B"⟩ : MethodName) jdk_52_method_15_code 2 (some .byte) ({ frames := 0, cells := 0, slots := 0, locals := 0 } : Room) #[(.ref b), (.int z1)] h0 (fun v h L => ∃ z : Int32, v = some (.int z) ∧ (z = 0) ∧ L = [] ∧ h = h0) := by
  refine own_Con_of pn_44 ?_
  intro p e s m below meth c s₁ X0 hx hby hml hret hlk hnm hown hZ e0
  have hown : s.vm.findClass "java/lang/StringUTF16" = some m.cls := hown
  have hml : c.maxLocals = 2 := hml
  show own_WP _ _ _ _ _ _ _ (s₁.setTop (entryFrame m #[(.ref b), (.int z1)] 2))
  rw [ef_con_cfl m b z1]
  refine own_iloadN (pc' := 1) X0 hx (hb hby d44_0) rfl rfl ?_
  refine own_aloadN (pc' := 2) X0 hx (hb hby d44_1) rfl rfl rfl ?_
  refine own_arrlen (pc' := 3) X0 hx hZ e0 hA (hb hby d44_2) rfl ?_
  refine own_isub (pc' := 4) X0 hx (hb hby d44_3) rfl ?_
  refine own_bipush (pc' := 6) X0 hx (31 : Int32) (hb hby d44_4) rfl rfl ?_
  refine own_iushr (pc' := 7) X0 hx (hb hby d44_6) rfl ?_
  refine own_i2b (pc' := 8) X0 hx (hb hby d44_7) rfl ?_
  refine own_retN X0 hx (fun _ _ _ _ q => q) hlk (t := .byte) (by decide) hret (hb hby d44_8) (by decide) (by decide) ?_
  exact ⟨_, rfl, by rw [Int32.sub_self]; rfl, rfl, e0⟩
theorem d2_0 : decode jdk_42_method_149_code 0 = .ok (.aload_n 0, 1) := by decide +kernel
theorem d2_1 : decode jdk_42_method_149_code 1 = .ok (.invokespecial 1, 3) := by decide +kernel
theorem d2_4 : decode jdk_42_method_149_code 4 = .ok (.iload_n 3, 1) := by decide +kernel
theorem d2_5 : decode jdk_42_method_149_code 5 = .ok (.ifCond .ne 22, 3) := by decide +kernel
theorem d2_8 : decode jdk_42_method_149_code 8 = .ok (.aload_n 0, 1) := by decide +kernel
theorem d2_9 : decode jdk_42_method_149_code 9 = .ok (.ldc 7, 2) := by decide +kernel
theorem d2_11 : decode jdk_42_method_149_code 11 = .ok (.getfield 9, 3) := by decide +kernel
theorem d2_14 : decode jdk_42_method_149_code 14 = .ok (.putfield 9, 3) := by decide +kernel
theorem d2_17 : decode jdk_42_method_149_code 17 = .ok (.aload_n 0, 1) := by decide +kernel
theorem d2_18 : decode jdk_42_method_149_code 18 = .ok (.ldc 7, 2) := by decide +kernel
theorem d2_20 : decode jdk_42_method_149_code 20 = .ok (.getfield 15, 3) := by decide +kernel
theorem d2_23 : decode jdk_42_method_149_code 23 = .ok (.putfield 15, 3) := by decide +kernel
theorem d2_26 : decode jdk_42_method_149_code 26 = .ok (.return_, 1) := by decide +kernel
theorem d2_27 : decode jdk_42_method_149_code 27 = .ok (.getstatic 38, 3) := by decide +kernel
theorem d2_30 : decode jdk_42_method_149_code 30 = .ok (.ifCond .eq 28, 3) := by decide +kernel
theorem d2_33 : decode jdk_42_method_149_code 33 = .ok (.aload_n 1, 1) := by decide +kernel
theorem d2_34 : decode jdk_42_method_149_code 34 = .ok (.iload_n 2, 1) := by decide +kernel
theorem d2_35 : decode jdk_42_method_149_code 35 = .ok (.iload_n 3, 1) := by decide +kernel
theorem d2_36 : decode jdk_42_method_149_code 36 = .ok (.invokestatic 177, 3) := by decide +kernel
theorem d2_39 : decode jdk_42_method_149_code 39 = .ok (.astore 5, 2) := by decide +kernel
theorem d2_41 : decode jdk_42_method_149_code 41 = .ok (.aload_n 0, 1) := by decide +kernel
theorem d2_42 : decode jdk_42_method_149_code 42 = .ok (.aload 5, 2) := by decide +kernel
theorem d2_44 : decode jdk_42_method_149_code 44 = .ok (.iload_n 3, 1) := by decide +kernel
theorem d2_45 : decode jdk_42_method_149_code 45 = .ok (.invokestatic 47, 3) := by decide +kernel
theorem d2_48 : decode jdk_42_method_149_code 48 = .ok (.putfield 15, 3) := by decide +kernel
theorem d2_51 : decode jdk_42_method_149_code 51 = .ok (.aload_n 0, 1) := by decide +kernel
theorem d2_52 : decode jdk_42_method_149_code 52 = .ok (.aload 5, 2) := by decide +kernel
theorem d2_54 : decode jdk_42_method_149_code 54 = .ok (.putfield 9, 3) := by decide +kernel
theorem d2_57 : decode jdk_42_method_149_code 57 = .ok (.return_, 1) := by decide +kernel
theorem pn_2 : plainFor (⟨"java/lang/String", "<init>", "([CIILjava/lang/Void;)V"⟩ : MethodName) = true := plainFor_of_name (by first | (simp [plainName, overriddenIn]; done) | decide +kernel)
theorem ef_con_n4 (m : MethodId) (a : Addr) (cb : Addr) (zz : Int32) : entryFrame m #[(.ref a), (.ref cb), (.int (0 : Int32)), (.int zz), .null] 6 = mkF m 0 #[.val (.ref a), .val (.ref cb), .val (.int (0 : Int32)), .val (.int zz), .val .null, .unset] [] := by first | (simp [entryFrame, mkF, argsToLocals, Value.category]; done) | rfl
theorem pd26 : parseMethodDescriptor "([CII)[B" = some ⟨[(.array .char), .int, .int], some (.array .byte)⟩ := by decide +kernel
theorem pd27 : parseMethodDescriptor "([BI)B" = some ⟨[(.array .byte), .int], some .byte⟩ := by decide +kernel
set_option maxRecDepth 65536 in
set_option maxHeartbeats 4000000 in
theorem con_n4 (l : Launch) (Z : State) (a0 : Array Value) (hw : ∀ d ∈ tables_1, d.before a0 Z = true) (a : Addr) (cb : Addr) (zz : Int32) (h0 : Heap) (n0 : Nat) (Z0 : n0 ≤ h0.size) (G1 : Int32) (fm : Value) (hG : own_G Z G1 fm) (X00 : own_Old Z n0 h0) (kc : ClassId) (cs : List Int32) (hB : Arv Z h0 cb kc .char zz (own_cs cs) (.int (0 : Int32))) (hz : zz.toInt = (cs.length : Int)) (hz2 : 1 ≤ cs.length ∧ cs.length ≤ 21) (hcs : ∀ c ∈ cs, ¬ (255 : Int32) < c) (v0 c0 : Value) (hE : Exa Z h0 a "java/lang/String") (hC : Fld Z h0 a "java/lang/String" "coder" "B" c0) (hV : Fld Z h0 a "java/lang/String" "value" "[B" v0) (g_a : n0 ≤ a) (ne_a_cb : a ≠ cb) (ne_cb_a : cb ≠ a) :
    own_Con l Z (⟨"java/lang/String", "<init>", "([CIILjava/lang/Void;)V"⟩ : MethodName) jdk_42_method_149_code 6 none ({ frames := 2, cells := 1, slots := 21, locals := 35 } : Room) #[(.ref a), (.ref cb), (.int (0 : Int32)), (.int zz), .null] h0 (fun v h L => ∃ (b : Addr) (kb : ClassId), v = none ∧ Fr n0 L ∧ Keep h0 h [a] ∧ h0.size ≤ b ∧ Exa Z h a "java/lang/String" ∧ Fld Z h a "java/lang/String" "coder" "B" (.int (0 : Int32)) ∧ Fld Z h a "java/lang/String" "value" "[B" (.ref b) ∧ Arv Z h b kb .byte zz (own_bs cs) (.int (0 : Int32))) := by
  refine own_Con_of pn_2 ?_
  intro p e s m below meth c s₁ X0 hx hby hml hret hlk hnm hown hZ e0
  have hown : s.vm.findClass "java/lang/String" = some m.cls := hown
  have hml : c.maxLocals = 6 := hml
  have N0 := Fr.nil n0
  show own_WP _ _ _ _ _ _ _ (s₁.setTop (entryFrame m #[(.ref a), (.ref cb), (.int (0 : Int32)), (.int zz), .null] 6))
  rw [ef_con_n4 m a cb zz]
  refine own_aloadN (pc' := 1) X0 hx (hb hby d2_0) rfl rfl rfl ?_
  refine own_initO (pc' := 4) (W := 0) X0 hx hZ hown (own_w hw 11 rfl) (own_w hw 12 rfl) (own_w hw 13 rfl) e0 (by rw [hml]; rfl) (hb hby d2_1) (by decide) (Nat.le_of_eq rfl) (by decide) rfl ?_
  intro T1 X1 e1
  refine own_iloadN (pc' := 5) X1 hx (hb hby d2_4) rfl rfl ?_
  refine own_if_ne (pt := 27) (pf := 8) X1 hx (hb hby d2_5) rfl (by decide) rfl (fun hc5 => ?_) (fun hc5 => absurd hc5 (fun q => by rw [q] at hz; have e0 : (0 : Int32).toInt = 0 := rfl; omega))
  refine own_getS (pc' := 30) X1 hx hZ hown (host := "") (Or.inl (own_w hw 82 rfl)) Via.refl e1 (hG.1.ext X00.x) (hb hby d2_27) rfl ?_
  intro T2 X2 e2
  refine own_if_eq (pt := 58) (pf := 33) X2 hx (hb hby d2_30) rfl (by decide) rfl (fun hc30 => absurd hc30 (hG.2.1)) (fun hc30 => ?_)
  refine own_aloadN (pc' := 34) X2 hx (hb hby d2_33) rfl rfl rfl ?_
  refine own_iloadN (pc' := 35) X2 hx (hb hby d2_34) rfl rfl ?_
  refine own_iloadN (pc' := 36) X2 hx (hb hby d2_35) rfl rfl ?_
  refine own_callS (pc' := 39) (W := 0) (y := (⟨"java/lang/StringUTF16", "compress", "([CII)[B"⟩ : MethodName)) X2 hx hZ hown (own_w hw 241 rfl) (own_w hw 242 rfl) (own_w hw 243 rfl) (own_w hw 244 rfl) (by decide) (con_cm3 l Z a0 hw cb zz _ n0 Z0 _ cs hB hz hz2 hcs) e2 pd26 [(.ref cb), (.int (0 : Int32)), (.int zz)] [] rfl rfl rfl (Nat.le_of_eq rfl) (by decide) (by decide) (by rw [hml]; rfl) (hb hby d2_36) (by decide) (by decide) rfl ?_
  intro v3 T3 L3 X3 q3
  obtain ⟨c3, k3, rfl, M3, K3, s3, V3⟩ := q3
  have ne_a_c3 : a ≠ c3 := Nat.ne_of_lt (Nat.lt_of_lt_of_le hE.lt s3)
  have ne_c3_a := ne_a_c3.symm
  have sz_c3 : h0.size ≤ c3 := Nat.le_trans (Keep.refl h0 [a]).1 s3
  obtain ⟨h3, e3⟩ : ∃ z, z = T3.heap := ⟨_, rfl⟩
  rw [← e3] at K3 V3
  have e3 := e3.symm
  have z3 : n0 ≤ h3.size := Nat.le_trans Z0 K3.1
  have KK3 : Keep h0 h3 [a] := (Keep.refl h0 [a]).trans K3 all0
  have N3 := Fr.app N0 M3
  show own_WP _ _ _ _ _ _ _ (T3.setTop (mkF m 39 #[.val (.ref a), .val (.ref cb), .val (.int (0 : Int32)), .val (.int zz), .val .null, .unset] [(.ref c3)]))
  refine own_astore (pc' := 41) (l' := #[.val (.ref a), .val (.ref cb), .val (.int (0 : Int32)), .val (.int zz), .val .null, .val (.ref c3)]) X3 hx (hb hby d2_39) rfl rfl rfl ?_
  refine own_aloadN (pc' := 42) X3 hx (hb hby d2_41) rfl rfl rfl ?_
  refine own_aload (pc' := 44) X3 hx (hb hby d2_42) rfl rfl rfl ?_
  refine own_iloadN (pc' := 45) X3 hx (hb hby d2_44) rfl rfl ?_
  refine own_callS (pc' := 48) (W := 1) (y := (⟨"java/lang/StringUTF16", "coderFromArrayLen", "([BI)B"⟩ : MethodName)) X3 hx hZ hown (own_w hw 248 rfl) (own_w hw 249 rfl) (own_w hw 243 rfl) (own_w hw 250 rfl) (by decide) (con_cfl l Z a0 hw c3 zz _ n0 z3 _ _ V3) e3 pd27 [(.ref c3), (.int zz)] [(.ref a)] rfl rfl rfl (Nat.le_of_eq rfl) (by decide) (by decide) (by rw [hml]; rfl) (hb hby d2_45) (by decide) (by decide) rfl ?_
  intro v4 T4 L4 X4 q4
  obtain ⟨r4, rfl, hr4, rfl, e4⟩ := q4
  have M4 := Fr.nil n0
  have N4 := Fr.app N3 M4
  subst hr4
  show own_WP _ _ _ _ _ _ _ (T4.setTop (mkF m 48 #[.val (.ref a), .val (.ref cb), .val (.int (0 : Int32)), .val (.int zz), .val .null, .val (.ref c3)] [(.int (0 : Int32)), (.ref a)]))
  have f5 := (hC.keep K3 nin0)
  have f6 := (hE.keep K3)
  refine own_putF (pc' := 51) X4 hx hZ hown (host := "") (Or.inl (own_w hw 21 rfl)) Via.refl e4 f5 f6 (Or.inr ⟨(own_w hw 17 rfl), rfl, hnm⟩) (own_w hw 1 rfl) (ty := .byte) (by decide) rfl rfl (hb hby d2_48) rfl ?_
  intro T7 h7 X7 e7 W7
  have Fw7 := f5.same W7
  have N7 := Fr.snoc X7 N4 g_a
  have K7 : Keep h0 h7 [a] := KK3.wr W7 (Or.inl (List.mem_of_getElem? (i := 0) rfl))
  refine own_aloadN (pc' := 52) X7 hx (hb hby d2_51) rfl rfl rfl ?_
  refine own_aload (pc' := 54) X7 hx (hb hby d2_52) rfl rfl rfl ?_
  have f8 := ((hV.keep K3 nin0).other W7 (Or.inr (slot_ne (Or.inr (own_w hw 16 rfl)) (Or.inr (own_w hw 17 rfl)) (by decide) (t := (.array .byte)) (t' := .byte) (by decide +kernel) (by decide +kernel))))
  have f9 := (f6.wr W7)
  refine own_putF (pc' := 57) X7 hx hZ hown (host := "") (Or.inl (own_w hw 20 rfl)) Via.refl e7 f8 f9 (Or.inr ⟨(own_w hw 16 rfl), rfl, hnm⟩) (own_w hw 1 rfl) (ty := (.array .byte)) (by decide +kernel) rfl rfl (hb hby d2_54) rfl ?_
  intro T10 h10 X10 e10 W10
  have Fw10 := f8.same W10
  have N10 := Fr.snoc X10 N7 g_a
  have K10 : Keep h0 h10 [a] := K7.wr W10 (Or.inl (List.mem_of_getElem? (i := 0) rfl))
  have f11 := (f9.wr W10)
  have f12 := (Fw7.other W10 (Or.inr (slot_ne (Or.inr (own_w hw 17 rfl)) (Or.inr (own_w hw 16 rfl)) (by decide) (t := .byte) (t' := (.array .byte)) (by decide +kernel) (by decide +kernel))))
  have f13 := ((V3.other W7 ne_c3_a).other W10 ne_c3_a)
  refine own_ret0 X10 hx (fun _ _ _ _ q => q) hlk hret (hb hby d2_57) (by decide) (by decide) ?_
  rw [e10]
  exact ⟨c3, k3, rfl, N10, K10, sz_c3, f11, f12, Fw10, f13⟩
theorem d1_0 : decode jdk_42_method_3_code 0 = .ok (.aload_n 0, 1) := by decide +kernel
theorem d1_1 : decode jdk_42_method_3_code 1 = .ok (.aload_n 1, 1) := by decide +kernel
theorem d1_2 : decode jdk_42_method_3_code 2 = .ok (.iconst 0, 1) := by decide +kernel
theorem d1_3 : decode jdk_42_method_3_code 3 = .ok (.aload_n 1, 1) := by decide +kernel
theorem d1_4 : decode jdk_42_method_3_code 4 = .ok (.arraylength, 1) := by decide +kernel
theorem d1_5 : decode jdk_42_method_3_code 5 = .ok (.aconst_null, 1) := by decide +kernel
theorem d1_6 : decode jdk_42_method_3_code 6 = .ok (.invokespecial 27, 3) := by decide +kernel
theorem d1_9 : decode jdk_42_method_3_code 9 = .ok (.return_, 1) := by decide +kernel
theorem pn_1 : plainFor (⟨"java/lang/String", "<init>", "([C)V"⟩ : MethodName) = true := plainFor_of_name (by first | (simp [plainName, overriddenIn]; done) | decide +kernel)
theorem ef_con_n1 (m : MethodId) (a : Addr) (cb : Addr) : entryFrame m #[(.ref a), (.ref cb)] 2 = mkF m 0 #[.val (.ref a), .val (.ref cb)] [] := by first | (simp [entryFrame, mkF, argsToLocals, Value.category]; done) | rfl
theorem pd28 : parseMethodDescriptor "([CIILjava/lang/Void;)V" = some ⟨[(.array .char), .int, .int, (.object "java/lang/Void")], none⟩ := by decide +kernel
set_option maxRecDepth 65536 in
set_option maxHeartbeats 4000000 in
theorem con_n1 (l : Launch) (Z : State) (a0 : Array Value) (hw : ∀ d ∈ tables_1, d.before a0 Z = true) (a : Addr) (cb : Addr) (h0 : Heap) (n0 : Nat) (Z0 : n0 ≤ h0.size) (G1 : Int32) (fm : Value) (hG : own_G Z G1 fm) (X00 : own_Old Z n0 h0) (kc : ClassId) (zz : Int32) (cs : List Int32) (hB : Arv Z h0 cb kc .char zz (own_cs cs) (.int (0 : Int32))) (hz : zz.toInt = (cs.length : Int)) (hz2 : 1 ≤ cs.length ∧ cs.length ≤ 21) (hcs : ∀ c ∈ cs, ¬ (255 : Int32) < c) (v0 c0 : Value) (hE : Exa Z h0 a "java/lang/String") (hC : Fld Z h0 a "java/lang/String" "coder" "B" c0) (hV : Fld Z h0 a "java/lang/String" "value" "[B" v0) (g_a : n0 ≤ a) (ne_a_cb : a ≠ cb) (ne_cb_a : cb ≠ a) :
    own_Con l Z (⟨"java/lang/String", "<init>", "([C)V"⟩ : MethodName) jdk_42_method_3_code 2 none ({ frames := 3, cells := 1, slots := 21, locals := 52 } : Room) #[(.ref a), (.ref cb)] h0 (fun v h L => ∃ (b : Addr) (kb : ClassId), v = none ∧ Fr n0 L ∧ Keep h0 h [a] ∧ h0.size ≤ b ∧ Exa Z h a "java/lang/String" ∧ Fld Z h a "java/lang/String" "coder" "B" (.int (0 : Int32)) ∧ Fld Z h a "java/lang/String" "value" "[B" (.ref b) ∧ Arv Z h b kb .byte zz (own_bs cs) (.int (0 : Int32))) := by
  refine own_Con_of pn_1 ?_
  intro p e s m below meth c s₁ X0 hx hby hml hret hlk hnm hown hZ e0
  have hown : s.vm.findClass "java/lang/String" = some m.cls := hown
  have hml : c.maxLocals = 2 := hml
  have N0 := Fr.nil n0
  show own_WP _ _ _ _ _ _ _ (s₁.setTop (entryFrame m #[(.ref a), (.ref cb)] 2))
  rw [ef_con_n1 m a cb]
  refine own_aloadN (pc' := 1) X0 hx (hb hby d1_0) rfl rfl rfl ?_
  refine own_aloadN (pc' := 2) X0 hx (hb hby d1_1) rfl rfl rfl ?_
  refine own_iconst (pc' := 3) X0 hx (0 : Int32) (hb hby d1_2) rfl rfl ?_
  refine own_aloadN (pc' := 4) X0 hx (hb hby d1_3) rfl rfl rfl ?_
  refine own_arrlen (pc' := 5) X0 hx hZ e0 hB (hb hby d1_4) rfl ?_
  refine own_anull (pc' := 6) X0 hx (hb hby d1_5) rfl ?_
  refine own_callN (pc' := 9) (W := 0) (y := (⟨"java/lang/String", "<init>", "([CIILjava/lang/Void;)V"⟩ : MethodName)) X0 hx hZ rfl hown (own_w hw 7 rfl) (own_w hw 8 rfl) (own_w hw 2 rfl) (own_w hw 10 rfl) (by decide) (con_n4 l Z a0 hw a cb zz _ n0 Z0 G1 fm hG X00 _ cs hB hz hz2 hcs _ _ hE hC hV g_a ne_a_cb ne_cb_a) e0 pd28 a [(.ref cb), (.int (0 : Int32)), (.int zz), .null] [] rfl rfl rfl (Nat.le_of_eq rfl) (by decide) (by decide) (by rw [hml]; rfl) (hb hby d1_6) (by decide) (by decide) rfl ?_
  intro v1 T1 L1 X1 q1
  obtain ⟨c1, k1, rfl, M1, K1, s1, E1q, F1a, F1b, V1⟩ := q1
  have sz_c1 : h0.size ≤ c1 := Nat.le_trans (Keep.refl h0 [a]).1 s1
  obtain ⟨h1, e1⟩ : ∃ z, z = T1.heap := ⟨_, rfl⟩
  rw [← e1] at K1 E1q F1a F1b V1
  have e1 := e1.symm
  have KK1 : Keep h0 h1 [a] := (Keep.refl h0 [a]).trans K1 (allS (P := fun x => x ∈ [a] ∨ h0.size ≤ x) (Or.inl (List.mem_of_getElem? (i := 0) rfl)) all0)
  have N1 := Fr.app N0 M1
  show own_WP _ _ _ _ _ _ _ (T1.setTop (mkF m 9 #[.val (.ref a), .val (.ref cb)] []))
  refine own_ret0 X1 hx (fun _ _ _ _ q => q) hlk hret (hb hby d1_9) (by decide) (by decide) ?_
  rw [e1]
  exact ⟨c1, k1, rfl, N1, KK1, sz_c1, E1q, F1a, F1b, V1⟩
theorem own_getat {us pre post : List Value} {x : Value} (hus : us = pre ++ x :: post) {i z1 : Int32} {d : Value} (hi : i.toInt = (pre.length : Int)) (hz : z1.toInt = (us.length : Int)) : (¬ i < 0 ∧ i < z1) ∧ us.getD i.toNatClampNeg d = x := by
  have e : us.length = pre.length + (post.length + 1) := by rw [hus]; simp
  have q := own_nat (x := i) (by omega)
  refine ⟨⟨own_nn (by omega), by rw [Int32.lt_iff_toInt_lt]; omega⟩, ?_⟩
  have e2 : i.toNatClampNeg = pre.length := by omega
  rw [e2, hus]
  simp [List.getD]
theorem own_numat {A kk : Nat} {ng : Int32} (hng : ng = 0 ∨ ng = 1) {K : Nat} (hK : K < kk) : ∃ p q, own_num A kk ng = p ++ .int (own_dig A K) :: q ∧ (p.length : Int) = ng.toInt + kk - 1 - K := by
  have e : (List.range kk).map (fun i => Value.int (own_dig A (kk - 1 - i))) = ((List.range kk).map (fun i => Value.int (own_dig A (kk - 1 - i)))).take (kk - 1 - K) ++ .int (own_dig A K) :: ((List.range kk).map (fun i => Value.int (own_dig A (kk - 1 - i)))).drop (kk - 1 - K + 1) := by
    have h1 : kk - 1 - K < ((List.range kk).map (fun i => Value.int (own_dig A (kk - 1 - i)))).length := by simp; omega
    have h2 : ((List.range kk).map (fun i => Value.int (own_dig A (kk - 1 - i))))[kk - 1 - K] = .int (own_dig A K) := by
      simp
      congr 1; omega
    rw [← h2, List.getElem_cons_drop, List.take_append_drop]
  refine ⟨(if ng = 1 then [.int (45 : Int32)] else []) ++ ((List.range kk).map (fun i => Value.int (own_dig A (kk - 1 - i)))).take (kk - 1 - K), _, by rw [own_num, List.append_assoc, ← e], ?_⟩
  rcases hng with rfl | rfl
  · rw [if_neg (by decide)]
    have e0 : (0 : Int32).toInt = 0 := rfl
    simp; omega
  · rw [if_pos rfl]
    have e0 : (1 : Int32).toInt = 1 := rfl
    simp; omega
/-- the digit K of the number, in the text behind a prefix of 13 (or n) bytes -/
theorem own_dgat {A kk : Nat} {ng : Int32} {us pf rest : List Value} (hng : ng = 0 ∨ ng = 1) (hus : us = pf ++ (own_num A kk ng ++ rest)) {K : Nat} (hK : K < kk) {i z1 : Int32} {d : Value} (hi : i.toInt = (pf.length : Int) + ng.toInt + kk - 1 - K) (hz : z1.toInt = (us.length : Int)) : (¬ i < 0 ∧ i < z1) ∧ us.getD i.toNatClampNeg d = .int (own_dig A K) := by
  obtain ⟨p, q, e1, e2⟩ := own_numat (A := A) hng hK
  exact own_getat (pre := pf ++ p) (post := q ++ rest) (by rw [hus, e1]; simp) (by rw [List.length_append]; omega) hz
theorem own_chdig (A K : Nat) : own_ch (own_dig A K) = own_dig A K := by
  have h : A / 10 ^ K % 10 < 10 := Nat.mod_lt _ (by decide)
  unfold own_dig
  generalize A / 10 ^ K % 10 = n at h
  have : n = 0 ∨ n = 1 ∨ n = 2 ∨ n = 3 ∨ n = 4 ∨ n = 5 ∨ n = 6 ∨ n = 7 ∨ n = 8 ∨ n = 9 := by omega
  rcases this with rfl | rfl | rfl | rfl | rfl | rfl | rfl | rfl | rfl | rfl <;> rfl
theorem own_digI (A K : Nat) : (own_dig A K).toInt = 48 + ((A / 10 ^ K % 10 : Nat) : Int) := by
  have h : A / 10 ^ K % 10 < 10 := Nat.mod_lt _ (by decide)
  unfold own_dig
  generalize A / 10 ^ K % 10 = n at h
  have : n = 0 ∨ n = 1 ∨ n = 2 ∨ n = 3 ∨ n = 4 ∨ n = 5 ∨ n = 6 ∨ n = 7 ∨ n = 8 ∨ n = 9 := by omega
  rcases this with rfl | rfl | rfl | rfl | rfl | rfl | rfl | rfl | rfl | rfl <;> rfl
/-- one turn of countDigits: the limit 10^j has been looked at -/
def own_cd (A j : Nat) (c : Int32) : Prop := ∃ t : Nat, c.toInt = (t : Int) ∧ 1 ≤ t ∧ t ≤ j + 1 ∧ (t ≤ j → A < 10 ^ t) ∧ (t = 1 ∨ 10 ^ (t - 1) ≤ A)
theorem own_cd0 (A : Nat) : own_cd A 0 1 := ⟨1, rfl, by omega, by omega, by omega, Or.inl rfl⟩
theorem own_cdN {A j : Nat} {c : Int32} (h : own_cd A j c) (hA : A < 10 ^ (j + 1)) : own_cd A (j + 1) c := by
  obtain ⟨t, h1, h2, h3, h4, h5⟩ := h
  refine ⟨t, h1, h2, by omega, fun q => ?_, h5⟩
  by_cases e : t = j + 1
  · subst e; exact hA
  · exact h4 (by omega)
theorem own_cdY {A j : Nat} {c : Int32} (hc : c.toInt = (j : Int) + 2) (hA : 10 ^ (j + 1) ≤ A) : own_cd A (j + 1) c := ⟨j + 2, by omega, by omega, by omega, by omega, Or.inr (by simpa using hA)⟩
theorem own_cdE {A : Nat} {c : Int32} (h : own_cd A 18 c) (hA : A ≤ 9223372036854775808) {kk : Nat} (hkk : own_dgs A kk) : c.toInt = (kk : Int) := by
  obtain ⟨t, h1, h2, h3, h4, h5⟩ := h
  have e : own_dgs A t := ⟨h2, by
    by_cases q : t ≤ 18
    · exact h4 q
    · have e : t = 19 := by omega
      subst e; exact Nat.lt_of_le_of_lt hA (by decide), h5⟩
  rw [h1, own_dgs_uniq hkk e]
theorem own_chby0 : ∀ n, n < 256 → own_ch (own_by (Int32.ofNat n)) = Int32.ofNat n := by decide +kernel
theorem own_chby {c : Int32} (h : 0 ≤ c.toInt ∧ c.toInt ≤ 255) : own_ch (own_by c) = c := by
  have q := own_nat (x := c) h.1
  have e : c = Int32.ofNat c.toNatClampNeg := by
    apply Int32.toInt_inj.mp
    rw [Int32.toInt_ofNat_of_lt (by omega)]
    omega
  rw [e]
  exact own_chby0 _ (by omega)
theorem own_mask (x k : Int32) (hk : 0 ≤ k.toInt) : 0 ≤ (x &&& k).toInt ∧ (x &&& k).toInt ≤ k.toInt := by
  have e : (x &&& k).toInt = (x.toBitVec &&& k.toBitVec).toInt := rfl
  have ek : k.toInt = k.toBitVec.toInt := rfl
  have h1 := BitVec.toInt_eq_toNat_cond (x.toBitVec &&& k.toBitVec)
  have h2 := BitVec.toInt_eq_toNat_cond k.toBitVec
  have h3 : (x.toBitVec &&& k.toBitVec).toNat ≤ k.toBitVec.toNat := by rw [BitVec.toNat_and]; exact Nat.and_le_right
  have h4 := k.toBitVec.isLt
  rw [ek] at hk
  rw [e, ek]
  have c1 : 2 * k.toBitVec.toNat < 2 ^ 32 := by
    rcases Nat.lt_or_ge (2 * k.toBitVec.toNat) (2 ^ 32) with q | q
    · exact q
    · rw [if_neg (by omega)] at h2; omega
  rw [if_pos c1] at h2
  rw [if_pos (by omega)] at h1
  rw [h1, h2]
  omega
theorem own_m255 (x : Int32) : 0 ≤ (x &&& 255).toInt ∧ (x &&& 255).toInt ≤ 255 := own_mask x 255 (by decide)
theorem own_r3 (x : Int32) : (x &&& 2147483647) % 3 = 0 ∨ (x &&& 2147483647) % 3 = 1 ∨ (x &&& 2147483647) % 3 = 2 := by
  have h := own_mask x 2147483647 (by decide)
  have q := c_irem (x &&& 2147483647) 3 3 rfl
  have r := q.1 h.1
  rcases (by omega : ((x &&& 2147483647) % 3).toInt = 0 ∨ ((x &&& 2147483647) % 3).toInt = 1 ∨ ((x &&& 2147483647) % 3).toInt = 2) with e | e | e
  · exact Or.inl (Int32.toInt_inj.mp e)
  · exact Or.inr (Or.inl (Int32.toInt_inj.mp e))
  · exact Or.inr (Or.inr (Int32.toInt_inj.mp e))
theorem own_dgE {m pw : Int64} {v : Int32} {A K : Nat} (hm : m.toInt = -(A : Int)) (hpw : pw.toInt = ((10 ^ K : Nat) : Int)) (hv : v = ((m / pw) % (10 : Int64)).toInt32) : ((48 : Int32) - v).toUInt32.toUInt16.toUInt32.toInt32 = own_dig A K := by
  have hp : 0 < 10 ^ K := Nat.pow_pos (by decide)
  have hne : pw ≠ -1 := fun e => by rw [e] at hpw; have : (-1 : Int64).toInt = -1 := rfl; omega
  have q := c_ldiv m pw _ hpw hne
  have hq : (m / pw).toInt = -((A / 10 ^ K : Nat) : Int) := by
    rcases Nat.eq_zero_or_pos A with rfl | hA
    · rw [q.1 (by omega), hm]; simp
    · rw [q.2 (by omega), hm, Int.neg_neg, Int.natCast_ediv]
  have r := c_lrem (m / pw) 10 10 rfl
  rw [lrem_mod] at r
  have hr : ((m / pw) % (10 : Int64)).toInt = -((A / 10 ^ K % 10 : Nat) : Int) := by
    generalize A / 10 ^ K = B at hq
    rcases Nat.eq_zero_or_pos B with rfl | hB
    · rw [r.1 (by omega), hq]; rfl
    · rw [r.2 (by omega), hq]; omega
  have hl := Nat.mod_lt (A / 10 ^ K) (by decide : 0 < 10)
  have c1 := c_l2i ((m / pw) % (10 : Int64))
  have c2 := rng32 ((m / pw) % (10 : Int64)).toInt32
  rw [← hv] at c1 c2
  have c3 := own_sub (z := (48 : Int32) - v) rfl (by decide) (by omega)
  have c4 := c_i2c ((48 : Int32) - v)
  have e48 : (48 : Int32).toInt = 48 := rfl
  apply Int32.toInt_inj.mp
  rw [own_digI]
  omega
theorem own_dgP {A kk K : Nat} {ng la kq cq z1 : Int32} {us pf rest : List Value} (hng : ng = 0 ∨ ng = 1) (hus : us = pf ++ (own_num A kk ng ++ rest)) (hla : la.toInt = (pf.length : Int) + kk + ng.toInt - 1) (hb : -1000 ≤ la.toInt ∧ la.toInt ≤ 1000) (hkq : kq.toInt = (K : Int)) (hK : K ≤ 18) (hcq : cq.toInt = (kk : Int)) (hz : z1.toInt = (us.length : Int)) (q : kq < cq) : (¬ (la - kq) < 0 ∧ (la - kq) < z1) ∧ us.getD (la - kq).toNatClampNeg (.int (0 : Int32)) = .int (own_dig A K) := by
  rw [Int32.lt_iff_toInt_lt] at q
  have e := own_sub (z := la - kq) rfl (by omega) (by omega)
  exact own_dgat hng hus (by omega) (by omega) hz
theorem own_len13 {v rr cn : Int32} (hv : 0 ≤ v.toInt ∧ v.toInt ≤ 100) (hr : 0 ≤ rr.toInt ∧ rr.toInt ≤ 10) (h : cn.toInt = 15 + v.toInt + rr.toInt) : cn = (((13 : Int32) + v) + (2 : Int32)) + rr := by
  apply Int32.toInt_inj.mp
  have e13 : (13 : Int32).toInt = 13 := rfl
  have e2 : (2 : Int32).toInt = 2 := rfl
  have q1 := own_add (z := (13 : Int32) + v) rfl (by omega) (by omega)
  have q2 := own_add (z := ((13 : Int32) + v) + (2 : Int32)) rfl (by omega) (by omega)
  have q3 := own_add (z := (((13 : Int32) + v) + (2 : Int32)) + rr) rfl (by omega) (by omega)
  omega


theorem own_cd_add {A j : Nat} {c : Int32} (h : own_cd A j c) (hA : 10 ^ (j + 1) ≤ A) (hj : j ≤ 1000) : own_cd A (j + 1) (c + 1) := by
  obtain ⟨t, h1, h2, h3, h4, h5⟩ := h
  have e : t = j + 1 := by
    rcases Nat.lt_or_ge t (j + 1) with q | q
    · have r := h4 (by omega)
      have r2 : 10 ^ t ≤ 10 ^ (j + 1) := Nat.pow_le_pow_right (by decide) (by omega)
      omega
    · omega
  subst e
  exact own_cdY (by have q := own_add (z := c + 1) rfl (by omega) (by decide); have e1 : (1 : Int32).toInt = 1 := rfl; omega) hA
theorem own_cd_add0 {A j : Nat} {c : Int32} (h : own_cd A j c) (hA : A < 10 ^ (j + 1)) : own_cd A (j + 1) (c + 0) := by
  have e : c + 0 = c := by simp
  rw [e]; exact own_cdN h hA
def own_pws : List Int64 := [1, 10, 100, 1000, 10000, 100000, 1000000, 10000000, 100000000, 1000000000, 10000000000, 100000000000, 1000000000000, 10000000000000, 100000000000000, 1000000000000000, 10000000000000000, 100000000000000000, 1000000000000000000]
theorem own_pwI : ∀ K, K < 19 → (own_pws.getD K 0).toInt = ((10 ^ K : Nat) : Int) := by decide +kernel
theorem own_pwV {K : Nat} (hK : K < 19) {k : Int32} (hk : k.toInt = (K : Int)) {d : Value} : (own_pws.map fun x => Value.long x).getD k.toNatClampNeg d = .long (own_pws.getD K 0) := by
  have q := own_nat (x := k) (by omega)
  have e : k.toNatClampNeg = K := by omega
  have hl : K < own_pws.length := hK
  rw [e]; simp [List.getD, hl]
/-- |(v / 10^K) % 10| is A's digit K -/
theorem own_absdig {x pw q z : Int64} {A K : Nat} (hx : A = x.toInt.natAbs) (hpw : pw.toInt = ((10 ^ K : Nat) : Int)) (hq : q = (x / pw) % (10 : Int64)) (hz : z = if q < 0 then -q else q) {v : Int32} (hv : v = z.toInt32) : ((48 : Int32) + v).toUInt32.toUInt16.toUInt32.toInt32 = own_dig A K := by
  have hp : 0 < 10 ^ K := Nat.pow_pos (by decide)
  have hne : pw ≠ -1 := fun e => by rw [e] at hpw; have : (-1 : Int64).toInt = -1 := rfl; omega
  have c0 := c_ldiv x pw _ hpw hne
  have r := c_lrem (x / pw) 10 10 rfl
  rw [lrem_mod] at r
  have hA : (A : Int) = x.toInt ∨ (A : Int) = -x.toInt := by omega
  have hl := Nat.mod_lt (A / 10 ^ K) (by decide : 0 < 10)
  have hq1 : (0 ≤ x.toInt ∧ q.toInt = ((A / 10 ^ K % 10 : Nat) : Int)) ∨ (x.toInt < 0 ∧ q.toInt = -((A / 10 ^ K % 10 : Nat) : Int)) := by
    rcases Int.lt_or_le x.toInt 0 with hs | hs
    · right
      refine ⟨hs, ?_⟩
      have e : -x.toInt = (A : Int) := by omega
      have hd : (x / pw).toInt = -((A / 10 ^ K : Nat) : Int) := by rw [c0.2 hs, e, Int.natCast_ediv]
      rw [hq]
      generalize A / 10 ^ K = B at hd
      rcases Nat.eq_zero_or_pos B with rfl | hB
      · rw [r.1 (by omega), hd]; rfl
      · rw [r.2 (by omega), hd]; omega
    · left
      refine ⟨hs, ?_⟩
      have e : x.toInt = (A : Int) := by omega
      have hd : (x / pw).toInt = ((A / 10 ^ K : Nat) : Int) := by rw [c0.1 hs, e, Int.natCast_ediv]
      rw [hq]
      generalize A / 10 ^ K = B at hd ⊢
      rw [r.1 (by omega), hd]; omega
  have hz1 : z.toInt = ((A / 10 ^ K % 10 : Nat) : Int) := by
    have hn := c_lneg q
    have hr := rng64 (-q)
    rw [hz]
    split
    · rename_i hlt
      rw [Int64.lt_iff_toInt_lt] at hlt
      have hlt : q.toInt < 0 := hlt
      omega
    · rename_i hlt
      rw [Int64.lt_iff_toInt_lt] at hlt
      have hlt : ¬ q.toInt < 0 := hlt
      omega
  have c1 := c_l2i z
  have c2 := rng32 z.toInt32
  rw [← hv] at c1 c2
  have c3 := own_add (z := (48 : Int32) + v) rfl (by decide) (by omega)
  have c4 := c_i2c ((48 : Int32) + v)
  have e48 : (48 : Int32).toInt = 48 := rfl
  apply Int32.toInt_inj.mp
  rw [own_digI]
  omega

theorem d46_0 : decode jdk_43_method_13_code 0 = .ok (.aload_n 0, 1) := by decide +kernel
theorem d46_1 : decode jdk_43_method_13_code 1 = .ok (.arraylength, 1) := by decide +kernel
theorem d46_2 : decode jdk_43_method_13_code 2 = .ok (.aload_n 1, 1) := by decide +kernel
theorem d46_3 : decode jdk_43_method_13_code 3 = .ok (.arraylength, 1) := by decide +kernel
theorem d46_4 : decode jdk_43_method_13_code 4 = .ok (.if_icmp .ne 30, 3) := by decide +kernel
theorem d46_7 : decode jdk_43_method_13_code 7 = .ok (.iconst 0, 1) := by decide +kernel
theorem d46_8 : decode jdk_43_method_13_code 8 = .ok (.istore_n 2, 1) := by decide +kernel
theorem d46_9 : decode jdk_43_method_13_code 9 = .ok (.iload_n 2, 1) := by decide +kernel
theorem d46_10 : decode jdk_43_method_13_code 10 = .ok (.aload_n 0, 1) := by decide +kernel
theorem d46_11 : decode jdk_43_method_13_code 11 = .ok (.arraylength, 1) := by decide +kernel
theorem d46_12 : decode jdk_43_method_13_code 12 = .ok (.if_icmp .ge 20, 3) := by decide +kernel
theorem d46_15 : decode jdk_43_method_13_code 15 = .ok (.aload_n 0, 1) := by decide +kernel
theorem d46_16 : decode jdk_43_method_13_code 16 = .ok (.iload_n 2, 1) := by decide +kernel
theorem d46_17 : decode jdk_43_method_13_code 17 = .ok (.baload, 1) := by decide +kernel
theorem d46_18 : decode jdk_43_method_13_code 18 = .ok (.aload_n 1, 1) := by decide +kernel
theorem d46_19 : decode jdk_43_method_13_code 19 = .ok (.iload_n 2, 1) := by decide +kernel
theorem d46_20 : decode jdk_43_method_13_code 20 = .ok (.baload, 1) := by decide +kernel
theorem d46_21 : decode jdk_43_method_13_code 21 = .ok (.if_icmp .eq 5, 3) := by decide +kernel
theorem d46_26 : decode jdk_43_method_13_code 26 = .ok (.iinc 2 1, 3) := by decide +kernel
theorem d46_29 : decode jdk_43_method_13_code 29 = .ok (.goto (-20), 3) := by decide +kernel
theorem d46_32 : decode jdk_43_method_13_code 32 = .ok (.iconst 1, 1) := by decide +kernel
theorem d46_33 : decode jdk_43_method_13_code 33 = .ok (.ireturn, 1) := by decide +kernel
theorem pn_46 : plainFor (⟨"java/lang/StringLatin1", "equals", "([B[B)Z"⟩ : MethodName) = true := plainFor_of_name (by first | (simp [plainName, overriddenIn]; done) | decide +kernel)
set_option maxRecDepth 65536 in
set_option maxHeartbeats 4000000 in
theorem con_eqW {p : Program} {l : Launch} {e : Env} {R : Room} {s : State} {m : MethodId} {args : Array Value} {below : List Frame} {meth : Method} {c : Code} {Z : State} {a0 : Array Value} (hw : ∀ d ∈ tables_1, d.before a0 Z = true) (hx : p.tables.exec = Jvm.exec) (hby : c.code = jdk_43_method_13_code) (hml : c.maxLocals = 3) (hret : meth.sig.returnType = some .boolean) (hlk : meth.locks = false) (hown : s.vm.findClass "java/lang/StringLatin1" = some m.cls) (hZ : Z.Warmed39 s.vm) (h0 : Heap) (x1 y1 : Addr) (kx ky : ClassId) (zz : Int32) (bs : List Int32) (hz : zz.toInt = (bs.length : Int)) (hz2 : bs.length ≤ 1000) (A1 : Arv Z h0 x1 kx .byte zz (own_cs bs) (.int (0 : Int32))) (A2 : Arv Z h0 y1 ky .byte zz (own_cs bs) (.int (0 : Int32))) :
    ∀ (k : Nat) (T0 : State) (X0 : Stand p l e R s m args below meth c T0 [] 0 0) (e0 : T0.heap = h0) (i : Nat) (p2 : Int32) (h2i : p2.toInt = (i : Int)) (hik : i + k = bs.length), own_WP p e below (FrameEnd s) (fun v h L => ∃ z : Int32, v = some (.int z) ∧ (z = 1) ∧ L = [] ∧ h = h0) 0 0 (T0.setTop (mkF m 9 #[.val (.ref x1), .val (.ref y1), .val (.int p2)] [])) := by
  intro k
  induction k using Nat.strongRecOn with | _ k ih => ?_
  intro T0 X0 e0 i p2 h2i hik
  refine own_iloadN (pc' := 10) X0 hx (hb hby d46_9) rfl rfl ?_
  refine own_aloadN (pc' := 11) X0 hx (hb hby d46_10) rfl rfl rfl ?_
  refine own_arrlen (pc' := 12) X0 hx hZ e0 A1 (hb hby d46_11) rfl ?_
  refine own_icmp_ge (pt := 32) (pf := 15) X0 hx (hb hby d46_12) rfl (by decide) rfl (fun hc12 => ?_) (fun hc12 => ?_)
  · skip
    refine own_iconst (pc' := 33) X0 hx (1 : Int32) (hb hby d46_32) rfl rfl ?_
    refine own_retN X0 hx (fun _ _ _ _ q => q) hlk (t := .boolean) (by decide) hret (hb hby d46_33) (by decide) (by decide) ?_
    exact ⟨(1 : Int32), rfl, rfl, rfl, e0⟩
  · skip
    have hi : i < bs.length := by rw [Int32.lt_iff_toInt_lt] at hc12; omega
    refine own_aloadN (pc' := 16) X0 hx (hb hby d46_15) rfl rfl rfl ?_
    refine own_iloadN (pc' := 17) X0 hx (hb hby d46_16) rfl rfl ?_
    refine own_baload (pc' := 18) (v := (.int (bs.getD i 0))) X0 hx hZ e0 A1 ⟨own_nn (by omega), by rw [Int32.lt_iff_toInt_lt]; omega⟩ (own_cs_at h2i hi) (hb hby d46_17) rfl ?_
    refine own_aloadN (pc' := 19) X0 hx (hb hby d46_18) rfl rfl rfl ?_
    refine own_iloadN (pc' := 20) X0 hx (hb hby d46_19) rfl rfl ?_
    refine own_baload (pc' := 21) (v := (.int (bs.getD i 0))) X0 hx hZ e0 A2 ⟨own_nn (by omega), by rw [Int32.lt_iff_toInt_lt]; omega⟩ (own_cs_at h2i hi) (hb hby d46_20) rfl ?_
    refine own_icmp_eq (pt := 26) (pf := 24) X0 hx (hb hby d46_21) rfl (by decide) rfl (fun hc21 => ?_) (fun hc21 => absurd (rfl) hc21)
    obtain ⟨v1, hv1⟩ : ∃ z : Int32, z = (p2 + (1 : Int32)) := ⟨_, rfl⟩
    refine own_iinc (pc' := 29) (l' := #[.val (.ref x1), .val (.ref y1), .val (.int v1)]) X0 hx (hb hby d46_26) rfl hv1 rfl rfl ?_
    refine own_goto (pc' := 9) X0 hx (hb hby d46_29) (by decide) rfl ?_
    exact ih (k - 1) (by omega) T0 X0 e0 (i + 1) v1 (by rw [own_add hv1 (by omega) (by decide)]; have e1 : (1 : Int32).toInt = 1 := rfl; omega) (by omega)
theorem ef_con_eqL (m : MethodId) (x1 : Addr) (y1 : Addr) : entryFrame m #[(.ref x1), (.ref y1)] 3 = mkF m 0 #[.val (.ref x1), .val (.ref y1), .unset] [] := by first | (simp [entryFrame, mkF, argsToLocals, Value.category]; done) | rfl
set_option maxRecDepth 65536 in
set_option maxHeartbeats 4000000 in
theorem con_eqL (l : Launch) (Z : State) (a0 : Array Value) (hw : ∀ d ∈ tables_1, d.before a0 Z = true) (x1 : Addr) (y1 : Addr) (h0 : Heap) (n0 : Nat) (Z0 : n0 ≤ h0.size) (kx ky : ClassId) (zz : Int32) (bs : List Int32) (hz : zz.toInt = (bs.length : Int)) (hz2 : bs.length ≤ 1000) (A1 : Arv Z h0 x1 kx .byte zz (own_cs bs) (.int (0 : Int32))) (A2 : Arv Z h0 y1 ky .byte zz (own_cs bs) (.int (0 : Int32))) :
    own_Con l Z (⟨"java/lang/StringLatin1", "equals", "([B[B)Z"⟩ : MethodName) jdk_43_method_13_code 3 (some .boolean) ({ frames := 0, cells := 0, slots := 0, locals := 0 } : Room) #[(.ref x1), (.ref y1)] h0 (fun v h L => ∃ z : Int32, v = some (.int z) ∧ (z = 1) ∧ L = [] ∧ h = h0) := by
  refine own_Con_of pn_46 ?_
  intro p e s m below meth c s₁ X0 hx hby hml hret hlk hnm hown hZ e0
  have hown : s.vm.findClass "java/lang/StringLatin1" = some m.cls := hown
  have hml : c.maxLocals = 3 := hml
  show own_WP _ _ _ _ _ _ _ (s₁.setTop (entryFrame m #[(.ref x1), (.ref y1)] 3))
  rw [ef_con_eqL m x1 y1]
  refine own_aloadN (pc' := 1) X0 hx (hb hby d46_0) rfl rfl rfl ?_
  refine own_arrlen (pc' := 2) X0 hx hZ e0 A1 (hb hby d46_1) rfl ?_
  refine own_aloadN (pc' := 3) X0 hx (hb hby d46_2) rfl rfl rfl ?_
  refine own_arrlen (pc' := 4) X0 hx hZ e0 A2 (hb hby d46_3) rfl ?_
  refine own_icmp_ne (pt := 34) (pf := 7) X0 hx (hb hby d46_4) rfl (by decide) rfl (fun hc4 => absurd (rfl) hc4) (fun hc4 => ?_)
  refine own_iconst (pc' := 8) X0 hx (0 : Int32) (hb hby d46_7) rfl rfl ?_
  refine own_istoreN (pc' := 9) (l' := #[.val (.ref x1), .val (.ref y1), .val (.int (0 : Int32))]) X0 hx (hb hby d46_8) rfl rfl rfl ?_
  exact con_eqW hw hx hby hml hret hlk hown hZ h0 x1 y1 kx ky zz bs hz hz2 A1 A2 bs.length _ X0 e0 0 0 rfl (by omega)
theorem d45_0 : decode jdk_42_method_66_code 0 = .ok (.aload_n 0, 1) := by decide +kernel
theorem d45_1 : decode jdk_42_method_66_code 1 = .ok (.aload_n 1, 1) := by decide +kernel
theorem d45_2 : decode jdk_42_method_66_code 2 = .ok (.if_acmp .ne 5, 3) := by decide +kernel
theorem d45_5 : decode jdk_42_method_66_code 5 = .ok (.iconst 1, 1) := by decide +kernel
theorem d45_6 : decode jdk_42_method_66_code 6 = .ok (.ireturn, 1) := by decide +kernel
theorem d45_7 : decode jdk_42_method_66_code 7 = .ok (.aload_n 1, 1) := by decide +kernel
theorem d45_8 : decode jdk_42_method_66_code 8 = .ok (.instanceof 10, 3) := by decide +kernel
theorem d45_11 : decode jdk_42_method_66_code 11 = .ok (.ifCond .eq 43, 3) := by decide +kernel
theorem d45_14 : decode jdk_42_method_66_code 14 = .ok (.aload_n 1, 1) := by decide +kernel
theorem d45_15 : decode jdk_42_method_66_code 15 = .ok (.checkcast 10, 3) := by decide +kernel
theorem d45_18 : decode jdk_42_method_66_code 18 = .ok (.astore_n 2, 1) := by decide +kernel
theorem d45_19 : decode jdk_42_method_66_code 19 = .ok (.getstatic 38, 3) := by decide +kernel
theorem d45_22 : decode jdk_42_method_66_code 22 = .ok (.ifCond .eq 14, 3) := by decide +kernel
theorem d45_25 : decode jdk_42_method_66_code 25 = .ok (.aload_n 0, 1) := by decide +kernel
theorem d45_26 : decode jdk_42_method_66_code 26 = .ok (.getfield 15, 3) := by decide +kernel
theorem d45_29 : decode jdk_42_method_66_code 29 = .ok (.aload_n 2, 1) := by decide +kernel
theorem d45_30 : decode jdk_42_method_66_code 30 = .ok (.getfield 15, 3) := by decide +kernel
theorem d45_33 : decode jdk_42_method_66_code 33 = .ok (.if_icmp .ne 21, 3) := by decide +kernel
theorem d45_36 : decode jdk_42_method_66_code 36 = .ok (.aload_n 0, 1) := by decide +kernel
theorem d45_37 : decode jdk_42_method_66_code 37 = .ok (.getfield 9, 3) := by decide +kernel
theorem d45_40 : decode jdk_42_method_66_code 40 = .ok (.aload_n 2, 1) := by decide +kernel
theorem d45_41 : decode jdk_42_method_66_code 41 = .ok (.getfield 9, 3) := by decide +kernel
theorem d45_44 : decode jdk_42_method_66_code 44 = .ok (.invokestatic 541, 3) := by decide +kernel
theorem d45_47 : decode jdk_42_method_66_code 47 = .ok (.ifCond .eq 7, 3) := by decide +kernel
theorem d45_50 : decode jdk_42_method_66_code 50 = .ok (.iconst 1, 1) := by decide +kernel
theorem d45_51 : decode jdk_42_method_66_code 51 = .ok (.goto 4, 3) := by decide +kernel
theorem d45_55 : decode jdk_42_method_66_code 55 = .ok (.ireturn, 1) := by decide +kernel
theorem pn_45 : plainFor (⟨"java/lang/String", "equals", "(Ljava/lang/Object;)Z"⟩ : MethodName) = true := plainFor_of_name (by first | (simp [plainName, overriddenIn]; done) | decide +kernel)
theorem ef_con_seq (m : MethodId) (a : Addr) (o : Addr) : entryFrame m #[(.ref a), (.ref o)] 3 = mkF m 0 #[.val (.ref a), .val (.ref o), .unset] [] := by first | (simp [entryFrame, mkF, argsToLocals, Value.category]; done) | rfl
theorem pd29 : parseMethodDescriptor "([B[B)Z" = some ⟨[(.array .byte), (.array .byte)], some .boolean⟩ := by decide +kernel
set_option maxRecDepth 65536 in
set_option maxHeartbeats 4000000 in
theorem con_seq (l : Launch) (Z : State) (a0 : Array Value) (hw : ∀ d ∈ tables_1, d.before a0 Z = true) (a : Addr) (o : Addr) (h0 : Heap) (n0 : Nat) (Z0 : n0 ≤ h0.size) (G1 : Int32) (fm : Value) (hG : own_G Z G1 fm) (X00 : own_Old Z n0 h0) (b : Addr) (kb : ClassId) (zz : Int32) (bs : List Int32) (hz : zz.toInt = (bs.length : Int)) (hz2 : bs.length ≤ 1000) (hE : Exa Z h0 a "java/lang/String") (hC : Fld Z h0 a "java/lang/String" "coder" "B" (.int (0 : Int32))) (hV : Fld Z h0 a "java/lang/String" "value" "[B" (.ref b)) (hA : Arv Z h0 b kb .byte zz (own_cs bs) (.int (0 : Int32))) (ob : Addr) (ko : ClassId) (oE : Exa Z h0 o "java/lang/String") (oC : Fld Z h0 o "java/lang/String" "coder" "B" (.int (0 : Int32))) (oV : Fld Z h0 o "java/lang/String" "value" "[B" (.ref ob)) (oA : Arv Z h0 ob ko .byte zz (own_cs bs) (.int (0 : Int32))) :
    own_Con l Z (⟨"java/lang/String", "equals", "(Ljava/lang/Object;)Z"⟩ : MethodName) jdk_42_method_66_code 3 (some .boolean) ({ frames := 1, cells := 0, slots := 0, locals := 16 } : Room) #[(.ref a), (.ref o)] h0 (fun v h L => ∃ z : Int32, v = some (.int z) ∧ (z = 1) ∧ L = [] ∧ h = h0) := by
  refine own_Con_of pn_45 ?_
  intro p e s m below meth c s₁ X0 hx hby hml hret hlk hnm hown hZ e0
  have hown : s.vm.findClass "java/lang/String" = some m.cls := hown
  have hml : c.maxLocals = 3 := hml
  show own_WP _ _ _ _ _ _ _ (s₁.setTop (entryFrame m #[(.ref a), (.ref o)] 3))
  rw [ef_con_seq m a o]
  refine own_aloadN (pc' := 1) X0 hx (hb hby d45_0) rfl rfl rfl ?_
  refine own_aloadN (pc' := 2) X0 hx (hb hby d45_1) rfl rfl rfl ?_
  by_cases hc2 : a = o
  · refine own_acmp (pc' := 5) X0 hx rfl rfl true (decide_eq_true (congrArg Value.ref hc2)) (hb hby d45_2) (by decide) (by decide) ?_
    refine own_iconst (pc' := 6) X0 hx (1 : Int32) (hb hby d45_5) rfl rfl ?_
    refine own_retN X0 hx (fun _ _ _ _ q => q) hlk (t := .boolean) (by decide) hret (hb hby d45_6) (by decide) (by decide) ?_
    exact ⟨(1 : Int32), rfl, rfl, rfl, e0⟩
  · refine own_acmp (pc' := 7) X0 hx rfl rfl false (decide_eq_false fun q => hc2 (Value.ref.inj q)) (hb hby d45_2) (by decide) (by decide) ?_
    refine own_aloadN (pc' := 8) X0 hx (hb hby d45_7) rfl rfl rfl ?_
    refine own_instY (pc' := 11) X0 hx hZ hown (own_w hw 257 rfl) e0 (Ins.self oE) (hb hby d45_8) rfl ?_
    intro T1 X1 e1
    refine own_if_eq (pt := 54) (pf := 14) X1 hx (hb hby d45_11) rfl (by decide) rfl (fun hc11 => absurd hc11 (by decide)) (fun hc11 => ?_)
    refine own_aloadN (pc' := 15) X1 hx (hb hby d45_14) rfl rfl rfl ?_
    refine own_castY (pc' := 18) X1 hx hZ hown (own_w hw 257 rfl) e1 (Ins.self oE) (hb hby d45_15) rfl ?_
    intro T2 X2 e2
    refine own_astoreN (pc' := 19) (l' := #[.val (.ref a), .val (.ref o), .val (.ref o)]) X2 hx (hb hby d45_18) rfl rfl rfl ?_
    refine own_getS (pc' := 22) X2 hx hZ hown (host := "") (Or.inl (own_w hw 82 rfl)) Via.refl e2 (hG.1.ext X00.x) (hb hby d45_19) rfl ?_
    intro T3 X3 e3
    refine own_if_eq (pt := 36) (pf := 25) X3 hx (hb hby d45_22) rfl (by decide) rfl (fun hc22 => absurd hc22 (hG.2.1)) (fun hc22 => ?_)
    refine own_aloadN (pc' := 26) X3 hx (hb hby d45_25) rfl rfl rfl ?_
    refine own_getF (pc' := 29) X3 hx hZ hown (host := "") (Or.inl (own_w hw 21 rfl)) Via.refl e3 hC (hb hby d45_26) rfl ?_
    intro T4 X4 e4
    refine own_aloadN (pc' := 30) X4 hx (hb hby d45_29) rfl rfl rfl ?_
    refine own_getF (pc' := 33) X4 hx hZ hown (host := "") (Or.inl (own_w hw 21 rfl)) Via.refl e4 oC (hb hby d45_30) rfl ?_
    intro T5 X5 e5
    refine own_icmp_ne (pt := 54) (pf := 36) X5 hx (hb hby d45_33) rfl (by decide) rfl (fun hc33 => absurd (by decide) hc33) (fun hc33 => ?_)
    refine own_aloadN (pc' := 37) X5 hx (hb hby d45_36) rfl rfl rfl ?_
    refine own_getF (pc' := 40) X5 hx hZ hown (host := "") (Or.inl (own_w hw 20 rfl)) Via.refl e5 hV (hb hby d45_37) rfl ?_
    intro T6 X6 e6
    refine own_aloadN (pc' := 41) X6 hx (hb hby d45_40) rfl rfl rfl ?_
    refine own_getF (pc' := 44) X6 hx hZ hown (host := "") (Or.inl (own_w hw 20 rfl)) Via.refl e6 oV (hb hby d45_41) rfl ?_
    intro T7 X7 e7
    refine own_callS (pc' := 47) (W := 0) (y := (⟨"java/lang/StringLatin1", "equals", "([B[B)Z"⟩ : MethodName)) X7 hx hZ hown (own_w hw 258 rfl) (own_w hw 259 rfl) (own_w hw 231 rfl) (own_w hw 260 rfl) (by decide) (con_eqL l Z a0 hw b ob _ n0 Z0 _ _ zz bs hz hz2 hA oA) e7 pd29 [(.ref b), (.ref ob)] [] rfl rfl rfl (Nat.le_of_eq rfl) (by decide) (by decide) (by rw [hml]; rfl) (hb hby d45_44) (by decide) (by decide) rfl ?_
    intro v8 T8 L8 X8 q8
    obtain ⟨r8, rfl, hr8, rfl, e8⟩ := q8
    subst hr8
    show own_WP _ _ _ _ _ _ _ (T8.setTop (mkF m 47 #[.val (.ref a), .val (.ref o), .val (.ref o)] [(.int (1 : Int32))]))
    refine own_if_eq (pt := 54) (pf := 50) X8 hx (hb hby d45_47) rfl (by decide) rfl (fun hc47 => absurd hc47 (by decide)) (fun hc47 => ?_)
    refine own_iconst (pc' := 51) X8 hx (1 : Int32) (hb hby d45_50) rfl rfl ?_
    refine own_goto (pc' := 55) X8 hx (hb hby d45_51) (by decide) rfl ?_
    refine own_retN X8 hx (fun _ _ _ _ q => q) hlk (t := .boolean) (by decide) hret (hb hby d45_55) (by decide) (by decide) ?_
    exact ⟨(1 : Int32), rfl, rfl, rfl, e8⟩
theorem d48_0 : decode method_4_code 0 = .ok (.bipush 19, 2) := by decide +kernel
theorem d48_2 : decode method_4_code 2 = .ok (.newarray .long, 2) := by decide +kernel
theorem d48_4 : decode method_4_code 4 = .ok (.dup, 1) := by decide +kernel
theorem d48_5 : decode method_4_code 5 = .ok (.iconst 0, 1) := by decide +kernel
theorem d48_6 : decode method_4_code 6 = .ok (.lconst 1, 1) := by decide +kernel
theorem d48_7 : decode method_4_code 7 = .ok (.lastore, 1) := by decide +kernel
theorem d48_8 : decode method_4_code 8 = .ok (.dup, 1) := by decide +kernel
theorem d48_9 : decode method_4_code 9 = .ok (.iconst 1, 1) := by decide +kernel
theorem d48_10 : decode method_4_code 10 = .ok (.ldc2_w 87, 3) := by decide +kernel
theorem d48_13 : decode method_4_code 13 = .ok (.lastore, 1) := by decide +kernel
theorem d48_14 : decode method_4_code 14 = .ok (.dup, 1) := by decide +kernel
theorem d48_15 : decode method_4_code 15 = .ok (.iconst 2, 1) := by decide +kernel
theorem d48_16 : decode method_4_code 16 = .ok (.ldc2_w 89, 3) := by decide +kernel
theorem d48_19 : decode method_4_code 19 = .ok (.lastore, 1) := by decide +kernel
theorem d48_20 : decode method_4_code 20 = .ok (.dup, 1) := by decide +kernel
theorem d48_21 : decode method_4_code 21 = .ok (.iconst 3, 1) := by decide +kernel
theorem d48_22 : decode method_4_code 22 = .ok (.ldc2_w 91, 3) := by decide +kernel
theorem d48_25 : decode method_4_code 25 = .ok (.lastore, 1) := by decide +kernel
theorem d48_26 : decode method_4_code 26 = .ok (.dup, 1) := by decide +kernel
theorem d48_27 : decode method_4_code 27 = .ok (.iconst 4, 1) := by decide +kernel
theorem d48_28 : decode method_4_code 28 = .ok (.ldc2_w 93, 3) := by decide +kernel
theorem d48_31 : decode method_4_code 31 = .ok (.lastore, 1) := by decide +kernel
theorem d48_32 : decode method_4_code 32 = .ok (.dup, 1) := by decide +kernel
theorem d48_33 : decode method_4_code 33 = .ok (.iconst 5, 1) := by decide +kernel
theorem d48_34 : decode method_4_code 34 = .ok (.ldc2_w 95, 3) := by decide +kernel
theorem d48_37 : decode method_4_code 37 = .ok (.lastore, 1) := by decide +kernel
theorem d48_38 : decode method_4_code 38 = .ok (.dup, 1) := by decide +kernel
theorem d48_39 : decode method_4_code 39 = .ok (.bipush 6, 2) := by decide +kernel
theorem d48_41 : decode method_4_code 41 = .ok (.ldc2_w 97, 3) := by decide +kernel
theorem d48_44 : decode method_4_code 44 = .ok (.lastore, 1) := by decide +kernel
theorem d48_45 : decode method_4_code 45 = .ok (.dup, 1) := by decide +kernel
theorem d48_46 : decode method_4_code 46 = .ok (.bipush 7, 2) := by decide +kernel
theorem d48_48 : decode method_4_code 48 = .ok (.ldc2_w 99, 3) := by decide +kernel
theorem d48_51 : decode method_4_code 51 = .ok (.lastore, 1) := by decide +kernel
theorem d48_52 : decode method_4_code 52 = .ok (.dup, 1) := by decide +kernel
theorem d48_53 : decode method_4_code 53 = .ok (.bipush 8, 2) := by decide +kernel
theorem d48_55 : decode method_4_code 55 = .ok (.ldc2_w 101, 3) := by decide +kernel
theorem d48_58 : decode method_4_code 58 = .ok (.lastore, 1) := by decide +kernel
theorem d48_59 : decode method_4_code 59 = .ok (.dup, 1) := by decide +kernel
theorem d48_60 : decode method_4_code 60 = .ok (.bipush 9, 2) := by decide +kernel
theorem d48_62 : decode method_4_code 62 = .ok (.ldc2_w 103, 3) := by decide +kernel
theorem d48_65 : decode method_4_code 65 = .ok (.lastore, 1) := by decide +kernel
theorem d48_66 : decode method_4_code 66 = .ok (.dup, 1) := by decide +kernel
theorem d48_67 : decode method_4_code 67 = .ok (.bipush 10, 2) := by decide +kernel
theorem d48_69 : decode method_4_code 69 = .ok (.ldc2_w 105, 3) := by decide +kernel
theorem d48_72 : decode method_4_code 72 = .ok (.lastore, 1) := by decide +kernel
theorem d48_73 : decode method_4_code 73 = .ok (.dup, 1) := by decide +kernel
theorem d48_74 : decode method_4_code 74 = .ok (.bipush 11, 2) := by decide +kernel
theorem d48_76 : decode method_4_code 76 = .ok (.ldc2_w 107, 3) := by decide +kernel
theorem d48_79 : decode method_4_code 79 = .ok (.lastore, 1) := by decide +kernel
theorem d48_80 : decode method_4_code 80 = .ok (.dup, 1) := by decide +kernel
theorem d48_81 : decode method_4_code 81 = .ok (.bipush 12, 2) := by decide +kernel
theorem d48_83 : decode method_4_code 83 = .ok (.ldc2_w 109, 3) := by decide +kernel
theorem d48_86 : decode method_4_code 86 = .ok (.lastore, 1) := by decide +kernel
theorem d48_87 : decode method_4_code 87 = .ok (.dup, 1) := by decide +kernel
theorem d48_88 : decode method_4_code 88 = .ok (.bipush 13, 2) := by decide +kernel
theorem d48_90 : decode method_4_code 90 = .ok (.ldc2_w 111, 3) := by decide +kernel
theorem d48_93 : decode method_4_code 93 = .ok (.lastore, 1) := by decide +kernel
theorem d48_94 : decode method_4_code 94 = .ok (.dup, 1) := by decide +kernel
theorem d48_95 : decode method_4_code 95 = .ok (.bipush 14, 2) := by decide +kernel
theorem d48_97 : decode method_4_code 97 = .ok (.ldc2_w 113, 3) := by decide +kernel
theorem d48_100 : decode method_4_code 100 = .ok (.lastore, 1) := by decide +kernel
theorem d48_101 : decode method_4_code 101 = .ok (.dup, 1) := by decide +kernel
theorem d48_102 : decode method_4_code 102 = .ok (.bipush 15, 2) := by decide +kernel
theorem d48_104 : decode method_4_code 104 = .ok (.ldc2_w 115, 3) := by decide +kernel
theorem d48_107 : decode method_4_code 107 = .ok (.lastore, 1) := by decide +kernel
theorem d48_108 : decode method_4_code 108 = .ok (.dup, 1) := by decide +kernel
theorem d48_109 : decode method_4_code 109 = .ok (.bipush 16, 2) := by decide +kernel
theorem d48_111 : decode method_4_code 111 = .ok (.ldc2_w 117, 3) := by decide +kernel
theorem d48_114 : decode method_4_code 114 = .ok (.lastore, 1) := by decide +kernel
theorem d48_115 : decode method_4_code 115 = .ok (.dup, 1) := by decide +kernel
theorem d48_116 : decode method_4_code 116 = .ok (.bipush 17, 2) := by decide +kernel
theorem d48_118 : decode method_4_code 118 = .ok (.ldc2_w 119, 3) := by decide +kernel
theorem d48_121 : decode method_4_code 121 = .ok (.lastore, 1) := by decide +kernel
theorem d48_122 : decode method_4_code 122 = .ok (.dup, 1) := by decide +kernel
theorem d48_123 : decode method_4_code 123 = .ok (.bipush 18, 2) := by decide +kernel
theorem d48_125 : decode method_4_code 125 = .ok (.ldc2_w 121, 3) := by decide +kernel
theorem d48_128 : decode method_4_code 128 = .ok (.lastore, 1) := by decide +kernel
theorem d48_129 : decode method_4_code 129 = .ok (.astore_n 1, 1) := by decide +kernel
theorem d48_130 : decode method_4_code 130 = .ok (.aload_n 1, 1) := by decide +kernel
theorem d48_131 : decode method_4_code 131 = .ok (.iload_n 0, 1) := by decide +kernel
theorem d48_132 : decode method_4_code 132 = .ok (.laload, 1) := by decide +kernel
theorem d48_133 : decode method_4_code 133 = .ok (.lreturn, 1) := by decide +kernel
theorem pn_48 : plainFor (⟨"com/example/ossify/ossify/TornTailDescribePinLaw", "pow10", "(I)J"⟩ : MethodName) = true := plainFor_of_name (by first | (simp [plainName, overriddenIn]; done) | decide +kernel)
theorem ef_con_p10 (m : MethodId) (kq : Int32) : entryFrame m #[(.int kq)] 2 = mkF m 0 #[.val (.int kq), .unset] [] := by first | (simp [entryFrame, mkF, argsToLocals, Value.category]; done) | rfl
set_option maxRecDepth 65536 in
set_option maxHeartbeats 4000000 in
theorem con_p10 (l : Launch) (Z : State) (a0 : Array Value) (hw : ∀ d ∈ tables_1, d.before a0 Z = true) (kq : Int32) (h0 : Heap) (n0 : Nat) (Z0 : n0 ≤ h0.size) (K : Nat) (hkq : kq.toInt = (K : Int)) (hK : K ≤ 18) :
    own_Con l Z (⟨"com/example/ossify/ossify/TornTailDescribePinLaw", "pow10", "(I)J"⟩ : MethodName) method_4_code 2 (some .long) ({ frames := 0, cells := 1, slots := 19, locals := 0 } : Room) #[(.int kq)] h0 (fun v h L => ∃ z : Int64, v = some (.long z) ∧ Fr n0 L ∧ Keep h0 h [] ∧ z.toInt = ((10 ^ K : Nat) : Int)) := by
  refine own_Con_of pn_48 ?_
  intro p e s m below meth c s₁ X0 hx hby hml hret hlk hnm hown hZ e0
  have hown : s.vm.findClass "com/example/ossify/ossify/TornTailDescribePinLaw" = some m.cls := hown
  have hml : c.maxLocals = 2 := hml
  have N0 := Fr.nil n0
  show own_WP _ _ _ _ _ _ _ (s₁.setTop (entryFrame m #[(.int kq)] 2))
  rw [ef_con_p10 m kq]
  refine own_bipush (pc' := 2) X0 hx (19 : Int32) (hb hby d48_0) rfl rfl ?_
  refine own_newP (pc' := 4) (cap := 19) X0 hx hZ (own_w hw 268 rfl) e0 (hb hby d48_2) (by decide) (by decide) (by decide) (by decide) (by decide) rfl ?_
  intro T1 h1 k1 b1 g1 X1 e1 E1 A1
  have g_b1 : n0 ≤ b1 := Nat.le_trans Z0 (Nat.le_of_eq g1.symm)
  have sz_b1 : h0.size ≤ b1 := Nat.le_trans (Keep.refl h0 []).1 (Nat.le_of_eq g1.symm)
  have K1 : Keep h0 h1 [] := (Keep.refl h0 []).ext E1
  have V1 : Arv Z h1 b1 k1 .long (19 : Int32) [(.long (0 : Int64)), (.long (0 : Int64)), (.long (0 : Int64)), (.long (0 : Int64)), (.long (0 : Int64)), (.long (0 : Int64)), (.long (0 : Int64)), (.long (0 : Int64)), (.long (0 : Int64)), (.long (0 : Int64)), (.long (0 : Int64)), (.long (0 : Int64)), (.long (0 : Int64)), (.long (0 : Int64)), (.long (0 : Int64)), (.long (0 : Int64)), (.long (0 : Int64)), (.long (0 : Int64)), (.long (0 : Int64))] (.long (0 : Int64)) := (Arv.new A1 (by decide)).pad (pad_rep [] (.long (0 : Int64)) 19)
  refine own_dup (pc' := 5) X1 hx (hb hby d48_4) rfl rfl ?_
  refine own_iconst (pc' := 6) X1 hx (0 : Int32) (hb hby d48_5) rfl rfl ?_
  refine own_lconst1 (pc' := 7) X1 hx (hb hby d48_6) rfl ?_
  refine own_lastore (pc' := 8) X1 hx hZ e1 V1 ⟨by decide, by decide⟩ 0 rfl (Nat.le_of_ble_eq_true rfl) (hb hby d48_7) rfl ?_
  intro T2 h2 X2 e2 W2 V2
  have V2 : Arv Z h2 b1 k1 .long (19 : Int32) [(.long (1 : Int64)), (.long (0 : Int64)), (.long (0 : Int64)), (.long (0 : Int64)), (.long (0 : Int64)), (.long (0 : Int64)), (.long (0 : Int64)), (.long (0 : Int64)), (.long (0 : Int64)), (.long (0 : Int64)), (.long (0 : Int64)), (.long (0 : Int64)), (.long (0 : Int64)), (.long (0 : Int64)), (.long (0 : Int64)), (.long (0 : Int64)), (.long (0 : Int64)), (.long (0 : Int64)), (.long (0 : Int64))] (.long (0 : Int64)) := V2
  have N2 := Fr.snoc X2 N0 g_b1
  have K2 : Keep h0 h2 [] := K1.wr W2 (Or.inr sz_b1)
  refine own_dup (pc' := 9) X2 hx (hb hby d48_8) rfl rfl ?_
  refine own_iconst (pc' := 10) X2 hx (1 : Int32) (hb hby d48_9) rfl rfl ?_
  refine own_ldc2Long (pc' := 13) X2 hx hZ hown (own_w hw 269 rfl) (hb hby d48_10) rfl ?_
  refine own_lastore (pc' := 14) X2 hx hZ e2 V2 ⟨by decide, by decide⟩ 1 rfl (Nat.le_of_ble_eq_true rfl) (hb hby d48_13) rfl ?_
  intro T3 h3 X3 e3 W3 V3
  have V3 : Arv Z h3 b1 k1 .long (19 : Int32) [(.long (1 : Int64)), (.long (10 : Int64)), (.long (0 : Int64)), (.long (0 : Int64)), (.long (0 : Int64)), (.long (0 : Int64)), (.long (0 : Int64)), (.long (0 : Int64)), (.long (0 : Int64)), (.long (0 : Int64)), (.long (0 : Int64)), (.long (0 : Int64)), (.long (0 : Int64)), (.long (0 : Int64)), (.long (0 : Int64)), (.long (0 : Int64)), (.long (0 : Int64)), (.long (0 : Int64)), (.long (0 : Int64))] (.long (0 : Int64)) := V3
  have N3 := Fr.snoc X3 N2 g_b1
  have K3 : Keep h0 h3 [] := K2.wr W3 (Or.inr sz_b1)
  refine own_dup (pc' := 15) X3 hx (hb hby d48_14) rfl rfl ?_
  refine own_iconst (pc' := 16) X3 hx (2 : Int32) (hb hby d48_15) rfl rfl ?_
  refine own_ldc2Long (pc' := 19) X3 hx hZ hown (own_w hw 270 rfl) (hb hby d48_16) rfl ?_
  refine own_lastore (pc' := 20) X3 hx hZ e3 V3 ⟨by decide, by decide⟩ 2 rfl (Nat.le_of_ble_eq_true rfl) (hb hby d48_19) rfl ?_
  intro T4 h4 X4 e4 W4 V4
  have V4 : Arv Z h4 b1 k1 .long (19 : Int32) [(.long (1 : Int64)), (.long (10 : Int64)), (.long (100 : Int64)), (.long (0 : Int64)), (.long (0 : Int64)), (.long (0 : Int64)), (.long (0 : Int64)), (.long (0 : Int64)), (.long (0 : Int64)), (.long (0 : Int64)), (.long (0 : Int64)), (.long (0 : Int64)), (.long (0 : Int64)), (.long (0 : Int64)), (.long (0 : Int64)), (.long (0 : Int64)), (.long (0 : Int64)), (.long (0 : Int64)), (.long (0 : Int64))] (.long (0 : Int64)) := V4
  have N4 := Fr.snoc X4 N3 g_b1
  have K4 : Keep h0 h4 [] := K3.wr W4 (Or.inr sz_b1)
  refine own_dup (pc' := 21) X4 hx (hb hby d48_20) rfl rfl ?_
  refine own_iconst (pc' := 22) X4 hx (3 : Int32) (hb hby d48_21) rfl rfl ?_
  refine own_ldc2Long (pc' := 25) X4 hx hZ hown (own_w hw 271 rfl) (hb hby d48_22) rfl ?_
  refine own_lastore (pc' := 26) X4 hx hZ e4 V4 ⟨by decide, by decide⟩ 3 rfl (Nat.le_of_ble_eq_true rfl) (hb hby d48_25) rfl ?_
  intro T5 h5 X5 e5 W5 V5
  have V5 : Arv Z h5 b1 k1 .long (19 : Int32) [(.long (1 : Int64)), (.long (10 : Int64)), (.long (100 : Int64)), (.long (1000 : Int64)), (.long (0 : Int64)), (.long (0 : Int64)), (.long (0 : Int64)), (.long (0 : Int64)), (.long (0 : Int64)), (.long (0 : Int64)), (.long (0 : Int64)), (.long (0 : Int64)), (.long (0 : Int64)), (.long (0 : Int64)), (.long (0 : Int64)), (.long (0 : Int64)), (.long (0 : Int64)), (.long (0 : Int64)), (.long (0 : Int64))] (.long (0 : Int64)) := V5
  have N5 := Fr.snoc X5 N4 g_b1
  have K5 : Keep h0 h5 [] := K4.wr W5 (Or.inr sz_b1)
  refine own_dup (pc' := 27) X5 hx (hb hby d48_26) rfl rfl ?_
  refine own_iconst (pc' := 28) X5 hx (4 : Int32) (hb hby d48_27) rfl rfl ?_
  refine own_ldc2Long (pc' := 31) X5 hx hZ hown (own_w hw 272 rfl) (hb hby d48_28) rfl ?_
  refine own_lastore (pc' := 32) X5 hx hZ e5 V5 ⟨by decide, by decide⟩ 4 rfl (Nat.le_of_ble_eq_true rfl) (hb hby d48_31) rfl ?_
  intro T6 h6 X6 e6 W6 V6
  have V6 : Arv Z h6 b1 k1 .long (19 : Int32) [(.long (1 : Int64)), (.long (10 : Int64)), (.long (100 : Int64)), (.long (1000 : Int64)), (.long (10000 : Int64)), (.long (0 : Int64)), (.long (0 : Int64)), (.long (0 : Int64)), (.long (0 : Int64)), (.long (0 : Int64)), (.long (0 : Int64)), (.long (0 : Int64)), (.long (0 : Int64)), (.long (0 : Int64)), (.long (0 : Int64)), (.long (0 : Int64)), (.long (0 : Int64)), (.long (0 : Int64)), (.long (0 : Int64))] (.long (0 : Int64)) := V6
  have N6 := Fr.snoc X6 N5 g_b1
  have K6 : Keep h0 h6 [] := K5.wr W6 (Or.inr sz_b1)
  refine own_dup (pc' := 33) X6 hx (hb hby d48_32) rfl rfl ?_
  refine own_iconst (pc' := 34) X6 hx (5 : Int32) (hb hby d48_33) rfl rfl ?_
  refine own_ldc2Long (pc' := 37) X6 hx hZ hown (own_w hw 273 rfl) (hb hby d48_34) rfl ?_
  refine own_lastore (pc' := 38) X6 hx hZ e6 V6 ⟨by decide, by decide⟩ 5 rfl (Nat.le_of_ble_eq_true rfl) (hb hby d48_37) rfl ?_
  intro T7 h7 X7 e7 W7 V7
  have V7 : Arv Z h7 b1 k1 .long (19 : Int32) [(.long (1 : Int64)), (.long (10 : Int64)), (.long (100 : Int64)), (.long (1000 : Int64)), (.long (10000 : Int64)), (.long (100000 : Int64)), (.long (0 : Int64)), (.long (0 : Int64)), (.long (0 : Int64)), (.long (0 : Int64)), (.long (0 : Int64)), (.long (0 : Int64)), (.long (0 : Int64)), (.long (0 : Int64)), (.long (0 : Int64)), (.long (0 : Int64)), (.long (0 : Int64)), (.long (0 : Int64)), (.long (0 : Int64))] (.long (0 : Int64)) := V7
  have N7 := Fr.snoc X7 N6 g_b1
  have K7 : Keep h0 h7 [] := K6.wr W7 (Or.inr sz_b1)
  refine own_dup (pc' := 39) X7 hx (hb hby d48_38) rfl rfl ?_
  refine own_bipush (pc' := 41) X7 hx (6 : Int32) (hb hby d48_39) rfl rfl ?_
  refine own_ldc2Long (pc' := 44) X7 hx hZ hown (own_w hw 274 rfl) (hb hby d48_41) rfl ?_
  refine own_lastore (pc' := 45) X7 hx hZ e7 V7 ⟨by decide, by decide⟩ 6 rfl (Nat.le_of_ble_eq_true rfl) (hb hby d48_44) rfl ?_
  intro T8 h8 X8 e8 W8 V8
  have V8 : Arv Z h8 b1 k1 .long (19 : Int32) [(.long (1 : Int64)), (.long (10 : Int64)), (.long (100 : Int64)), (.long (1000 : Int64)), (.long (10000 : Int64)), (.long (100000 : Int64)), (.long (1000000 : Int64)), (.long (0 : Int64)), (.long (0 : Int64)), (.long (0 : Int64)), (.long (0 : Int64)), (.long (0 : Int64)), (.long (0 : Int64)), (.long (0 : Int64)), (.long (0 : Int64)), (.long (0 : Int64)), (.long (0 : Int64)), (.long (0 : Int64)), (.long (0 : Int64))] (.long (0 : Int64)) := V8
  have N8 := Fr.snoc X8 N7 g_b1
  have K8 : Keep h0 h8 [] := K7.wr W8 (Or.inr sz_b1)
  refine own_dup (pc' := 46) X8 hx (hb hby d48_45) rfl rfl ?_
  refine own_bipush (pc' := 48) X8 hx (7 : Int32) (hb hby d48_46) rfl rfl ?_
  refine own_ldc2Long (pc' := 51) X8 hx hZ hown (own_w hw 275 rfl) (hb hby d48_48) rfl ?_
  refine own_lastore (pc' := 52) X8 hx hZ e8 V8 ⟨by decide, by decide⟩ 7 rfl (Nat.le_of_ble_eq_true rfl) (hb hby d48_51) rfl ?_
  intro T9 h9 X9 e9 W9 V9
  have V9 : Arv Z h9 b1 k1 .long (19 : Int32) [(.long (1 : Int64)), (.long (10 : Int64)), (.long (100 : Int64)), (.long (1000 : Int64)), (.long (10000 : Int64)), (.long (100000 : Int64)), (.long (1000000 : Int64)), (.long (10000000 : Int64)), (.long (0 : Int64)), (.long (0 : Int64)), (.long (0 : Int64)), (.long (0 : Int64)), (.long (0 : Int64)), (.long (0 : Int64)), (.long (0 : Int64)), (.long (0 : Int64)), (.long (0 : Int64)), (.long (0 : Int64)), (.long (0 : Int64))] (.long (0 : Int64)) := V9
  have N9 := Fr.snoc X9 N8 g_b1
  have K9 : Keep h0 h9 [] := K8.wr W9 (Or.inr sz_b1)
  refine own_dup (pc' := 53) X9 hx (hb hby d48_52) rfl rfl ?_
  refine own_bipush (pc' := 55) X9 hx (8 : Int32) (hb hby d48_53) rfl rfl ?_
  refine own_ldc2Long (pc' := 58) X9 hx hZ hown (own_w hw 276 rfl) (hb hby d48_55) rfl ?_
  refine own_lastore (pc' := 59) X9 hx hZ e9 V9 ⟨by decide, by decide⟩ 8 rfl (Nat.le_of_ble_eq_true rfl) (hb hby d48_58) rfl ?_
  intro T10 h10 X10 e10 W10 V10
  have V10 : Arv Z h10 b1 k1 .long (19 : Int32) [(.long (1 : Int64)), (.long (10 : Int64)), (.long (100 : Int64)), (.long (1000 : Int64)), (.long (10000 : Int64)), (.long (100000 : Int64)), (.long (1000000 : Int64)), (.long (10000000 : Int64)), (.long (100000000 : Int64)), (.long (0 : Int64)), (.long (0 : Int64)), (.long (0 : Int64)), (.long (0 : Int64)), (.long (0 : Int64)), (.long (0 : Int64)), (.long (0 : Int64)), (.long (0 : Int64)), (.long (0 : Int64)), (.long (0 : Int64))] (.long (0 : Int64)) := V10
  have N10 := Fr.snoc X10 N9 g_b1
  have K10 : Keep h0 h10 [] := K9.wr W10 (Or.inr sz_b1)
  refine own_dup (pc' := 60) X10 hx (hb hby d48_59) rfl rfl ?_
  refine own_bipush (pc' := 62) X10 hx (9 : Int32) (hb hby d48_60) rfl rfl ?_
  refine own_ldc2Long (pc' := 65) X10 hx hZ hown (own_w hw 277 rfl) (hb hby d48_62) rfl ?_
  refine own_lastore (pc' := 66) X10 hx hZ e10 V10 ⟨by decide, by decide⟩ 9 rfl (Nat.le_of_ble_eq_true rfl) (hb hby d48_65) rfl ?_
  intro T11 h11 X11 e11 W11 V11
  have V11 : Arv Z h11 b1 k1 .long (19 : Int32) [(.long (1 : Int64)), (.long (10 : Int64)), (.long (100 : Int64)), (.long (1000 : Int64)), (.long (10000 : Int64)), (.long (100000 : Int64)), (.long (1000000 : Int64)), (.long (10000000 : Int64)), (.long (100000000 : Int64)), (.long (1000000000 : Int64)), (.long (0 : Int64)), (.long (0 : Int64)), (.long (0 : Int64)), (.long (0 : Int64)), (.long (0 : Int64)), (.long (0 : Int64)), (.long (0 : Int64)), (.long (0 : Int64)), (.long (0 : Int64))] (.long (0 : Int64)) := V11
  have N11 := Fr.snoc X11 N10 g_b1
  have K11 : Keep h0 h11 [] := K10.wr W11 (Or.inr sz_b1)
  refine own_dup (pc' := 67) X11 hx (hb hby d48_66) rfl rfl ?_
  refine own_bipush (pc' := 69) X11 hx (10 : Int32) (hb hby d48_67) rfl rfl ?_
  refine own_ldc2Long (pc' := 72) X11 hx hZ hown (own_w hw 278 rfl) (hb hby d48_69) rfl ?_
  refine own_lastore (pc' := 73) X11 hx hZ e11 V11 ⟨by decide, by decide⟩ 10 rfl (Nat.le_of_ble_eq_true rfl) (hb hby d48_72) rfl ?_
  intro T12 h12 X12 e12 W12 V12
  have V12 : Arv Z h12 b1 k1 .long (19 : Int32) [(.long (1 : Int64)), (.long (10 : Int64)), (.long (100 : Int64)), (.long (1000 : Int64)), (.long (10000 : Int64)), (.long (100000 : Int64)), (.long (1000000 : Int64)), (.long (10000000 : Int64)), (.long (100000000 : Int64)), (.long (1000000000 : Int64)), (.long (10000000000 : Int64)), (.long (0 : Int64)), (.long (0 : Int64)), (.long (0 : Int64)), (.long (0 : Int64)), (.long (0 : Int64)), (.long (0 : Int64)), (.long (0 : Int64)), (.long (0 : Int64))] (.long (0 : Int64)) := V12
  have N12 := Fr.snoc X12 N11 g_b1
  have K12 : Keep h0 h12 [] := K11.wr W12 (Or.inr sz_b1)
  refine own_dup (pc' := 74) X12 hx (hb hby d48_73) rfl rfl ?_
  refine own_bipush (pc' := 76) X12 hx (11 : Int32) (hb hby d48_74) rfl rfl ?_
  refine own_ldc2Long (pc' := 79) X12 hx hZ hown (own_w hw 279 rfl) (hb hby d48_76) rfl ?_
  refine own_lastore (pc' := 80) X12 hx hZ e12 V12 ⟨by decide, by decide⟩ 11 rfl (Nat.le_of_ble_eq_true rfl) (hb hby d48_79) rfl ?_
  intro T13 h13 X13 e13 W13 V13
  have V13 : Arv Z h13 b1 k1 .long (19 : Int32) [(.long (1 : Int64)), (.long (10 : Int64)), (.long (100 : Int64)), (.long (1000 : Int64)), (.long (10000 : Int64)), (.long (100000 : Int64)), (.long (1000000 : Int64)), (.long (10000000 : Int64)), (.long (100000000 : Int64)), (.long (1000000000 : Int64)), (.long (10000000000 : Int64)), (.long (100000000000 : Int64)), (.long (0 : Int64)), (.long (0 : Int64)), (.long (0 : Int64)), (.long (0 : Int64)), (.long (0 : Int64)), (.long (0 : Int64)), (.long (0 : Int64))] (.long (0 : Int64)) := V13
  have N13 := Fr.snoc X13 N12 g_b1
  have K13 : Keep h0 h13 [] := K12.wr W13 (Or.inr sz_b1)
  refine own_dup (pc' := 81) X13 hx (hb hby d48_80) rfl rfl ?_
  refine own_bipush (pc' := 83) X13 hx (12 : Int32) (hb hby d48_81) rfl rfl ?_
  refine own_ldc2Long (pc' := 86) X13 hx hZ hown (own_w hw 280 rfl) (hb hby d48_83) rfl ?_
  refine own_lastore (pc' := 87) X13 hx hZ e13 V13 ⟨by decide, by decide⟩ 12 rfl (Nat.le_of_ble_eq_true rfl) (hb hby d48_86) rfl ?_
  intro T14 h14 X14 e14 W14 V14
  have V14 : Arv Z h14 b1 k1 .long (19 : Int32) [(.long (1 : Int64)), (.long (10 : Int64)), (.long (100 : Int64)), (.long (1000 : Int64)), (.long (10000 : Int64)), (.long (100000 : Int64)), (.long (1000000 : Int64)), (.long (10000000 : Int64)), (.long (100000000 : Int64)), (.long (1000000000 : Int64)), (.long (10000000000 : Int64)), (.long (100000000000 : Int64)), (.long (1000000000000 : Int64)), (.long (0 : Int64)), (.long (0 : Int64)), (.long (0 : Int64)), (.long (0 : Int64)), (.long (0 : Int64)), (.long (0 : Int64))] (.long (0 : Int64)) := V14
  have N14 := Fr.snoc X14 N13 g_b1
  have K14 : Keep h0 h14 [] := K13.wr W14 (Or.inr sz_b1)
  refine own_dup (pc' := 88) X14 hx (hb hby d48_87) rfl rfl ?_
  refine own_bipush (pc' := 90) X14 hx (13 : Int32) (hb hby d48_88) rfl rfl ?_
  refine own_ldc2Long (pc' := 93) X14 hx hZ hown (own_w hw 281 rfl) (hb hby d48_90) rfl ?_
  refine own_lastore (pc' := 94) X14 hx hZ e14 V14 ⟨by decide, by decide⟩ 13 rfl (Nat.le_of_ble_eq_true rfl) (hb hby d48_93) rfl ?_
  intro T15 h15 X15 e15 W15 V15
  have V15 : Arv Z h15 b1 k1 .long (19 : Int32) [(.long (1 : Int64)), (.long (10 : Int64)), (.long (100 : Int64)), (.long (1000 : Int64)), (.long (10000 : Int64)), (.long (100000 : Int64)), (.long (1000000 : Int64)), (.long (10000000 : Int64)), (.long (100000000 : Int64)), (.long (1000000000 : Int64)), (.long (10000000000 : Int64)), (.long (100000000000 : Int64)), (.long (1000000000000 : Int64)), (.long (10000000000000 : Int64)), (.long (0 : Int64)), (.long (0 : Int64)), (.long (0 : Int64)), (.long (0 : Int64)), (.long (0 : Int64))] (.long (0 : Int64)) := V15
  have N15 := Fr.snoc X15 N14 g_b1
  have K15 : Keep h0 h15 [] := K14.wr W15 (Or.inr sz_b1)
  refine own_dup (pc' := 95) X15 hx (hb hby d48_94) rfl rfl ?_
  refine own_bipush (pc' := 97) X15 hx (14 : Int32) (hb hby d48_95) rfl rfl ?_
  refine own_ldc2Long (pc' := 100) X15 hx hZ hown (own_w hw 282 rfl) (hb hby d48_97) rfl ?_
  refine own_lastore (pc' := 101) X15 hx hZ e15 V15 ⟨by decide, by decide⟩ 14 rfl (Nat.le_of_ble_eq_true rfl) (hb hby d48_100) rfl ?_
  intro T16 h16 X16 e16 W16 V16
  have V16 : Arv Z h16 b1 k1 .long (19 : Int32) [(.long (1 : Int64)), (.long (10 : Int64)), (.long (100 : Int64)), (.long (1000 : Int64)), (.long (10000 : Int64)), (.long (100000 : Int64)), (.long (1000000 : Int64)), (.long (10000000 : Int64)), (.long (100000000 : Int64)), (.long (1000000000 : Int64)), (.long (10000000000 : Int64)), (.long (100000000000 : Int64)), (.long (1000000000000 : Int64)), (.long (10000000000000 : Int64)), (.long (100000000000000 : Int64)), (.long (0 : Int64)), (.long (0 : Int64)), (.long (0 : Int64)), (.long (0 : Int64))] (.long (0 : Int64)) := V16
  have N16 := Fr.snoc X16 N15 g_b1
  have K16 : Keep h0 h16 [] := K15.wr W16 (Or.inr sz_b1)
  refine own_dup (pc' := 102) X16 hx (hb hby d48_101) rfl rfl ?_
  refine own_bipush (pc' := 104) X16 hx (15 : Int32) (hb hby d48_102) rfl rfl ?_
  refine own_ldc2Long (pc' := 107) X16 hx hZ hown (own_w hw 283 rfl) (hb hby d48_104) rfl ?_
  refine own_lastore (pc' := 108) X16 hx hZ e16 V16 ⟨by decide, by decide⟩ 15 rfl (Nat.le_of_ble_eq_true rfl) (hb hby d48_107) rfl ?_
  intro T17 h17 X17 e17 W17 V17
  have V17 : Arv Z h17 b1 k1 .long (19 : Int32) [(.long (1 : Int64)), (.long (10 : Int64)), (.long (100 : Int64)), (.long (1000 : Int64)), (.long (10000 : Int64)), (.long (100000 : Int64)), (.long (1000000 : Int64)), (.long (10000000 : Int64)), (.long (100000000 : Int64)), (.long (1000000000 : Int64)), (.long (10000000000 : Int64)), (.long (100000000000 : Int64)), (.long (1000000000000 : Int64)), (.long (10000000000000 : Int64)), (.long (100000000000000 : Int64)), (.long (1000000000000000 : Int64)), (.long (0 : Int64)), (.long (0 : Int64)), (.long (0 : Int64))] (.long (0 : Int64)) := V17
  have N17 := Fr.snoc X17 N16 g_b1
  have K17 : Keep h0 h17 [] := K16.wr W17 (Or.inr sz_b1)
  refine own_dup (pc' := 109) X17 hx (hb hby d48_108) rfl rfl ?_
  refine own_bipush (pc' := 111) X17 hx (16 : Int32) (hb hby d48_109) rfl rfl ?_
  refine own_ldc2Long (pc' := 114) X17 hx hZ hown (own_w hw 284 rfl) (hb hby d48_111) rfl ?_
  refine own_lastore (pc' := 115) X17 hx hZ e17 V17 ⟨by decide, by decide⟩ 16 rfl (Nat.le_of_ble_eq_true rfl) (hb hby d48_114) rfl ?_
  intro T18 h18 X18 e18 W18 V18
  have V18 : Arv Z h18 b1 k1 .long (19 : Int32) [(.long (1 : Int64)), (.long (10 : Int64)), (.long (100 : Int64)), (.long (1000 : Int64)), (.long (10000 : Int64)), (.long (100000 : Int64)), (.long (1000000 : Int64)), (.long (10000000 : Int64)), (.long (100000000 : Int64)), (.long (1000000000 : Int64)), (.long (10000000000 : Int64)), (.long (100000000000 : Int64)), (.long (1000000000000 : Int64)), (.long (10000000000000 : Int64)), (.long (100000000000000 : Int64)), (.long (1000000000000000 : Int64)), (.long (10000000000000000 : Int64)), (.long (0 : Int64)), (.long (0 : Int64))] (.long (0 : Int64)) := V18
  have N18 := Fr.snoc X18 N17 g_b1
  have K18 : Keep h0 h18 [] := K17.wr W18 (Or.inr sz_b1)
  refine own_dup (pc' := 116) X18 hx (hb hby d48_115) rfl rfl ?_
  refine own_bipush (pc' := 118) X18 hx (17 : Int32) (hb hby d48_116) rfl rfl ?_
  refine own_ldc2Long (pc' := 121) X18 hx hZ hown (own_w hw 285 rfl) (hb hby d48_118) rfl ?_
  refine own_lastore (pc' := 122) X18 hx hZ e18 V18 ⟨by decide, by decide⟩ 17 rfl (Nat.le_of_ble_eq_true rfl) (hb hby d48_121) rfl ?_
  intro T19 h19 X19 e19 W19 V19
  have V19 : Arv Z h19 b1 k1 .long (19 : Int32) [(.long (1 : Int64)), (.long (10 : Int64)), (.long (100 : Int64)), (.long (1000 : Int64)), (.long (10000 : Int64)), (.long (100000 : Int64)), (.long (1000000 : Int64)), (.long (10000000 : Int64)), (.long (100000000 : Int64)), (.long (1000000000 : Int64)), (.long (10000000000 : Int64)), (.long (100000000000 : Int64)), (.long (1000000000000 : Int64)), (.long (10000000000000 : Int64)), (.long (100000000000000 : Int64)), (.long (1000000000000000 : Int64)), (.long (10000000000000000 : Int64)), (.long (100000000000000000 : Int64)), (.long (0 : Int64))] (.long (0 : Int64)) := V19
  have N19 := Fr.snoc X19 N18 g_b1
  have K19 : Keep h0 h19 [] := K18.wr W19 (Or.inr sz_b1)
  refine own_dup (pc' := 123) X19 hx (hb hby d48_122) rfl rfl ?_
  refine own_bipush (pc' := 125) X19 hx (18 : Int32) (hb hby d48_123) rfl rfl ?_
  refine own_ldc2Long (pc' := 128) X19 hx hZ hown (own_w hw 286 rfl) (hb hby d48_125) rfl ?_
  refine own_lastore (pc' := 129) X19 hx hZ e19 V19 ⟨by decide, by decide⟩ 18 rfl (Nat.le_of_ble_eq_true rfl) (hb hby d48_128) rfl ?_
  intro T20 h20 X20 e20 W20 V20
  have V20 : Arv Z h20 b1 k1 .long (19 : Int32) [(.long (1 : Int64)), (.long (10 : Int64)), (.long (100 : Int64)), (.long (1000 : Int64)), (.long (10000 : Int64)), (.long (100000 : Int64)), (.long (1000000 : Int64)), (.long (10000000 : Int64)), (.long (100000000 : Int64)), (.long (1000000000 : Int64)), (.long (10000000000 : Int64)), (.long (100000000000 : Int64)), (.long (1000000000000 : Int64)), (.long (10000000000000 : Int64)), (.long (100000000000000 : Int64)), (.long (1000000000000000 : Int64)), (.long (10000000000000000 : Int64)), (.long (100000000000000000 : Int64)), (.long (1000000000000000000 : Int64))] (.long (0 : Int64)) := V20
  have N20 := Fr.snoc X20 N19 g_b1
  have K20 : Keep h0 h20 [] := K19.wr W20 (Or.inr sz_b1)
  refine own_astoreN (pc' := 130) (l' := #[.val (.int kq), .val (.ref b1)]) X20 hx (hb hby d48_129) rfl rfl rfl ?_
  refine own_aloadN (pc' := 131) X20 hx (hb hby d48_130) rfl rfl rfl ?_
  refine own_iloadN (pc' := 132) X20 hx (hb hby d48_131) rfl rfl ?_
  refine own_laload (pc' := 133) (v := (.long (own_pws.getD K 0))) X20 hx hZ e20 V20 ⟨own_nn (by omega), by rw [Int32.lt_iff_toInt_lt]; show _ < (19 : Int); omega⟩ (own_pwV (by omega) hkq) (hb hby d48_132) rfl ?_
  refine own_retJ X20 hx (fun _ _ _ _ q => q) hlk hret (hb hby d48_133) (by decide) (by decide) ?_
  rw [e20]
  exact ⟨_, rfl, N20, K20, own_pwI K (by omega)⟩
theorem d49_0 : decode jdk_29_method_61_code 0 = .ok (.lload_n 0, 1) := by decide +kernel
theorem d49_1 : decode jdk_29_method_61_code 1 = .ok (.lconst 0, 1) := by decide +kernel
theorem d49_2 : decode jdk_29_method_61_code 2 = .ok (.lcmp, 1) := by decide +kernel
theorem d49_3 : decode jdk_29_method_61_code 3 = .ok (.ifCond .ge 8, 3) := by decide +kernel
theorem d49_6 : decode jdk_29_method_61_code 6 = .ok (.lload_n 0, 1) := by decide +kernel
theorem d49_7 : decode jdk_29_method_61_code 7 = .ok (.lneg, 1) := by decide +kernel
theorem d49_8 : decode jdk_29_method_61_code 8 = .ok (.goto 4, 3) := by decide +kernel
theorem d49_11 : decode jdk_29_method_61_code 11 = .ok (.lload_n 0, 1) := by decide +kernel
theorem d49_12 : decode jdk_29_method_61_code 12 = .ok (.lreturn, 1) := by decide +kernel
theorem pn_49 : plainFor (⟨"java/lang/Math", "abs", "(J)J"⟩ : MethodName) = true := Jvm.Free.JP.mathPlain rfl (by decide +kernel)
theorem ef_con_abs (m : MethodId) (c1 : Int64) : entryFrame m #[(.long c1)] 2 = mkF m 0 #[.val (.long c1), .second] [] := by first | (simp [entryFrame, mkF, argsToLocals, Value.category]; done) | rfl
set_option maxRecDepth 65536 in
set_option maxHeartbeats 4000000 in
theorem con_abs (l : Launch) (Z : State) (a0 : Array Value) (hw : ∀ d ∈ tables_1, d.before a0 Z = true) (c1 : Int64) (h0 : Heap) :
    own_Con l Z (⟨"java/lang/Math", "abs", "(J)J"⟩ : MethodName) jdk_29_method_61_code 2 (some .long) ({ frames := 0, cells := 0, slots := 0, locals := 0 } : Room) #[(.long c1)] h0 (fun v h L => ∃ z : Int64, v = some (.long z) ∧ (z = if c1 < 0 then -c1 else c1) ∧ L = [] ∧ h = h0) := by
  refine own_Con_of pn_49 ?_
  intro p e s m below meth c s₁ X0 hx hby hml hret hlk hnm hown hZ e0
  have hown : s.vm.findClass "java/lang/Math" = some m.cls := hown
  have hml : c.maxLocals = 2 := hml
  show own_WP _ _ _ _ _ _ _ (s₁.setTop (entryFrame m #[(.long c1)] 2))
  rw [ef_con_abs m c1]
  refine own_lloadN (pc' := 1) X0 hx (hb hby d49_0) rfl rfl ?_
  refine own_lconst0 (pc' := 2) X0 hx (hb hby d49_1) rfl ?_
  refine own_lcmp (pc' := 3) X0 hx (hb hby d49_2) rfl ?_
  refine own_ifl_ge (pt := 11) (pf := 6) X0 hx (hb hby d49_3) rfl (by decide) rfl (fun hc3 => ?_) (fun hc3 => ?_)
  · skip
    refine own_lloadN (pc' := 12) X0 hx (hb hby d49_11) rfl rfl ?_
    refine own_retJ X0 hx (fun _ _ _ _ q => q) hlk hret (hb hby d49_12) (by decide) (by decide) ?_
    exact ⟨c1, rfl, by simp [hc3], rfl, e0⟩
  · skip
    refine own_lloadN (pc' := 7) X0 hx (hb hby d49_6) rfl rfl ?_
    refine own_lneg (pc' := 8) X0 hx (hb hby d49_7) rfl ?_
    refine own_goto (pc' := 12) X0 hx (hb hby d49_8) (by decide) rfl ?_
    refine own_retJ X0 hx (fun _ _ _ _ q => q) hlk hret (hb hby d49_12) (by decide) (by decide) ?_
    exact ⟨(-c1), rfl, by simp [hc3], rfl, e0⟩
theorem d36_0 : decode method_3_code 0 = .ok (.lload_n 0, 1) := by decide +kernel
theorem d36_1 : decode method_3_code 1 = .ok (.lconst 0, 1) := by decide +kernel
theorem d36_2 : decode method_3_code 2 = .ok (.lcmp, 1) := by decide +kernel
theorem d36_3 : decode method_3_code 3 = .ok (.ifCond .le 8, 3) := by decide +kernel
theorem d36_6 : decode method_3_code 6 = .ok (.lload_n 0, 1) := by decide +kernel
theorem d36_7 : decode method_3_code 7 = .ok (.lneg, 1) := by decide +kernel
theorem d36_8 : decode method_3_code 8 = .ok (.goto 4, 3) := by decide +kernel
theorem d36_11 : decode method_3_code 11 = .ok (.lload_n 0, 1) := by decide +kernel
theorem d36_12 : decode method_3_code 12 = .ok (.lstore_n 2, 1) := by decide +kernel
theorem d36_13 : decode method_3_code 13 = .ok (.iconst 1, 1) := by decide +kernel
theorem d36_14 : decode method_3_code 14 = .ok (.lload_n 2, 1) := by decide +kernel
theorem d36_15 : decode method_3_code 15 = .ok (.ldc2_w 51, 3) := by decide +kernel
theorem d36_18 : decode method_3_code 18 = .ok (.lcmp, 1) := by decide +kernel
theorem d36_19 : decode method_3_code 19 = .ok (.ifCond .gt 7, 3) := by decide +kernel
theorem d36_22 : decode method_3_code 22 = .ok (.iconst 1, 1) := by decide +kernel
theorem d36_23 : decode method_3_code 23 = .ok (.goto 4, 3) := by decide +kernel
theorem d36_26 : decode method_3_code 26 = .ok (.iconst 0, 1) := by decide +kernel
theorem d36_27 : decode method_3_code 27 = .ok (.iadd, 1) := by decide +kernel
theorem d36_28 : decode method_3_code 28 = .ok (.lload_n 2, 1) := by decide +kernel
theorem d36_29 : decode method_3_code 29 = .ok (.ldc2_w 53, 3) := by decide +kernel
theorem d36_32 : decode method_3_code 32 = .ok (.lcmp, 1) := by decide +kernel
theorem d36_33 : decode method_3_code 33 = .ok (.ifCond .gt 7, 3) := by decide +kernel
theorem d36_36 : decode method_3_code 36 = .ok (.iconst 1, 1) := by decide +kernel
theorem d36_37 : decode method_3_code 37 = .ok (.goto 4, 3) := by decide +kernel
theorem d36_40 : decode method_3_code 40 = .ok (.iconst 0, 1) := by decide +kernel
theorem d36_41 : decode method_3_code 41 = .ok (.iadd, 1) := by decide +kernel
theorem d36_42 : decode method_3_code 42 = .ok (.lload_n 2, 1) := by decide +kernel
theorem d36_43 : decode method_3_code 43 = .ok (.ldc2_w 55, 3) := by decide +kernel
theorem d36_46 : decode method_3_code 46 = .ok (.lcmp, 1) := by decide +kernel
theorem d36_47 : decode method_3_code 47 = .ok (.ifCond .gt 7, 3) := by decide +kernel
theorem d36_50 : decode method_3_code 50 = .ok (.iconst 1, 1) := by decide +kernel
theorem d36_51 : decode method_3_code 51 = .ok (.goto 4, 3) := by decide +kernel
theorem d36_54 : decode method_3_code 54 = .ok (.iconst 0, 1) := by decide +kernel
theorem d36_55 : decode method_3_code 55 = .ok (.iadd, 1) := by decide +kernel
theorem d36_56 : decode method_3_code 56 = .ok (.lload_n 2, 1) := by decide +kernel
theorem d36_57 : decode method_3_code 57 = .ok (.ldc2_w 57, 3) := by decide +kernel
theorem d36_60 : decode method_3_code 60 = .ok (.lcmp, 1) := by decide +kernel
theorem d36_61 : decode method_3_code 61 = .ok (.ifCond .gt 7, 3) := by decide +kernel
theorem d36_64 : decode method_3_code 64 = .ok (.iconst 1, 1) := by decide +kernel
theorem d36_65 : decode method_3_code 65 = .ok (.goto 4, 3) := by decide +kernel
theorem d36_68 : decode method_3_code 68 = .ok (.iconst 0, 1) := by decide +kernel
theorem d36_69 : decode method_3_code 69 = .ok (.iadd, 1) := by decide +kernel
theorem d36_70 : decode method_3_code 70 = .ok (.lload_n 2, 1) := by decide +kernel
theorem d36_71 : decode method_3_code 71 = .ok (.ldc2_w 59, 3) := by decide +kernel
theorem d36_74 : decode method_3_code 74 = .ok (.lcmp, 1) := by decide +kernel
theorem d36_75 : decode method_3_code 75 = .ok (.ifCond .gt 7, 3) := by decide +kernel
theorem d36_78 : decode method_3_code 78 = .ok (.iconst 1, 1) := by decide +kernel
theorem d36_79 : decode method_3_code 79 = .ok (.goto 4, 3) := by decide +kernel
theorem d36_82 : decode method_3_code 82 = .ok (.iconst 0, 1) := by decide +kernel
theorem d36_83 : decode method_3_code 83 = .ok (.iadd, 1) := by decide +kernel
theorem d36_84 : decode method_3_code 84 = .ok (.lload_n 2, 1) := by decide +kernel
theorem d36_85 : decode method_3_code 85 = .ok (.ldc2_w 61, 3) := by decide +kernel
theorem d36_88 : decode method_3_code 88 = .ok (.lcmp, 1) := by decide +kernel
theorem d36_89 : decode method_3_code 89 = .ok (.ifCond .gt 7, 3) := by decide +kernel
theorem d36_92 : decode method_3_code 92 = .ok (.iconst 1, 1) := by decide +kernel
theorem d36_93 : decode method_3_code 93 = .ok (.goto 4, 3) := by decide +kernel
theorem d36_96 : decode method_3_code 96 = .ok (.iconst 0, 1) := by decide +kernel
theorem d36_97 : decode method_3_code 97 = .ok (.iadd, 1) := by decide +kernel
theorem d36_98 : decode method_3_code 98 = .ok (.lload_n 2, 1) := by decide +kernel
theorem d36_99 : decode method_3_code 99 = .ok (.ldc2_w 63, 3) := by decide +kernel
theorem d36_102 : decode method_3_code 102 = .ok (.lcmp, 1) := by decide +kernel
theorem d36_103 : decode method_3_code 103 = .ok (.ifCond .gt 7, 3) := by decide +kernel
theorem d36_106 : decode method_3_code 106 = .ok (.iconst 1, 1) := by decide +kernel
theorem d36_107 : decode method_3_code 107 = .ok (.goto 4, 3) := by decide +kernel
theorem d36_110 : decode method_3_code 110 = .ok (.iconst 0, 1) := by decide +kernel
theorem d36_111 : decode method_3_code 111 = .ok (.iadd, 1) := by decide +kernel
theorem d36_112 : decode method_3_code 112 = .ok (.lload_n 2, 1) := by decide +kernel
theorem d36_113 : decode method_3_code 113 = .ok (.ldc2_w 65, 3) := by decide +kernel
theorem d36_116 : decode method_3_code 116 = .ok (.lcmp, 1) := by decide +kernel
theorem d36_117 : decode method_3_code 117 = .ok (.ifCond .gt 7, 3) := by decide +kernel
theorem d36_120 : decode method_3_code 120 = .ok (.iconst 1, 1) := by decide +kernel
theorem d36_121 : decode method_3_code 121 = .ok (.goto 4, 3) := by decide +kernel
theorem d36_124 : decode method_3_code 124 = .ok (.iconst 0, 1) := by decide +kernel
theorem d36_125 : decode method_3_code 125 = .ok (.iadd, 1) := by decide +kernel
theorem d36_126 : decode method_3_code 126 = .ok (.lload_n 2, 1) := by decide +kernel
theorem d36_127 : decode method_3_code 127 = .ok (.ldc2_w 67, 3) := by decide +kernel
theorem d36_130 : decode method_3_code 130 = .ok (.lcmp, 1) := by decide +kernel
theorem d36_131 : decode method_3_code 131 = .ok (.ifCond .gt 7, 3) := by decide +kernel
theorem d36_134 : decode method_3_code 134 = .ok (.iconst 1, 1) := by decide +kernel
theorem d36_135 : decode method_3_code 135 = .ok (.goto 4, 3) := by decide +kernel
theorem d36_138 : decode method_3_code 138 = .ok (.iconst 0, 1) := by decide +kernel
theorem d36_139 : decode method_3_code 139 = .ok (.iadd, 1) := by decide +kernel
theorem d36_140 : decode method_3_code 140 = .ok (.lload_n 2, 1) := by decide +kernel
theorem d36_141 : decode method_3_code 141 = .ok (.ldc2_w 69, 3) := by decide +kernel
theorem d36_144 : decode method_3_code 144 = .ok (.lcmp, 1) := by decide +kernel
theorem d36_145 : decode method_3_code 145 = .ok (.ifCond .gt 7, 3) := by decide +kernel
theorem d36_148 : decode method_3_code 148 = .ok (.iconst 1, 1) := by decide +kernel
theorem d36_149 : decode method_3_code 149 = .ok (.goto 4, 3) := by decide +kernel
theorem d36_152 : decode method_3_code 152 = .ok (.iconst 0, 1) := by decide +kernel
theorem d36_153 : decode method_3_code 153 = .ok (.iadd, 1) := by decide +kernel
theorem d36_154 : decode method_3_code 154 = .ok (.lload_n 2, 1) := by decide +kernel
theorem d36_155 : decode method_3_code 155 = .ok (.ldc2_w 71, 3) := by decide +kernel
theorem d36_158 : decode method_3_code 158 = .ok (.lcmp, 1) := by decide +kernel
theorem d36_159 : decode method_3_code 159 = .ok (.ifCond .gt 7, 3) := by decide +kernel
theorem d36_162 : decode method_3_code 162 = .ok (.iconst 1, 1) := by decide +kernel
theorem d36_163 : decode method_3_code 163 = .ok (.goto 4, 3) := by decide +kernel
theorem d36_166 : decode method_3_code 166 = .ok (.iconst 0, 1) := by decide +kernel
theorem d36_167 : decode method_3_code 167 = .ok (.iadd, 1) := by decide +kernel
theorem d36_168 : decode method_3_code 168 = .ok (.lload_n 2, 1) := by decide +kernel
theorem d36_169 : decode method_3_code 169 = .ok (.ldc2_w 73, 3) := by decide +kernel
theorem d36_172 : decode method_3_code 172 = .ok (.lcmp, 1) := by decide +kernel
theorem d36_173 : decode method_3_code 173 = .ok (.ifCond .gt 7, 3) := by decide +kernel
theorem d36_176 : decode method_3_code 176 = .ok (.iconst 1, 1) := by decide +kernel
theorem d36_177 : decode method_3_code 177 = .ok (.goto 4, 3) := by decide +kernel
theorem d36_180 : decode method_3_code 180 = .ok (.iconst 0, 1) := by decide +kernel
theorem d36_181 : decode method_3_code 181 = .ok (.iadd, 1) := by decide +kernel
theorem d36_182 : decode method_3_code 182 = .ok (.lload_n 2, 1) := by decide +kernel
theorem d36_183 : decode method_3_code 183 = .ok (.ldc2_w 75, 3) := by decide +kernel
theorem d36_186 : decode method_3_code 186 = .ok (.lcmp, 1) := by decide +kernel
theorem d36_187 : decode method_3_code 187 = .ok (.ifCond .gt 7, 3) := by decide +kernel
theorem d36_190 : decode method_3_code 190 = .ok (.iconst 1, 1) := by decide +kernel
theorem d36_191 : decode method_3_code 191 = .ok (.goto 4, 3) := by decide +kernel
theorem d36_194 : decode method_3_code 194 = .ok (.iconst 0, 1) := by decide +kernel
theorem d36_195 : decode method_3_code 195 = .ok (.iadd, 1) := by decide +kernel
theorem d36_196 : decode method_3_code 196 = .ok (.lload_n 2, 1) := by decide +kernel
theorem d36_197 : decode method_3_code 197 = .ok (.ldc2_w 77, 3) := by decide +kernel
theorem d36_200 : decode method_3_code 200 = .ok (.lcmp, 1) := by decide +kernel
theorem d36_201 : decode method_3_code 201 = .ok (.ifCond .gt 7, 3) := by decide +kernel
theorem d36_204 : decode method_3_code 204 = .ok (.iconst 1, 1) := by decide +kernel
theorem d36_205 : decode method_3_code 205 = .ok (.goto 4, 3) := by decide +kernel
theorem d36_208 : decode method_3_code 208 = .ok (.iconst 0, 1) := by decide +kernel
theorem d36_209 : decode method_3_code 209 = .ok (.iadd, 1) := by decide +kernel
theorem d36_210 : decode method_3_code 210 = .ok (.lload_n 2, 1) := by decide +kernel
theorem d36_211 : decode method_3_code 211 = .ok (.ldc2_w 79, 3) := by decide +kernel
theorem d36_214 : decode method_3_code 214 = .ok (.lcmp, 1) := by decide +kernel
theorem d36_215 : decode method_3_code 215 = .ok (.ifCond .gt 7, 3) := by decide +kernel
theorem d36_218 : decode method_3_code 218 = .ok (.iconst 1, 1) := by decide +kernel
theorem d36_219 : decode method_3_code 219 = .ok (.goto 4, 3) := by decide +kernel
theorem d36_222 : decode method_3_code 222 = .ok (.iconst 0, 1) := by decide +kernel
theorem d36_223 : decode method_3_code 223 = .ok (.iadd, 1) := by decide +kernel
theorem d36_224 : decode method_3_code 224 = .ok (.lload_n 2, 1) := by decide +kernel
theorem d36_225 : decode method_3_code 225 = .ok (.ldc2_w 81, 3) := by decide +kernel
theorem d36_228 : decode method_3_code 228 = .ok (.lcmp, 1) := by decide +kernel
theorem d36_229 : decode method_3_code 229 = .ok (.ifCond .gt 7, 3) := by decide +kernel
theorem d36_232 : decode method_3_code 232 = .ok (.iconst 1, 1) := by decide +kernel
theorem d36_233 : decode method_3_code 233 = .ok (.goto 4, 3) := by decide +kernel
theorem d36_236 : decode method_3_code 236 = .ok (.iconst 0, 1) := by decide +kernel
theorem d36_237 : decode method_3_code 237 = .ok (.iadd, 1) := by decide +kernel
theorem d36_238 : decode method_3_code 238 = .ok (.lload_n 2, 1) := by decide +kernel
theorem d36_239 : decode method_3_code 239 = .ok (.ldc2_w 83, 3) := by decide +kernel
theorem d36_242 : decode method_3_code 242 = .ok (.lcmp, 1) := by decide +kernel
theorem d36_243 : decode method_3_code 243 = .ok (.ifCond .gt 7, 3) := by decide +kernel
theorem d36_246 : decode method_3_code 246 = .ok (.iconst 1, 1) := by decide +kernel
theorem d36_247 : decode method_3_code 247 = .ok (.goto 4, 3) := by decide +kernel
theorem d36_250 : decode method_3_code 250 = .ok (.iconst 0, 1) := by decide +kernel
theorem d36_251 : decode method_3_code 251 = .ok (.iadd, 1) := by decide +kernel
theorem d36_252 : decode method_3_code 252 = .ok (.lload_n 2, 1) := by decide +kernel
theorem d36_253 : decode method_3_code 253 = .ok (.ldc2_w 85, 3) := by decide +kernel
theorem d36_256 : decode method_3_code 256 = .ok (.lcmp, 1) := by decide +kernel
theorem d36_257 : decode method_3_code 257 = .ok (.ifCond .gt 7, 3) := by decide +kernel
theorem d36_260 : decode method_3_code 260 = .ok (.iconst 1, 1) := by decide +kernel
theorem d36_261 : decode method_3_code 261 = .ok (.goto 4, 3) := by decide +kernel
theorem d36_264 : decode method_3_code 264 = .ok (.iconst 0, 1) := by decide +kernel
theorem d36_265 : decode method_3_code 265 = .ok (.iadd, 1) := by decide +kernel
theorem d36_266 : decode method_3_code 266 = .ok (.ireturn, 1) := by decide +kernel
theorem pn_36 : plainFor (⟨"com/example/ossify/ossify/TornTailDescribePinLaw", "digitCount", "(J)I"⟩ : MethodName) = true := plainFor_of_name (by first | (simp [plainName, overriddenIn]; done) | decide +kernel)
theorem ef_con_dc (m : MethodId) (c1 : Int64) : entryFrame m #[(.long c1)] 4 = mkF m 0 #[.val (.long c1), .second, .unset, .unset] [] := by first | (simp [entryFrame, mkF, argsToLocals, Value.category]; done) | rfl
set_option maxRecDepth 65536 in
set_option maxHeartbeats 4000000 in
theorem con_dc (l : Launch) (Z : State) (a0 : Array Value) (hw : ∀ d ∈ tables_1, d.before a0 Z = true) (c1 : Int64) (h0 : Heap) (kk : Nat) (hkk : own_dgs c1.toInt.natAbs kk) :
    own_Con l Z (⟨"com/example/ossify/ossify/TornTailDescribePinLaw", "digitCount", "(J)I"⟩ : MethodName) method_3_code 4 (some .int) ({ frames := 0, cells := 0, slots := 0, locals := 0 } : Room) #[(.long c1)] h0 (fun v h L => ∃ z : Int32, v = some (.int z) ∧ (z.toInt = (kk : Int)) ∧ L = [] ∧ h = h0) := by
  refine own_Con_of pn_36 ?_
  intro p e s m below meth c s₁ X0 hx hby hml hret hlk hnm hown hZ e0
  have hown : s.vm.findClass "com/example/ossify/ossify/TornTailDescribePinLaw" = some m.cls := hown
  have hml : c.maxLocals = 4 := hml
  show own_WP _ _ _ _ _ _ _ (s₁.setTop (entryFrame m #[(.long c1)] 4))
  rw [ef_con_dc m c1]
  refine own_join (fun mm : Int64 => (mm).toInt = -(c1.toInt.natAbs : Int)) (fun mm => s₁.setTop (mkF m 12 #[.val (.long c1), .second, .unset, .unset] [(.long mm)])) (fun J12 => ?_) (fun mm hmm => ?_)
  · skip
    refine own_lloadN (pc' := 1) X0 hx (hb hby d36_0) rfl rfl ?_
    refine own_lconst0 (pc' := 2) X0 hx (hb hby d36_1) rfl ?_
    refine own_lcmp (pc' := 3) X0 hx (hb hby d36_2) rfl ?_
    refine own_ifl_le (pt := 11) (pf := 6) X0 hx (hb hby d36_3) rfl (by decide) rfl (fun hc3 => ?_) (fun hc3 => ?_)
    · skip
      refine own_lloadN (pc' := 12) X0 hx (hb hby d36_11) rfl rfl ?_
      exact J12 c1 (by have q := hc3; rw [Int64.lt_iff_toInt_lt] at q; have q : ¬ (0 : Int) < c1.toInt := q; omega)
    · skip
      refine own_lloadN (pc' := 7) X0 hx (hb hby d36_6) rfl rfl ?_
      refine own_lneg (pc' := 8) X0 hx (hb hby d36_7) rfl ?_
      refine own_goto (pc' := 12) X0 hx (hb hby d36_8) (by decide) rfl ?_
      exact J12 (-c1) (by have q := hc3; rw [Int64.lt_iff_toInt_lt] at q; have q : (0 : Int) < c1.toInt := q; have e := c_lneg c1; have r := rng64 c1; have r2 := rng64 (-c1); omega)
  · skip
    show own_WP _ _ _ _ _ _ _ (s₁.setTop (mkF m 12 #[.val (.long c1), .second, .unset, .unset] [(.long mm)]))
    refine own_lstoreN (pc' := 13) (l' := #[.val (.long c1), .second, .val (.long mm), .second]) X0 hx (hb hby d36_12) rfl rfl rfl ?_
    refine own_iconst (pc' := 14) X0 hx (1 : Int32) (hb hby d36_13) rfl rfl ?_
    refine own_join (fun cd1 : Int32 => own_cd c1.toInt.natAbs 1 cd1) (fun cd1 => s₁.setTop (mkF m 28 #[.val (.long c1), .second, .val (.long mm), .second] [(.int cd1)])) (fun J28 => ?_) (fun cd1 hcd1 => ?_)
    · skip
      refine own_lloadN (pc' := 15) X0 hx (hb hby d36_14) rfl rfl ?_
      refine own_ldc2Long (pc' := 18) X0 hx hZ hown (own_w hw 200 rfl) (hb hby d36_15) rfl ?_
      refine own_lcmp (pc' := 19) X0 hx (hb hby d36_18) rfl ?_
      refine own_ifl_gt (pt := 26) (pf := 22) X0 hx (hb hby d36_19) rfl (by decide) rfl (fun hc19 => ?_) (fun hc19 => ?_)
      · skip
        refine own_iconst (pc' := 27) X0 hx (0 : Int32) (hb hby d36_26) rfl rfl ?_
        refine own_iadd (pc' := 28) X0 hx (hb hby d36_27) rfl ?_
        exact J28 ((1 : Int32) + (0 : Int32)) (own_cd_add0 (own_cd0 _) (by have q := hc19; rw [Int64.lt_iff_toInt_lt] at q; have q : (-10 : Int) < mm.toInt := q; show _ < 10; omega))
      · skip
        refine own_iconst (pc' := 23) X0 hx (1 : Int32) (hb hby d36_22) rfl rfl ?_
        refine own_goto (pc' := 27) X0 hx (hb hby d36_23) (by decide) rfl ?_
        refine own_iadd (pc' := 28) X0 hx (hb hby d36_27) rfl ?_
        exact J28 ((1 : Int32) + (1 : Int32)) (own_cd_add (own_cd0 _) (by have q := hc19; rw [Int64.lt_iff_toInt_lt] at q; have q : ¬ (-10 : Int) < mm.toInt := q; show 10 ≤ _; omega) (by decide))
    · skip
      show own_WP _ _ _ _ _ _ _ (s₁.setTop (mkF m 28 #[.val (.long c1), .second, .val (.long mm), .second] [(.int cd1)]))
      refine own_join (fun cd2 : Int32 => own_cd c1.toInt.natAbs 2 cd2) (fun cd2 => s₁.setTop (mkF m 42 #[.val (.long c1), .second, .val (.long mm), .second] [(.int cd2)])) (fun J42 => ?_) (fun cd2 hcd2 => ?_)
      · skip
        refine own_lloadN (pc' := 29) X0 hx (hb hby d36_28) rfl rfl ?_
        refine own_ldc2Long (pc' := 32) X0 hx hZ hown (own_w hw 201 rfl) (hb hby d36_29) rfl ?_
        refine own_lcmp (pc' := 33) X0 hx (hb hby d36_32) rfl ?_
        refine own_ifl_gt (pt := 40) (pf := 36) X0 hx (hb hby d36_33) rfl (by decide) rfl (fun hc33 => ?_) (fun hc33 => ?_)
        · skip
          refine own_iconst (pc' := 41) X0 hx (0 : Int32) (hb hby d36_40) rfl rfl ?_
          refine own_iadd (pc' := 42) X0 hx (hb hby d36_41) rfl ?_
          exact J42 (cd1 + (0 : Int32)) (own_cd_add0 hcd1 (by have q := hc33; rw [Int64.lt_iff_toInt_lt] at q; have q : (-100 : Int) < mm.toInt := q; show _ < 100; omega))
        · skip
          refine own_iconst (pc' := 37) X0 hx (1 : Int32) (hb hby d36_36) rfl rfl ?_
          refine own_goto (pc' := 41) X0 hx (hb hby d36_37) (by decide) rfl ?_
          refine own_iadd (pc' := 42) X0 hx (hb hby d36_41) rfl ?_
          exact J42 (cd1 + (1 : Int32)) (own_cd_add hcd1 (by have q := hc33; rw [Int64.lt_iff_toInt_lt] at q; have q : ¬ (-100 : Int) < mm.toInt := q; show 100 ≤ _; omega) (by decide))
      · skip
        show own_WP _ _ _ _ _ _ _ (s₁.setTop (mkF m 42 #[.val (.long c1), .second, .val (.long mm), .second] [(.int cd2)]))
        refine own_join (fun cd3 : Int32 => own_cd c1.toInt.natAbs 3 cd3) (fun cd3 => s₁.setTop (mkF m 56 #[.val (.long c1), .second, .val (.long mm), .second] [(.int cd3)])) (fun J56 => ?_) (fun cd3 hcd3 => ?_)
        · skip
          refine own_lloadN (pc' := 43) X0 hx (hb hby d36_42) rfl rfl ?_
          refine own_ldc2Long (pc' := 46) X0 hx hZ hown (own_w hw 202 rfl) (hb hby d36_43) rfl ?_
          refine own_lcmp (pc' := 47) X0 hx (hb hby d36_46) rfl ?_
          refine own_ifl_gt (pt := 54) (pf := 50) X0 hx (hb hby d36_47) rfl (by decide) rfl (fun hc47 => ?_) (fun hc47 => ?_)
          · skip
            refine own_iconst (pc' := 55) X0 hx (0 : Int32) (hb hby d36_54) rfl rfl ?_
            refine own_iadd (pc' := 56) X0 hx (hb hby d36_55) rfl ?_
            exact J56 (cd2 + (0 : Int32)) (own_cd_add0 hcd2 (by have q := hc47; rw [Int64.lt_iff_toInt_lt] at q; have q : (-1000 : Int) < mm.toInt := q; show _ < 1000; omega))
          · skip
            refine own_iconst (pc' := 51) X0 hx (1 : Int32) (hb hby d36_50) rfl rfl ?_
            refine own_goto (pc' := 55) X0 hx (hb hby d36_51) (by decide) rfl ?_
            refine own_iadd (pc' := 56) X0 hx (hb hby d36_55) rfl ?_
            exact J56 (cd2 + (1 : Int32)) (own_cd_add hcd2 (by have q := hc47; rw [Int64.lt_iff_toInt_lt] at q; have q : ¬ (-1000 : Int) < mm.toInt := q; show 1000 ≤ _; omega) (by decide))
        · skip
          show own_WP _ _ _ _ _ _ _ (s₁.setTop (mkF m 56 #[.val (.long c1), .second, .val (.long mm), .second] [(.int cd3)]))
          refine own_join (fun cd4 : Int32 => own_cd c1.toInt.natAbs 4 cd4) (fun cd4 => s₁.setTop (mkF m 70 #[.val (.long c1), .second, .val (.long mm), .second] [(.int cd4)])) (fun J70 => ?_) (fun cd4 hcd4 => ?_)
          · skip
            refine own_lloadN (pc' := 57) X0 hx (hb hby d36_56) rfl rfl ?_
            refine own_ldc2Long (pc' := 60) X0 hx hZ hown (own_w hw 203 rfl) (hb hby d36_57) rfl ?_
            refine own_lcmp (pc' := 61) X0 hx (hb hby d36_60) rfl ?_
            refine own_ifl_gt (pt := 68) (pf := 64) X0 hx (hb hby d36_61) rfl (by decide) rfl (fun hc61 => ?_) (fun hc61 => ?_)
            · skip
              refine own_iconst (pc' := 69) X0 hx (0 : Int32) (hb hby d36_68) rfl rfl ?_
              refine own_iadd (pc' := 70) X0 hx (hb hby d36_69) rfl ?_
              exact J70 (cd3 + (0 : Int32)) (own_cd_add0 hcd3 (by have q := hc61; rw [Int64.lt_iff_toInt_lt] at q; have q : (-10000 : Int) < mm.toInt := q; show _ < 10000; omega))
            · skip
              refine own_iconst (pc' := 65) X0 hx (1 : Int32) (hb hby d36_64) rfl rfl ?_
              refine own_goto (pc' := 69) X0 hx (hb hby d36_65) (by decide) rfl ?_
              refine own_iadd (pc' := 70) X0 hx (hb hby d36_69) rfl ?_
              exact J70 (cd3 + (1 : Int32)) (own_cd_add hcd3 (by have q := hc61; rw [Int64.lt_iff_toInt_lt] at q; have q : ¬ (-10000 : Int) < mm.toInt := q; show 10000 ≤ _; omega) (by decide))
          · skip
            show own_WP _ _ _ _ _ _ _ (s₁.setTop (mkF m 70 #[.val (.long c1), .second, .val (.long mm), .second] [(.int cd4)]))
            refine own_join (fun cd5 : Int32 => own_cd c1.toInt.natAbs 5 cd5) (fun cd5 => s₁.setTop (mkF m 84 #[.val (.long c1), .second, .val (.long mm), .second] [(.int cd5)])) (fun J84 => ?_) (fun cd5 hcd5 => ?_)
            · skip
              refine own_lloadN (pc' := 71) X0 hx (hb hby d36_70) rfl rfl ?_
              refine own_ldc2Long (pc' := 74) X0 hx hZ hown (own_w hw 204 rfl) (hb hby d36_71) rfl ?_
              refine own_lcmp (pc' := 75) X0 hx (hb hby d36_74) rfl ?_
              refine own_ifl_gt (pt := 82) (pf := 78) X0 hx (hb hby d36_75) rfl (by decide) rfl (fun hc75 => ?_) (fun hc75 => ?_)
              · skip
                refine own_iconst (pc' := 83) X0 hx (0 : Int32) (hb hby d36_82) rfl rfl ?_
                refine own_iadd (pc' := 84) X0 hx (hb hby d36_83) rfl ?_
                exact J84 (cd4 + (0 : Int32)) (own_cd_add0 hcd4 (by have q := hc75; rw [Int64.lt_iff_toInt_lt] at q; have q : (-100000 : Int) < mm.toInt := q; show _ < 100000; omega))
              · skip
                refine own_iconst (pc' := 79) X0 hx (1 : Int32) (hb hby d36_78) rfl rfl ?_
                refine own_goto (pc' := 83) X0 hx (hb hby d36_79) (by decide) rfl ?_
                refine own_iadd (pc' := 84) X0 hx (hb hby d36_83) rfl ?_
                exact J84 (cd4 + (1 : Int32)) (own_cd_add hcd4 (by have q := hc75; rw [Int64.lt_iff_toInt_lt] at q; have q : ¬ (-100000 : Int) < mm.toInt := q; show 100000 ≤ _; omega) (by decide))
            · skip
              show own_WP _ _ _ _ _ _ _ (s₁.setTop (mkF m 84 #[.val (.long c1), .second, .val (.long mm), .second] [(.int cd5)]))
              refine own_join (fun cd6 : Int32 => own_cd c1.toInt.natAbs 6 cd6) (fun cd6 => s₁.setTop (mkF m 98 #[.val (.long c1), .second, .val (.long mm), .second] [(.int cd6)])) (fun J98 => ?_) (fun cd6 hcd6 => ?_)
              · skip
                refine own_lloadN (pc' := 85) X0 hx (hb hby d36_84) rfl rfl ?_
                refine own_ldc2Long (pc' := 88) X0 hx hZ hown (own_w hw 205 rfl) (hb hby d36_85) rfl ?_
                refine own_lcmp (pc' := 89) X0 hx (hb hby d36_88) rfl ?_
                refine own_ifl_gt (pt := 96) (pf := 92) X0 hx (hb hby d36_89) rfl (by decide) rfl (fun hc89 => ?_) (fun hc89 => ?_)
                · skip
                  refine own_iconst (pc' := 97) X0 hx (0 : Int32) (hb hby d36_96) rfl rfl ?_
                  refine own_iadd (pc' := 98) X0 hx (hb hby d36_97) rfl ?_
                  exact J98 (cd5 + (0 : Int32)) (own_cd_add0 hcd5 (by have q := hc89; rw [Int64.lt_iff_toInt_lt] at q; have q : (-1000000 : Int) < mm.toInt := q; show _ < 1000000; omega))
                · skip
                  refine own_iconst (pc' := 93) X0 hx (1 : Int32) (hb hby d36_92) rfl rfl ?_
                  refine own_goto (pc' := 97) X0 hx (hb hby d36_93) (by decide) rfl ?_
                  refine own_iadd (pc' := 98) X0 hx (hb hby d36_97) rfl ?_
                  exact J98 (cd5 + (1 : Int32)) (own_cd_add hcd5 (by have q := hc89; rw [Int64.lt_iff_toInt_lt] at q; have q : ¬ (-1000000 : Int) < mm.toInt := q; show 1000000 ≤ _; omega) (by decide))
              · skip
                show own_WP _ _ _ _ _ _ _ (s₁.setTop (mkF m 98 #[.val (.long c1), .second, .val (.long mm), .second] [(.int cd6)]))
                refine own_join (fun cd7 : Int32 => own_cd c1.toInt.natAbs 7 cd7) (fun cd7 => s₁.setTop (mkF m 112 #[.val (.long c1), .second, .val (.long mm), .second] [(.int cd7)])) (fun J112 => ?_) (fun cd7 hcd7 => ?_)
                · skip
                  refine own_lloadN (pc' := 99) X0 hx (hb hby d36_98) rfl rfl ?_
                  refine own_ldc2Long (pc' := 102) X0 hx hZ hown (own_w hw 206 rfl) (hb hby d36_99) rfl ?_
                  refine own_lcmp (pc' := 103) X0 hx (hb hby d36_102) rfl ?_
                  refine own_ifl_gt (pt := 110) (pf := 106) X0 hx (hb hby d36_103) rfl (by decide) rfl (fun hc103 => ?_) (fun hc103 => ?_)
                  · skip
                    refine own_iconst (pc' := 111) X0 hx (0 : Int32) (hb hby d36_110) rfl rfl ?_
                    refine own_iadd (pc' := 112) X0 hx (hb hby d36_111) rfl ?_
                    exact J112 (cd6 + (0 : Int32)) (own_cd_add0 hcd6 (by have q := hc103; rw [Int64.lt_iff_toInt_lt] at q; have q : (-10000000 : Int) < mm.toInt := q; show _ < 10000000; omega))
                  · skip
                    refine own_iconst (pc' := 107) X0 hx (1 : Int32) (hb hby d36_106) rfl rfl ?_
                    refine own_goto (pc' := 111) X0 hx (hb hby d36_107) (by decide) rfl ?_
                    refine own_iadd (pc' := 112) X0 hx (hb hby d36_111) rfl ?_
                    exact J112 (cd6 + (1 : Int32)) (own_cd_add hcd6 (by have q := hc103; rw [Int64.lt_iff_toInt_lt] at q; have q : ¬ (-10000000 : Int) < mm.toInt := q; show 10000000 ≤ _; omega) (by decide))
                · skip
                  show own_WP _ _ _ _ _ _ _ (s₁.setTop (mkF m 112 #[.val (.long c1), .second, .val (.long mm), .second] [(.int cd7)]))
                  refine own_join (fun cd8 : Int32 => own_cd c1.toInt.natAbs 8 cd8) (fun cd8 => s₁.setTop (mkF m 126 #[.val (.long c1), .second, .val (.long mm), .second] [(.int cd8)])) (fun J126 => ?_) (fun cd8 hcd8 => ?_)
                  · skip
                    refine own_lloadN (pc' := 113) X0 hx (hb hby d36_112) rfl rfl ?_
                    refine own_ldc2Long (pc' := 116) X0 hx hZ hown (own_w hw 207 rfl) (hb hby d36_113) rfl ?_
                    refine own_lcmp (pc' := 117) X0 hx (hb hby d36_116) rfl ?_
                    refine own_ifl_gt (pt := 124) (pf := 120) X0 hx (hb hby d36_117) rfl (by decide) rfl (fun hc117 => ?_) (fun hc117 => ?_)
                    · skip
                      refine own_iconst (pc' := 125) X0 hx (0 : Int32) (hb hby d36_124) rfl rfl ?_
                      refine own_iadd (pc' := 126) X0 hx (hb hby d36_125) rfl ?_
                      exact J126 (cd7 + (0 : Int32)) (own_cd_add0 hcd7 (by have q := hc117; rw [Int64.lt_iff_toInt_lt] at q; have q : (-100000000 : Int) < mm.toInt := q; show _ < 100000000; omega))
                    · skip
                      refine own_iconst (pc' := 121) X0 hx (1 : Int32) (hb hby d36_120) rfl rfl ?_
                      refine own_goto (pc' := 125) X0 hx (hb hby d36_121) (by decide) rfl ?_
                      refine own_iadd (pc' := 126) X0 hx (hb hby d36_125) rfl ?_
                      exact J126 (cd7 + (1 : Int32)) (own_cd_add hcd7 (by have q := hc117; rw [Int64.lt_iff_toInt_lt] at q; have q : ¬ (-100000000 : Int) < mm.toInt := q; show 100000000 ≤ _; omega) (by decide))
                  · skip
                    show own_WP _ _ _ _ _ _ _ (s₁.setTop (mkF m 126 #[.val (.long c1), .second, .val (.long mm), .second] [(.int cd8)]))
                    refine own_join (fun cd9 : Int32 => own_cd c1.toInt.natAbs 9 cd9) (fun cd9 => s₁.setTop (mkF m 140 #[.val (.long c1), .second, .val (.long mm), .second] [(.int cd9)])) (fun J140 => ?_) (fun cd9 hcd9 => ?_)
                    · skip
                      refine own_lloadN (pc' := 127) X0 hx (hb hby d36_126) rfl rfl ?_
                      refine own_ldc2Long (pc' := 130) X0 hx hZ hown (own_w hw 208 rfl) (hb hby d36_127) rfl ?_
                      refine own_lcmp (pc' := 131) X0 hx (hb hby d36_130) rfl ?_
                      refine own_ifl_gt (pt := 138) (pf := 134) X0 hx (hb hby d36_131) rfl (by decide) rfl (fun hc131 => ?_) (fun hc131 => ?_)
                      · skip
                        refine own_iconst (pc' := 139) X0 hx (0 : Int32) (hb hby d36_138) rfl rfl ?_
                        refine own_iadd (pc' := 140) X0 hx (hb hby d36_139) rfl ?_
                        exact J140 (cd8 + (0 : Int32)) (own_cd_add0 hcd8 (by have q := hc131; rw [Int64.lt_iff_toInt_lt] at q; have q : (-1000000000 : Int) < mm.toInt := q; show _ < 1000000000; omega))
                      · skip
                        refine own_iconst (pc' := 135) X0 hx (1 : Int32) (hb hby d36_134) rfl rfl ?_
                        refine own_goto (pc' := 139) X0 hx (hb hby d36_135) (by decide) rfl ?_
                        refine own_iadd (pc' := 140) X0 hx (hb hby d36_139) rfl ?_
                        exact J140 (cd8 + (1 : Int32)) (own_cd_add hcd8 (by have q := hc131; rw [Int64.lt_iff_toInt_lt] at q; have q : ¬ (-1000000000 : Int) < mm.toInt := q; show 1000000000 ≤ _; omega) (by decide))
                    · skip
                      show own_WP _ _ _ _ _ _ _ (s₁.setTop (mkF m 140 #[.val (.long c1), .second, .val (.long mm), .second] [(.int cd9)]))
                      refine own_join (fun cd10 : Int32 => own_cd c1.toInt.natAbs 10 cd10) (fun cd10 => s₁.setTop (mkF m 154 #[.val (.long c1), .second, .val (.long mm), .second] [(.int cd10)])) (fun J154 => ?_) (fun cd10 hcd10 => ?_)
                      · skip
                        refine own_lloadN (pc' := 141) X0 hx (hb hby d36_140) rfl rfl ?_
                        refine own_ldc2Long (pc' := 144) X0 hx hZ hown (own_w hw 209 rfl) (hb hby d36_141) rfl ?_
                        refine own_lcmp (pc' := 145) X0 hx (hb hby d36_144) rfl ?_
                        refine own_ifl_gt (pt := 152) (pf := 148) X0 hx (hb hby d36_145) rfl (by decide) rfl (fun hc145 => ?_) (fun hc145 => ?_)
                        · skip
                          refine own_iconst (pc' := 153) X0 hx (0 : Int32) (hb hby d36_152) rfl rfl ?_
                          refine own_iadd (pc' := 154) X0 hx (hb hby d36_153) rfl ?_
                          exact J154 (cd9 + (0 : Int32)) (own_cd_add0 hcd9 (by have q := hc145; rw [Int64.lt_iff_toInt_lt] at q; have q : (-10000000000 : Int) < mm.toInt := q; show _ < 10000000000; omega))
                        · skip
                          refine own_iconst (pc' := 149) X0 hx (1 : Int32) (hb hby d36_148) rfl rfl ?_
                          refine own_goto (pc' := 153) X0 hx (hb hby d36_149) (by decide) rfl ?_
                          refine own_iadd (pc' := 154) X0 hx (hb hby d36_153) rfl ?_
                          exact J154 (cd9 + (1 : Int32)) (own_cd_add hcd9 (by have q := hc145; rw [Int64.lt_iff_toInt_lt] at q; have q : ¬ (-10000000000 : Int) < mm.toInt := q; show 10000000000 ≤ _; omega) (by decide))
                      · skip
                        show own_WP _ _ _ _ _ _ _ (s₁.setTop (mkF m 154 #[.val (.long c1), .second, .val (.long mm), .second] [(.int cd10)]))
                        refine own_join (fun cd11 : Int32 => own_cd c1.toInt.natAbs 11 cd11) (fun cd11 => s₁.setTop (mkF m 168 #[.val (.long c1), .second, .val (.long mm), .second] [(.int cd11)])) (fun J168 => ?_) (fun cd11 hcd11 => ?_)
                        · skip
                          refine own_lloadN (pc' := 155) X0 hx (hb hby d36_154) rfl rfl ?_
                          refine own_ldc2Long (pc' := 158) X0 hx hZ hown (own_w hw 210 rfl) (hb hby d36_155) rfl ?_
                          refine own_lcmp (pc' := 159) X0 hx (hb hby d36_158) rfl ?_
                          refine own_ifl_gt (pt := 166) (pf := 162) X0 hx (hb hby d36_159) rfl (by decide) rfl (fun hc159 => ?_) (fun hc159 => ?_)
                          · skip
                            refine own_iconst (pc' := 167) X0 hx (0 : Int32) (hb hby d36_166) rfl rfl ?_
                            refine own_iadd (pc' := 168) X0 hx (hb hby d36_167) rfl ?_
                            exact J168 (cd10 + (0 : Int32)) (own_cd_add0 hcd10 (by have q := hc159; rw [Int64.lt_iff_toInt_lt] at q; have q : (-100000000000 : Int) < mm.toInt := q; show _ < 100000000000; omega))
                          · skip
                            refine own_iconst (pc' := 163) X0 hx (1 : Int32) (hb hby d36_162) rfl rfl ?_
                            refine own_goto (pc' := 167) X0 hx (hb hby d36_163) (by decide) rfl ?_
                            refine own_iadd (pc' := 168) X0 hx (hb hby d36_167) rfl ?_
                            exact J168 (cd10 + (1 : Int32)) (own_cd_add hcd10 (by have q := hc159; rw [Int64.lt_iff_toInt_lt] at q; have q : ¬ (-100000000000 : Int) < mm.toInt := q; show 100000000000 ≤ _; omega) (by decide))
                        · skip
                          show own_WP _ _ _ _ _ _ _ (s₁.setTop (mkF m 168 #[.val (.long c1), .second, .val (.long mm), .second] [(.int cd11)]))
                          refine own_join (fun cd12 : Int32 => own_cd c1.toInt.natAbs 12 cd12) (fun cd12 => s₁.setTop (mkF m 182 #[.val (.long c1), .second, .val (.long mm), .second] [(.int cd12)])) (fun J182 => ?_) (fun cd12 hcd12 => ?_)
                          · skip
                            refine own_lloadN (pc' := 169) X0 hx (hb hby d36_168) rfl rfl ?_
                            refine own_ldc2Long (pc' := 172) X0 hx hZ hown (own_w hw 211 rfl) (hb hby d36_169) rfl ?_
                            refine own_lcmp (pc' := 173) X0 hx (hb hby d36_172) rfl ?_
                            refine own_ifl_gt (pt := 180) (pf := 176) X0 hx (hb hby d36_173) rfl (by decide) rfl (fun hc173 => ?_) (fun hc173 => ?_)
                            · skip
                              refine own_iconst (pc' := 181) X0 hx (0 : Int32) (hb hby d36_180) rfl rfl ?_
                              refine own_iadd (pc' := 182) X0 hx (hb hby d36_181) rfl ?_
                              exact J182 (cd11 + (0 : Int32)) (own_cd_add0 hcd11 (by have q := hc173; rw [Int64.lt_iff_toInt_lt] at q; have q : (-1000000000000 : Int) < mm.toInt := q; show _ < 1000000000000; omega))
                            · skip
                              refine own_iconst (pc' := 177) X0 hx (1 : Int32) (hb hby d36_176) rfl rfl ?_
                              refine own_goto (pc' := 181) X0 hx (hb hby d36_177) (by decide) rfl ?_
                              refine own_iadd (pc' := 182) X0 hx (hb hby d36_181) rfl ?_
                              exact J182 (cd11 + (1 : Int32)) (own_cd_add hcd11 (by have q := hc173; rw [Int64.lt_iff_toInt_lt] at q; have q : ¬ (-1000000000000 : Int) < mm.toInt := q; show 1000000000000 ≤ _; omega) (by decide))
                          · skip
                            show own_WP _ _ _ _ _ _ _ (s₁.setTop (mkF m 182 #[.val (.long c1), .second, .val (.long mm), .second] [(.int cd12)]))
                            refine own_join (fun cd13 : Int32 => own_cd c1.toInt.natAbs 13 cd13) (fun cd13 => s₁.setTop (mkF m 196 #[.val (.long c1), .second, .val (.long mm), .second] [(.int cd13)])) (fun J196 => ?_) (fun cd13 hcd13 => ?_)
                            · skip
                              refine own_lloadN (pc' := 183) X0 hx (hb hby d36_182) rfl rfl ?_
                              refine own_ldc2Long (pc' := 186) X0 hx hZ hown (own_w hw 212 rfl) (hb hby d36_183) rfl ?_
                              refine own_lcmp (pc' := 187) X0 hx (hb hby d36_186) rfl ?_
                              refine own_ifl_gt (pt := 194) (pf := 190) X0 hx (hb hby d36_187) rfl (by decide) rfl (fun hc187 => ?_) (fun hc187 => ?_)
                              · skip
                                refine own_iconst (pc' := 195) X0 hx (0 : Int32) (hb hby d36_194) rfl rfl ?_
                                refine own_iadd (pc' := 196) X0 hx (hb hby d36_195) rfl ?_
                                exact J196 (cd12 + (0 : Int32)) (own_cd_add0 hcd12 (by have q := hc187; rw [Int64.lt_iff_toInt_lt] at q; have q : (-10000000000000 : Int) < mm.toInt := q; show _ < 10000000000000; omega))
                              · skip
                                refine own_iconst (pc' := 191) X0 hx (1 : Int32) (hb hby d36_190) rfl rfl ?_
                                refine own_goto (pc' := 195) X0 hx (hb hby d36_191) (by decide) rfl ?_
                                refine own_iadd (pc' := 196) X0 hx (hb hby d36_195) rfl ?_
                                exact J196 (cd12 + (1 : Int32)) (own_cd_add hcd12 (by have q := hc187; rw [Int64.lt_iff_toInt_lt] at q; have q : ¬ (-10000000000000 : Int) < mm.toInt := q; show 10000000000000 ≤ _; omega) (by decide))
                            · skip
                              show own_WP _ _ _ _ _ _ _ (s₁.setTop (mkF m 196 #[.val (.long c1), .second, .val (.long mm), .second] [(.int cd13)]))
                              refine own_join (fun cd14 : Int32 => own_cd c1.toInt.natAbs 14 cd14) (fun cd14 => s₁.setTop (mkF m 210 #[.val (.long c1), .second, .val (.long mm), .second] [(.int cd14)])) (fun J210 => ?_) (fun cd14 hcd14 => ?_)
                              · skip
                                refine own_lloadN (pc' := 197) X0 hx (hb hby d36_196) rfl rfl ?_
                                refine own_ldc2Long (pc' := 200) X0 hx hZ hown (own_w hw 213 rfl) (hb hby d36_197) rfl ?_
                                refine own_lcmp (pc' := 201) X0 hx (hb hby d36_200) rfl ?_
                                refine own_ifl_gt (pt := 208) (pf := 204) X0 hx (hb hby d36_201) rfl (by decide) rfl (fun hc201 => ?_) (fun hc201 => ?_)
                                · skip
                                  refine own_iconst (pc' := 209) X0 hx (0 : Int32) (hb hby d36_208) rfl rfl ?_
                                  refine own_iadd (pc' := 210) X0 hx (hb hby d36_209) rfl ?_
                                  exact J210 (cd13 + (0 : Int32)) (own_cd_add0 hcd13 (by have q := hc201; rw [Int64.lt_iff_toInt_lt] at q; have q : (-100000000000000 : Int) < mm.toInt := q; show _ < 100000000000000; omega))
                                · skip
                                  refine own_iconst (pc' := 205) X0 hx (1 : Int32) (hb hby d36_204) rfl rfl ?_
                                  refine own_goto (pc' := 209) X0 hx (hb hby d36_205) (by decide) rfl ?_
                                  refine own_iadd (pc' := 210) X0 hx (hb hby d36_209) rfl ?_
                                  exact J210 (cd13 + (1 : Int32)) (own_cd_add hcd13 (by have q := hc201; rw [Int64.lt_iff_toInt_lt] at q; have q : ¬ (-100000000000000 : Int) < mm.toInt := q; show 100000000000000 ≤ _; omega) (by decide))
                              · skip
                                show own_WP _ _ _ _ _ _ _ (s₁.setTop (mkF m 210 #[.val (.long c1), .second, .val (.long mm), .second] [(.int cd14)]))
                                refine own_join (fun cd15 : Int32 => own_cd c1.toInt.natAbs 15 cd15) (fun cd15 => s₁.setTop (mkF m 224 #[.val (.long c1), .second, .val (.long mm), .second] [(.int cd15)])) (fun J224 => ?_) (fun cd15 hcd15 => ?_)
                                · skip
                                  refine own_lloadN (pc' := 211) X0 hx (hb hby d36_210) rfl rfl ?_
                                  refine own_ldc2Long (pc' := 214) X0 hx hZ hown (own_w hw 214 rfl) (hb hby d36_211) rfl ?_
                                  refine own_lcmp (pc' := 215) X0 hx (hb hby d36_214) rfl ?_
                                  refine own_ifl_gt (pt := 222) (pf := 218) X0 hx (hb hby d36_215) rfl (by decide) rfl (fun hc215 => ?_) (fun hc215 => ?_)
                                  · skip
                                    refine own_iconst (pc' := 223) X0 hx (0 : Int32) (hb hby d36_222) rfl rfl ?_
                                    refine own_iadd (pc' := 224) X0 hx (hb hby d36_223) rfl ?_
                                    exact J224 (cd14 + (0 : Int32)) (own_cd_add0 hcd14 (by have q := hc215; rw [Int64.lt_iff_toInt_lt] at q; have q : (-1000000000000000 : Int) < mm.toInt := q; show _ < 1000000000000000; omega))
                                  · skip
                                    refine own_iconst (pc' := 219) X0 hx (1 : Int32) (hb hby d36_218) rfl rfl ?_
                                    refine own_goto (pc' := 223) X0 hx (hb hby d36_219) (by decide) rfl ?_
                                    refine own_iadd (pc' := 224) X0 hx (hb hby d36_223) rfl ?_
                                    exact J224 (cd14 + (1 : Int32)) (own_cd_add hcd14 (by have q := hc215; rw [Int64.lt_iff_toInt_lt] at q; have q : ¬ (-1000000000000000 : Int) < mm.toInt := q; show 1000000000000000 ≤ _; omega) (by decide))
                                · skip
                                  show own_WP _ _ _ _ _ _ _ (s₁.setTop (mkF m 224 #[.val (.long c1), .second, .val (.long mm), .second] [(.int cd15)]))
                                  refine own_join (fun cd16 : Int32 => own_cd c1.toInt.natAbs 16 cd16) (fun cd16 => s₁.setTop (mkF m 238 #[.val (.long c1), .second, .val (.long mm), .second] [(.int cd16)])) (fun J238 => ?_) (fun cd16 hcd16 => ?_)
                                  · skip
                                    refine own_lloadN (pc' := 225) X0 hx (hb hby d36_224) rfl rfl ?_
                                    refine own_ldc2Long (pc' := 228) X0 hx hZ hown (own_w hw 215 rfl) (hb hby d36_225) rfl ?_
                                    refine own_lcmp (pc' := 229) X0 hx (hb hby d36_228) rfl ?_
                                    refine own_ifl_gt (pt := 236) (pf := 232) X0 hx (hb hby d36_229) rfl (by decide) rfl (fun hc229 => ?_) (fun hc229 => ?_)
                                    · skip
                                      refine own_iconst (pc' := 237) X0 hx (0 : Int32) (hb hby d36_236) rfl rfl ?_
                                      refine own_iadd (pc' := 238) X0 hx (hb hby d36_237) rfl ?_
                                      exact J238 (cd15 + (0 : Int32)) (own_cd_add0 hcd15 (by have q := hc229; rw [Int64.lt_iff_toInt_lt] at q; have q : (-10000000000000000 : Int) < mm.toInt := q; show _ < 10000000000000000; omega))
                                    · skip
                                      refine own_iconst (pc' := 233) X0 hx (1 : Int32) (hb hby d36_232) rfl rfl ?_
                                      refine own_goto (pc' := 237) X0 hx (hb hby d36_233) (by decide) rfl ?_
                                      refine own_iadd (pc' := 238) X0 hx (hb hby d36_237) rfl ?_
                                      exact J238 (cd15 + (1 : Int32)) (own_cd_add hcd15 (by have q := hc229; rw [Int64.lt_iff_toInt_lt] at q; have q : ¬ (-10000000000000000 : Int) < mm.toInt := q; show 10000000000000000 ≤ _; omega) (by decide))
                                  · skip
                                    show own_WP _ _ _ _ _ _ _ (s₁.setTop (mkF m 238 #[.val (.long c1), .second, .val (.long mm), .second] [(.int cd16)]))
                                    refine own_join (fun cd17 : Int32 => own_cd c1.toInt.natAbs 17 cd17) (fun cd17 => s₁.setTop (mkF m 252 #[.val (.long c1), .second, .val (.long mm), .second] [(.int cd17)])) (fun J252 => ?_) (fun cd17 hcd17 => ?_)
                                    · skip
                                      refine own_lloadN (pc' := 239) X0 hx (hb hby d36_238) rfl rfl ?_
                                      refine own_ldc2Long (pc' := 242) X0 hx hZ hown (own_w hw 216 rfl) (hb hby d36_239) rfl ?_
                                      refine own_lcmp (pc' := 243) X0 hx (hb hby d36_242) rfl ?_
                                      refine own_ifl_gt (pt := 250) (pf := 246) X0 hx (hb hby d36_243) rfl (by decide) rfl (fun hc243 => ?_) (fun hc243 => ?_)
                                      · skip
                                        refine own_iconst (pc' := 251) X0 hx (0 : Int32) (hb hby d36_250) rfl rfl ?_
                                        refine own_iadd (pc' := 252) X0 hx (hb hby d36_251) rfl ?_
                                        exact J252 (cd16 + (0 : Int32)) (own_cd_add0 hcd16 (by have q := hc243; rw [Int64.lt_iff_toInt_lt] at q; have q : (-100000000000000000 : Int) < mm.toInt := q; show _ < 100000000000000000; omega))
                                      · skip
                                        refine own_iconst (pc' := 247) X0 hx (1 : Int32) (hb hby d36_246) rfl rfl ?_
                                        refine own_goto (pc' := 251) X0 hx (hb hby d36_247) (by decide) rfl ?_
                                        refine own_iadd (pc' := 252) X0 hx (hb hby d36_251) rfl ?_
                                        exact J252 (cd16 + (1 : Int32)) (own_cd_add hcd16 (by have q := hc243; rw [Int64.lt_iff_toInt_lt] at q; have q : ¬ (-100000000000000000 : Int) < mm.toInt := q; show 100000000000000000 ≤ _; omega) (by decide))
                                    · skip
                                      show own_WP _ _ _ _ _ _ _ (s₁.setTop (mkF m 252 #[.val (.long c1), .second, .val (.long mm), .second] [(.int cd17)]))
                                      refine own_join (fun cd18 : Int32 => own_cd c1.toInt.natAbs 18 cd18) (fun cd18 => s₁.setTop (mkF m 266 #[.val (.long c1), .second, .val (.long mm), .second] [(.int cd18)])) (fun J266 => ?_) (fun cd18 hcd18 => ?_)
                                      · skip
                                        refine own_lloadN (pc' := 253) X0 hx (hb hby d36_252) rfl rfl ?_
                                        refine own_ldc2Long (pc' := 256) X0 hx hZ hown (own_w hw 217 rfl) (hb hby d36_253) rfl ?_
                                        refine own_lcmp (pc' := 257) X0 hx (hb hby d36_256) rfl ?_
                                        refine own_ifl_gt (pt := 264) (pf := 260) X0 hx (hb hby d36_257) rfl (by decide) rfl (fun hc257 => ?_) (fun hc257 => ?_)
                                        · skip
                                          refine own_iconst (pc' := 265) X0 hx (0 : Int32) (hb hby d36_264) rfl rfl ?_
                                          refine own_iadd (pc' := 266) X0 hx (hb hby d36_265) rfl ?_
                                          exact J266 (cd17 + (0 : Int32)) (own_cd_add0 hcd17 (by have q := hc257; rw [Int64.lt_iff_toInt_lt] at q; have q : (-1000000000000000000 : Int) < mm.toInt := q; show _ < 1000000000000000000; omega))
                                        · skip
                                          refine own_iconst (pc' := 261) X0 hx (1 : Int32) (hb hby d36_260) rfl rfl ?_
                                          refine own_goto (pc' := 265) X0 hx (hb hby d36_261) (by decide) rfl ?_
                                          refine own_iadd (pc' := 266) X0 hx (hb hby d36_265) rfl ?_
                                          exact J266 (cd17 + (1 : Int32)) (own_cd_add hcd17 (by have q := hc257; rw [Int64.lt_iff_toInt_lt] at q; have q : ¬ (-1000000000000000000 : Int) < mm.toInt := q; show 1000000000000000000 ≤ _; omega) (by decide))
                                      · skip
                                        show own_WP _ _ _ _ _ _ _ (s₁.setTop (mkF m 266 #[.val (.long c1), .second, .val (.long mm), .second] [(.int cd18)]))
                                        refine own_retI X0 hx (fun _ _ _ _ q => q) hlk hret (hb hby d36_266) (by decide) (by decide) ?_
                                        exact ⟨cd18, rfl, own_cdE hcd18 (by have := rng64 c1; omega) hkk, rfl, e0⟩
theorem d47_0 : decode method_5_code 0 = .ok (.iload 5, 2) := by decide +kernel
theorem d47_2 : decode method_5_code 2 = .ok (.iload 4, 2) := by decide +kernel
theorem d47_4 : decode method_5_code 4 = .ok (.if_icmp .lt 5, 3) := by decide +kernel
theorem d47_7 : decode method_5_code 7 = .ok (.iconst 1, 1) := by decide +kernel
theorem d47_8 : decode method_5_code 8 = .ok (.ireturn, 1) := by decide +kernel
theorem d47_9 : decode method_5_code 9 = .ok (.lload_n 2, 1) := by decide +kernel
theorem d47_10 : decode method_5_code 10 = .ok (.iload 5, 2) := by decide +kernel
theorem d47_12 : decode method_5_code 12 = .ok (.invokestatic 123, 3) := by decide +kernel
theorem d47_15 : decode method_5_code 15 = .ok (.ldiv, 1) := by decide +kernel
theorem d47_16 : decode method_5_code 16 = .ok (.ldc2_w 87, 3) := by decide +kernel
theorem d47_19 : decode method_5_code 19 = .ok (.lrem, 1) := by decide +kernel
theorem d47_20 : decode method_5_code 20 = .ok (.lstore 6, 2) := by decide +kernel
theorem d47_22 : decode method_5_code 22 = .ok (.lload 6, 2) := by decide +kernel
theorem d47_24 : decode method_5_code 24 = .ok (.invokestatic 127, 3) := by decide +kernel
theorem d47_27 : decode method_5_code 27 = .ok (.l2i, 1) := by decide +kernel
theorem d47_28 : decode method_5_code 28 = .ok (.istore 8, 2) := by decide +kernel
theorem d47_30 : decode method_5_code 30 = .ok (.aload_n 0, 1) := by decide +kernel
theorem d47_31 : decode method_5_code 31 = .ok (.iload_n 1, 1) := by decide +kernel
theorem d47_32 : decode method_5_code 32 = .ok (.iconst 1, 1) := by decide +kernel
theorem d47_33 : decode method_5_code 33 = .ok (.isub, 1) := by decide +kernel
theorem d47_34 : decode method_5_code 34 = .ok (.iload 5, 2) := by decide +kernel
theorem d47_36 : decode method_5_code 36 = .ok (.isub, 1) := by decide +kernel
theorem d47_37 : decode method_5_code 37 = .ok (.invokevirtual 35, 3) := by decide +kernel
theorem d47_40 : decode method_5_code 40 = .ok (.bipush 48, 2) := by decide +kernel
theorem d47_42 : decode method_5_code 42 = .ok (.iload 8, 2) := by decide +kernel
theorem d47_44 : decode method_5_code 44 = .ok (.iadd, 1) := by decide +kernel
theorem d47_45 : decode method_5_code 45 = .ok (.i2c, 1) := by decide +kernel
theorem d47_46 : decode method_5_code 46 = .ok (.if_icmp .ne 7, 3) := by decide +kernel
theorem d47_49 : decode method_5_code 49 = .ok (.iconst 1, 1) := by decide +kernel
theorem d47_50 : decode method_5_code 50 = .ok (.goto 4, 3) := by decide +kernel
theorem d47_54 : decode method_5_code 54 = .ok (.ireturn, 1) := by decide +kernel
theorem pn_47 : plainFor (⟨"com/example/ossify/ossify/TornTailDescribePinLaw", "dig", "(Ljava/lang/String;IJII)Z"⟩ : MethodName) = true := plainFor_of_name (by first | (simp [plainName, overriddenIn]; done) | decide +kernel)
theorem ef_con_dg (m : MethodId) (t : Addr) (en : Int32) (xl : Int64) (cq : Int32) (kq : Int32) : entryFrame m #[(.ref t), (.int en), (.long xl), (.int cq), (.int kq)] 9 = mkF m 0 #[.val (.ref t), .val (.int en), .val (.long xl), .second, .val (.int cq), .val (.int kq), .unset, .unset, .unset] [] := by first | (simp [entryFrame, mkF, argsToLocals, Value.category]; done) | rfl
theorem pd30 : parseMethodDescriptor "(I)J" = some ⟨[.int], some .long⟩ := by decide +kernel
theorem pd31 : parseMethodDescriptor "(J)J" = some ⟨[.long], some .long⟩ := by decide +kernel
theorem pd32 : parseMethodDescriptor "(I)C" = some ⟨[.int], some .char⟩ := by decide +kernel
set_option maxRecDepth 65536 in
set_option maxHeartbeats 4000000 in
theorem con_dg (l : Launch) (Z : State) (a0 : Array Value) (hw : ∀ d ∈ tables_1, d.before a0 Z = true) (t : Addr) (en : Int32) (xl : Int64) (cq : Int32) (kq : Int32) (h0 : Heap) (n0 : Nat) (Z0 : n0 ≤ h0.size) (G1 : Int32) (fm : Value) (hG : own_G Z G1 fm) (X00 : own_Old Z n0 h0) (tb : Addr) (ktb : ClassId) (zz : Int32) (us : List Value) (hE : Exa Z h0 t "java/lang/String") (hC : Fld Z h0 t "java/lang/String" "coder" "B" (.int (0 : Int32))) (hV : Fld Z h0 t "java/lang/String" "value" "[B" (.ref tb)) (hA : Arv Z h0 tb ktb .byte zz us (.int (0 : Int32))) (A K : Nat) (hA0 : A = xl.toInt.natAbs) (hkq : kq.toInt = (K : Int)) (hK : K ≤ 18) (hd : kq < cq → (¬ (en - 1 - kq) < 0 ∧ (en - 1 - kq) < zz) ∧ us.getD (en - 1 - kq).toNatClampNeg (.int (0 : Int32)) = .int (own_dig A K)) :
    own_Con l Z (⟨"com/example/ossify/ossify/TornTailDescribePinLaw", "dig", "(Ljava/lang/String;IJII)Z"⟩ : MethodName) method_5_code 9 (some .boolean) ({ frames := 4, cells := 1, slots := 19, locals := 56 } : Room) #[(.ref t), (.int en), (.long xl), (.int cq), (.int kq)] h0 (fun v h L => v = some (.int 1) ∧ Fr n0 L ∧ Keep h0 h []) := by
  refine own_Con_of pn_47 ?_
  intro p e s m below meth c s₁ X0 hx hby hml hret hlk hnm hown hZ e0
  have hown : s.vm.findClass "com/example/ossify/ossify/TornTailDescribePinLaw" = some m.cls := hown
  have hml : c.maxLocals = 9 := hml
  have N0 := Fr.nil n0
  show own_WP _ _ _ _ _ _ _ (s₁.setTop (entryFrame m #[(.ref t), (.int en), (.long xl), (.int cq), (.int kq)] 9))
  rw [ef_con_dg m t en xl cq kq]
  refine own_iload (pc' := 2) X0 hx (hb hby d47_0) rfl rfl ?_
  refine own_iload (pc' := 4) X0 hx (hb hby d47_2) rfl rfl ?_
  refine own_icmp_lt (pt := 9) (pf := 7) X0 hx (hb hby d47_4) rfl (by decide) rfl (fun hc4 => ?_) (fun hc4 => ?_)
  · skip
    refine own_lloadN (pc' := 10) X0 hx (hb hby d47_9) rfl rfl ?_
    refine own_iload (pc' := 12) X0 hx (hb hby d47_10) rfl rfl ?_
    refine own_callS (pc' := 15) (W := 2) (y := (⟨"com/example/ossify/ossify/TornTailDescribePinLaw", "pow10", "(I)J"⟩ : MethodName)) X0 hx hZ hown (own_w hw 265 rfl) (own_w hw 266 rfl) (own_w hw 198 rfl) (own_w hw 267 rfl) (by decide) (con_p10 l Z a0 hw kq _ n0 Z0 K hkq hK) e0 pd30 [(.int kq)] [(.long xl)] rfl rfl rfl (Nat.le_of_eq rfl) (by decide) (by decide) (by rw [hml]; rfl) (hb hby d47_12) (by decide) (by decide) rfl ?_
    intro v1 T1 L1 X1 q1
    obtain ⟨r1, rfl, M1, K1, hr1⟩ := q1
    obtain ⟨h1, e1⟩ : ∃ z, z = T1.heap := ⟨_, rfl⟩
    rw [← e1] at K1 
    have e1 := e1.symm
    have o1 : own_Old Z n0 h1 := X00.keep K1 all0
    have z1 : n0 ≤ h1.size := Nat.le_trans Z0 K1.1
    have KK1 : Keep h0 h1 [] := (Keep.refl h0 []).trans K1 all0
    have N1 := Fr.app N0 M1
    show own_WP _ _ _ _ _ _ _ (T1.setTop (mkF m 15 #[.val (.ref t), .val (.int en), .val (.long xl), .second, .val (.int cq), .val (.int kq), .unset, .unset, .unset] [(.long r1), (.long xl)]))
    refine own_ldiv (pc' := 16) X1 hx (hb hby d47_15) (fun q => by rw [q] at hr1; have e : (0 : Int64).toInt = 0 := rfl; have := Nat.pow_pos (n := K) (by decide : 0 < 10); omega) rfl ?_
    refine own_ldc2Long (pc' := 19) X1 hx hZ hown (own_w hw 269 rfl) (hb hby d47_16) rfl ?_
    refine own_lrem (pc' := 20) X1 hx (hb hby d47_19) (by decide) rfl ?_
    obtain ⟨v2, hv2⟩ : ∃ z : Int64, z = ((xl / r1) % (10 : Int64)) := ⟨_, rfl⟩
    refine own_lstore (pc' := 22) (l' := #[.val (.ref t), .val (.int en), .val (.long xl), .second, .val (.int cq), .val (.int kq), .val (.long v2), .second, .unset]) X1 hx (hb hby d47_20) hv2 rfl rfl ?_
    refine own_lload (pc' := 24) X1 hx (hb hby d47_22) rfl rfl ?_
    refine own_callS (pc' := 27) (W := 0) (y := (⟨"java/lang/Math", "abs", "(J)J"⟩ : MethodName)) X1 hx hZ hown (own_w hw 287 rfl) (own_w hw 288 rfl) (own_w hw 101 rfl) (own_w hw 289 rfl) (by decide) (con_abs l Z a0 hw v2 _) e1 pd31 [(.long v2)] [] rfl rfl rfl (Nat.le_of_eq rfl) (by decide) (by decide) (by rw [hml]; rfl) (hb hby d47_24) (by decide) (by decide) rfl ?_
    intro v3 T3 L3 X3 q3
    obtain ⟨r3, rfl, hr3, rfl, e3⟩ := q3
    have M3 := Fr.nil n0
    have N3 := Fr.app N1 M3
    show own_WP _ _ _ _ _ _ _ (T3.setTop (mkF m 27 #[.val (.ref t), .val (.int en), .val (.long xl), .second, .val (.int cq), .val (.int kq), .val (.long v2), .second, .unset] [(.long r3)]))
    refine own_l2i (pc' := 28) X3 hx (hb hby d47_27) rfl ?_
    obtain ⟨v4, hv4⟩ : ∃ z : Int32, z = (r3.toInt32) := ⟨_, rfl⟩
    refine own_istore (pc' := 30) (l' := #[.val (.ref t), .val (.int en), .val (.long xl), .second, .val (.int cq), .val (.int kq), .val (.long v2), .second, .val (.int v4)]) X3 hx (hb hby d47_28) hv4 rfl rfl ?_
    refine own_aloadN (pc' := 31) X3 hx (hb hby d47_30) rfl rfl rfl ?_
    refine own_iloadN (pc' := 32) X3 hx (hb hby d47_31) rfl rfl ?_
    refine own_iconst (pc' := 33) X3 hx (1 : Int32) (hb hby d47_32) rfl rfl ?_
    refine own_isub (pc' := 34) X3 hx (hb hby d47_33) rfl ?_
    refine own_iload (pc' := 36) X3 hx (hb hby d47_34) rfl rfl ?_
    refine own_isub (pc' := 37) X3 hx (hb hby d47_36) rfl ?_
    have f6 := (hE.keep K1)
    have f7 := (hC.keep K1 nin0)
    have f8 := (hV.keep K1 nin0)
    have f9 := (hA.keep K1 nin0)
    refine own_callV (pc' := 40) (W := 0) (y := (⟨"java/lang/String", "charAt", "(I)C"⟩ : MethodName)) (z := (⟨"java/lang/String", "charAt", "(I)C"⟩ : MethodName)) X3 hx hZ hown (own_w hw 219 rfl) (own_w hw 220 rfl) (notFace_of_selects (args := #[]) (mvT hZ (own_w hw 222 rfl))) (own_w hw 222 rfl) (own_w hw 221 rfl) (own_w hw 2 rfl) (own_w hw 223 rfl) (by decide) f6 (con_charAt l Z a0 hw t ((en - (1 : Int32)) - kq) _ n0 z1 G1 fm hG o1 tb ktb zz _ f6 f7 f8 f9 (own_dig A K) (hd hc4).1 (hd hc4).2) e3 pd32 [(.int ((en - (1 : Int32)) - kq))] [] rfl rfl rfl (Nat.le_of_eq rfl) (by decide) (by decide) (by rw [hml]; rfl) (hb hby d47_37) (by decide) (by decide) rfl ?_
    intro v5 T5 L5 X5 q5
    obtain ⟨r5, rfl, hr5, rfl, e5⟩ := q5
    have M5 := Fr.nil n0
    have N5 := Fr.app N3 M5
    show own_WP _ _ _ _ _ _ _ (T5.setTop (mkF m 40 #[.val (.ref t), .val (.int en), .val (.long xl), .second, .val (.int cq), .val (.int kq), .val (.long v2), .second, .val (.int v4)] [(.int r5)]))
    refine own_bipush (pc' := 42) X5 hx (48 : Int32) (hb hby d47_40) rfl rfl ?_
    refine own_iload (pc' := 44) X5 hx (hb hby d47_42) rfl rfl ?_
    refine own_iadd (pc' := 45) X5 hx (hb hby d47_44) rfl ?_
    refine own_i2c (pc' := 46) X5 hx (hb hby d47_45) rfl ?_
    refine own_icmp_ne (pt := 53) (pf := 49) X5 hx (hb hby d47_46) rfl (by decide) rfl (fun hc46 => absurd (by rw [hr5]; exact (own_chdig A K).trans (own_absdig hA0 hr1 hv2 hr3 hv4).symm) hc46) (fun hc46 => ?_)
    refine own_iconst (pc' := 50) X5 hx (1 : Int32) (hb hby d47_49) rfl rfl ?_
    refine own_goto (pc' := 54) X5 hx (hb hby d47_50) (by decide) rfl ?_
    refine own_retN X5 hx (fun _ _ _ _ q => q) hlk (t := .boolean) (by decide) hret (hb hby d47_54) (by decide) (by decide) ?_
    rw [e5]
    exact ⟨rfl, N5, KK1⟩
  · skip
    refine own_iconst (pc' := 8) X0 hx (1 : Int32) (hb hby d47_7) rfl rfl ?_
    refine own_retN X0 hx (fun _ _ _ _ q => q) hlk (t := .boolean) (by decide) hret (hb hby d47_8) (by decide) (by decide) ?_
    rw [e0]
    exact ⟨rfl, N0, (Keep.refl h0 [])⟩
theorem d4_0 : decode prog_3_method_1_code 0 = .ok (.aload_n 0, 1) := by decide +kernel
theorem d4_1 : decode prog_3_method_1_code 1 = .ok (.invokespecial 1, 3) := by decide +kernel
theorem d4_4 : decode prog_3_method_1_code 4 = .ok (.aload_n 0, 1) := by decide +kernel
theorem d4_5 : decode prog_3_method_1_code 5 = .ok (.aload_n 1, 1) := by decide +kernel
theorem d4_6 : decode prog_3_method_1_code 6 = .ok (.putfield 7, 3) := by decide +kernel
theorem d4_9 : decode prog_3_method_1_code 9 = .ok (.aload_n 0, 1) := by decide +kernel
theorem d4_10 : decode prog_3_method_1_code 10 = .ok (.lload_n 2, 1) := by decide +kernel
theorem d4_11 : decode prog_3_method_1_code 11 = .ok (.putfield 13, 3) := by decide +kernel
theorem d4_14 : decode prog_3_method_1_code 14 = .ok (.return_, 1) := by decide +kernel
theorem pn_4 : plainFor (⟨"com/example/ossify/ossify/AppendReport$TornTail", "<init>", "(Ljava/lang/String;J)V"⟩ : MethodName) = true := plainFor_of_name (by first | (simp [plainName, overriddenIn]; done) | decide +kernel)
theorem ef_con_ri (m : MethodId) (a : Addr) (r : Addr) (xl : Int64) : entryFrame m #[(.ref a), (.ref r), (.long xl)] 4 = mkF m 0 #[.val (.ref a), .val (.ref r), .val (.long xl), .second] [] := by first | (simp [entryFrame, mkF, argsToLocals, Value.category]; done) | rfl
theorem pd33 : parseMethodDescriptor "()V" = some ⟨[], none⟩ := by decide +kernel
set_option maxRecDepth 65536 in
set_option maxHeartbeats 4000000 in
theorem con_ri (l : Launch) (Z : State) (a0 : Array Value) (hw : ∀ d ∈ tables_1, d.before a0 Z = true) (a : Addr) (r : Addr) (xl : Int64) (h0 : Heap) (n0 : Nat) (Z0 : n0 ≤ h0.size) (hE : Exa Z h0 a "com/example/ossify/ossify/AppendReport$TornTail") (hL : Fld Z h0 a "com/example/ossify/ossify/AppendReport$TornTail" "bytes" "J" (.long (0 : Int64))) (hR : Fld Z h0 a "com/example/ossify/ossify/AppendReport$TornTail" "segment" "Ljava/lang/String;" .null) (g_a : n0 ≤ a) :
    own_Con l Z (⟨"com/example/ossify/ossify/AppendReport$TornTail", "<init>", "(Ljava/lang/String;J)V"⟩ : MethodName) prog_3_method_1_code 4 none ({ frames := 2, cells := 0, slots := 0, locals := 26 } : Room) #[(.ref a), (.ref r), (.long xl)] h0 (fun v h L => v = none ∧ Fr n0 L ∧ Keep h0 h [a] ∧ Exa Z h a "com/example/ossify/ossify/AppendReport$TornTail" ∧ Fld Z h a "com/example/ossify/ossify/AppendReport$TornTail" "bytes" "J" (.long xl) ∧ Fld Z h a "com/example/ossify/ossify/AppendReport$TornTail" "segment" "Ljava/lang/String;" (.ref r)) := by
  refine own_Con_of pn_4 ?_
  intro p e s m below meth c s₁ X0 hx hby hml hret hlk hnm hown hZ e0
  have hown : s.vm.findClass "com/example/ossify/ossify/AppendReport$TornTail" = some m.cls := hown
  have hml : c.maxLocals = 4 := hml
  have N0 := Fr.nil n0
  show own_WP _ _ _ _ _ _ _ (s₁.setTop (entryFrame m #[(.ref a), (.ref r), (.long xl)] 4))
  rw [ef_con_ri m a r xl]
  refine own_aloadN (pc' := 1) X0 hx (hb hby d4_0) rfl rfl rfl ?_
  refine own_callN (pc' := 4) (W := 0) (y := (⟨"java/lang/Record", "<init>", "()V"⟩ : MethodName)) X0 hx hZ rfl hown (own_w hw 28 rfl) (own_w hw 29 rfl) (own_w hw 31 rfl) (own_w hw 32 rfl) (by decide) (con_rc l Z a0 hw a _ n0 Z0) e0 pd33 a [] [] rfl rfl rfl (Nat.le_of_eq rfl) (by decide) (by decide) (by rw [hml]; rfl) (hb hby d4_1) (by decide) (by decide) rfl ?_
  intro v1 T1 L1 X1 q1
  obtain ⟨rfl, rfl, e1⟩ := q1
  have M1 := Fr.nil n0
  have N1 := Fr.app N0 M1
  show own_WP _ _ _ _ _ _ _ (T1.setTop (mkF m 4 #[.val (.ref a), .val (.ref r), .val (.long xl), .second] []))
  refine own_aloadN (pc' := 5) X1 hx (hb hby d4_4) rfl rfl rfl ?_
  refine own_aloadN (pc' := 6) X1 hx (hb hby d4_5) rfl rfl rfl ?_
  refine own_putF (pc' := 9) X1 hx hZ hown (host := "") (Or.inl (own_w hw 34 rfl)) Via.refl e1 hR hE (Or.inr ⟨(own_w hw 35 rfl), rfl, hnm⟩) (own_w hw 23 rfl) (ty := (.object "java/lang/String")) (by decide +kernel) rfl rfl (hb hby d4_6) rfl ?_
  intro T2 h2 X2 e2 W2
  have Fw2 := hR.same W2
  have N2 := Fr.snoc X2 N1 g_a
  have K2 : Keep h0 h2 [a] := (Keep.refl h0 [a]).wr W2 (Or.inl (List.mem_of_getElem? (i := 0) rfl))
  refine own_aloadN (pc' := 10) X2 hx (hb hby d4_9) rfl rfl rfl ?_
  refine own_lloadN (pc' := 11) X2 hx (hb hby d4_10) rfl rfl ?_
  have f3 := (hL.other W2 (Or.inr (slot_ne (Or.inr (own_w hw 37 rfl)) (Or.inr (own_w hw 35 rfl)) (by decide) (t := .long) (t' := (.object "java/lang/String")) (by decide +kernel) (by decide +kernel))))
  have f4 := (hE.wr W2)
  refine own_putF (pc' := 14) X2 hx hZ hown (host := "") (Or.inl (own_w hw 36 rfl)) Via.refl e2 f3 f4 (Or.inr ⟨(own_w hw 37 rfl), rfl, hnm⟩) (own_w hw 23 rfl) (ty := .long) (by decide) rfl rfl (hb hby d4_11) rfl ?_
  intro T5 h5 X5 e5 W5
  have Fw5 := f3.same W5
  have N5 := Fr.snoc X5 N2 g_a
  have K5 : Keep h0 h5 [a] := K2.wr W5 (Or.inl (List.mem_of_getElem? (i := 0) rfl))
  have f6 := (f4.wr W5)
  have f7 := (Fw2.other W5 (Or.inr (slot_ne (Or.inr (own_w hw 35 rfl)) (Or.inr (own_w hw 37 rfl)) (by decide) (t := (.object "java/lang/String")) (t' := .long) (by decide +kernel) (by decide +kernel))))
  refine own_ret0 X5 hx (fun _ _ _ _ q => q) hlk hret (hb hby d4_14) (by decide) (by decide) ?_
  rw [e5]
  exact ⟨rfl, N5, K5, f6, Fw5, f7⟩
theorem own_wS {Z : State} {a0 : Array Value} (hw : ∀ d ∈ tables_1, d.before a0 Z = true) : ∀ a ∈ Bundle.stringAtoms, a.before a0 Z = true := by
  intro a ha
  simp only [Bundle.stringAtoms, List.mem_cons, List.not_mem_nil, or_false] at ha
  rcases ha with rfl | rfl | rfl | rfl | rfl | rfl | rfl
  · exact (own_w hw 2 rfl)
  · exact (own_w hw 1 rfl)
  · exact (own_w hw 15 rfl)
  · exact (own_w hw 16 rfl)
  · exact (own_w hw 17 rfl)
  · exact (own_w hw 18 rfl)
  · exact (own_w hw 19 rfl)
theorem ef_con_e4 (m : MethodId) (a : Addr) (cb : Addr) : entryFrame m #[(.ref a), (.ref cb), (.int (0 : Int32)), (.int (0 : Int32)), .null] 6 = mkF m 0 #[.val (.ref a), .val (.ref cb), .val (.int (0 : Int32)), .val (.int (0 : Int32)), .val .null, .unset] [] := by first | (simp [entryFrame, mkF, argsToLocals, Value.category]; done) | rfl
set_option maxRecDepth 65536 in
set_option maxHeartbeats 4000000 in
theorem con_e4 (l : Launch) (Z : State) (a0 : Array Value) (hw : ∀ d ∈ tables_1, d.before a0 Z = true) (a : Addr) (cb : Addr) (h0 : Heap) (n0 : Nat) (Z0 : n0 ≤ h0.size) (G1 : Int32) (fm : Value) (hG : own_G Z G1 fm) (X00 : own_Old Z n0 h0) (hEL : EW Z a0 consts_1) (hE : Exa Z h0 a "java/lang/String") (hC : Fld Z h0 a "java/lang/String" "coder" "B" (.int (0 : Int32))) (hV : Fld Z h0 a "java/lang/String" "value" "[B" .null) (g_a : n0 ≤ a) :
    own_ConH l Z consts_1 [a] (⟨"java/lang/String", "<init>", "([CIILjava/lang/Void;)V"⟩ : MethodName) jdk_42_method_149_code 6 none ({ frames := 1, cells := 2, slots := 4, locals := 15 } : Room) #[(.ref a), (.ref cb), (.int (0 : Int32)), (.int (0 : Int32)), .null] h0 (fun v h L => ∃ (b : Addr) (kb : ClassId), v = none ∧ Fr n0 L ∧ Keep h0 h [a] ∧ Exa Z h a "java/lang/String" ∧ Fld Z h a "java/lang/String" "coder" "B" (.int (0 : Int32)) ∧ Fld Z h a "java/lang/String" "value" "[B" (.ref b) ∧ Arv Z h b kb .byte (0 : Int32) [] (.int (0 : Int32))) := by
  refine own_ConH_of pn_2 ?_
  intro p e s vm0 m below meth c s₁ X0 hx hby hml hret hlk hnm hown hZ e0 H0 hSx R0 hS
  have hown : vm0.findClass "java/lang/String" = some m.cls := hown
  have hml : c.maxLocals = 6 := hml
  have N0 := Fr.nil n0
  have hwS := own_wS hw
  have kz0 : h0.size ≤ h0.size := Nat.le_refl _
  show own_WP _ _ _ _ _ _ _ (s₁.setTop (entryFrame m #[(.ref a), (.ref cb), (.int (0 : Int32)), (.int (0 : Int32)), .null] 6))
  rw [ef_con_e4 m a cb]
  have S0_a := hSx a (by simp)
  refine own_aloadN (pc' := 1) X0 hx (hb hby d2_0) rfl rfl rfl ?_
  refine own_initO (pc' := 4) (W := 0) X0 hx hZ hown (own_w hw 11 rfl) (own_w hw 12 rfl) (own_w hw 13 rfl) e0 (by rw [hml]; rfl) (hb hby d2_1) (by decide) (Nat.le_of_eq rfl) (by decide) rfl ?_
  intro T1 X1 e1
  refine own_iloadN (pc' := 5) X1 hx (hb hby d2_4) rfl rfl ?_
  refine own_if_ne (pt := 27) (pf := 8) X1 hx (hb hby d2_5) rfl (by decide) rfl (fun hc5 => absurd (by decide) hc5) (fun hc5 => ?_)
  refine own_aloadN (pc' := 9) X1 hx (hb hby d2_8) rfl rfl rfl ?_
  refine own_ldcH (pc' := 11) (nn := 0) (z := (0 : Int32)) (vs := []) X1 hx hZ hown (own_w hw 14 rfl) hwS e1 hS kz0 hEL (by decide +kernel) H0 ⟨by decide +kernel, by decide +kernel⟩ (by decide) rfl (hb hby d2_9) (by decide +kernel) (by decide) (by decide) (by decide) rfl ?_
  intro la2 T2 h2 kq2 lb2 lk2 X2 e2 E2 hS kz2 hZ hown Eq2 Fc2 Fv2 V2 CR2 Lt2 sf2
  have S2_a := CR2.safe hE.lt S0_a
  have H2 := CR2.1
  have R2 := R0.trans CR2
  have ne_a_la2 := (sf2 a S2_a).1
  have ne_a_lb2 := (sf2 a S2_a).2
  have ne_la2_a := ne_a_la2.symm
  have ne_lb2_a := ne_a_lb2.symm
  have K2 : Keep h0 h2 [a] := (Keep.refl h0 [a]).ext E2
  show own_WP _ _ _ _ _ _ _ (T2.setTop (mkF m 11 #[.val (.ref a), .val (.ref cb), .val (.int (0 : Int32)), .val (.int (0 : Int32)), .val .null, .unset] [(.ref la2), (.ref a)]))
  refine own_getF (pc' := 14) X2 hx hZ hown (host := "") (Or.inl (own_w hw 20 rfl)) Via.refl e2 Fv2 (hb hby d2_11) rfl ?_
  intro T3 X3 e3
  have f4 := (hV.ext E2)
  have f5 := (hE.ext E2)
  refine own_putF (pc' := 17) X3 hx hZ hown (host := "") (Or.inl (own_w hw 20 rfl)) Via.refl e3 f4 f5 (Or.inr ⟨(own_w hw 16 rfl), rfl, hnm⟩) (own_w hw 1 rfl) (ty := (.array .byte)) (by decide +kernel) rfl rfl (hb hby d2_14) rfl ?_
  intro T6 h6 X6 e6 W6
  have H6 := CHv.wr W6 S2_a H2
  have S6_a := Safe.wr (x := a) W6 S2_a H2 S2_a
  have R6 := R2.trans (CHr.wr W6 S2_a H2)
  have kz6 := Nat.le_trans kz2 (Keep.of_wr W6).1
  have Fw6 := f4.same W6
  have N6 := Fr.snoc X6 N0 g_a
  have K6 : Keep h0 h6 [a] := K2.wr W6 (Or.inl (List.mem_of_getElem? (i := 0) rfl))
  refine own_aloadN (pc' := 18) X6 hx (hb hby d2_17) rfl rfl rfl ?_
  refine own_ldcA (pc' := 20) X6 hx hZ hown (own_w hw 14 rfl) Lt2 (hb hby d2_18) rfl ?_
  have f7 := (Fc2.other W6 (Or.inl ne_la2_a))
  refine own_getF (pc' := 23) X6 hx hZ hown (host := "") (Or.inl (own_w hw 21 rfl)) Via.refl e6 f7 (hb hby d2_20) rfl ?_
  intro T8 X8 e8
  have f9 := ((hC.ext E2).other W6 (Or.inr (slot_ne (Or.inr (own_w hw 17 rfl)) (Or.inr (own_w hw 16 rfl)) (by decide) (t := .byte) (t' := (.array .byte)) (by decide +kernel) (by decide +kernel))))
  have f10 := (f5.wr W6)
  refine own_putF (pc' := 26) X8 hx hZ hown (host := "") (Or.inl (own_w hw 21 rfl)) Via.refl e8 f9 f10 (Or.inr ⟨(own_w hw 17 rfl), rfl, hnm⟩) (own_w hw 1 rfl) (ty := .byte) (by decide) rfl rfl (hb hby d2_23) rfl ?_
  intro T11 h11 X11 e11 W11
  have H11 := CHv.wr W11 S6_a H6
  have R11 := R6.trans (CHr.wr W11 S6_a H6)
  have kz11 := Nat.le_trans kz6 (Keep.of_wr W11).1
  have Fw11 := f9.same W11
  have N11 := Fr.snoc X11 N6 g_a
  have K11 : Keep h0 h11 [a] := K6.wr W11 (Or.inl (List.mem_of_getElem? (i := 0) rfl))
  have f12 := (f10.wr W11)
  have f13 := (Fw6.other W11 (Or.inr (slot_ne (Or.inr (own_w hw 16 rfl)) (Or.inr (own_w hw 17 rfl)) (by decide) (t := (.array .byte)) (t' := .byte) (by decide +kernel) (by decide +kernel))))
  have f14 := ((V2.other W6 ne_lb2_a).other W11 ne_lb2_a)
  refine own_ret0 X11 hx (own_FH hZ hEL H11 R11 hS kz11 e11) hlk hret (hb hby d2_26) (by decide) (by decide) ?_
  rw [e11]
  exact ⟨lb2, lk2, rfl, N11, K11, f12, Fw11, f13, f14⟩
theorem ef_con_e1 (m : MethodId) (a : Addr) (cb : Addr) : entryFrame m #[(.ref a), (.ref cb)] 2 = mkF m 0 #[.val (.ref a), .val (.ref cb)] [] := by first | (simp [entryFrame, mkF, argsToLocals, Value.category]; done) | rfl
set_option maxRecDepth 65536 in
set_option maxHeartbeats 4000000 in
theorem con_e1 (l : Launch) (Z : State) (a0 : Array Value) (hw : ∀ d ∈ tables_1, d.before a0 Z = true) (a : Addr) (cb : Addr) (h0 : Heap) (n0 : Nat) (Z0 : n0 ≤ h0.size) (G1 : Int32) (fm : Value) (hG : own_G Z G1 fm) (X00 : own_Old Z n0 h0) (hEL : EW Z a0 consts_1) (hE : Exa Z h0 a "java/lang/String") (hC : Fld Z h0 a "java/lang/String" "coder" "B" (.int (0 : Int32))) (hV : Fld Z h0 a "java/lang/String" "value" "[B" .null) (g_a : n0 ≤ a) (kc : ClassId) (hB : Arv Z h0 cb kc .char (0 : Int32) [] (.int (0 : Int32))) :
    own_ConH l Z consts_1 [a] (⟨"java/lang/String", "<init>", "([C)V"⟩ : MethodName) jdk_42_method_3_code 2 none ({ frames := 2, cells := 2, slots := 4, locals := 32 } : Room) #[(.ref a), (.ref cb)] h0 (fun v h L => ∃ (b : Addr) (kb : ClassId), v = none ∧ Fr n0 L ∧ Keep h0 h [a] ∧ Exa Z h a "java/lang/String" ∧ Fld Z h a "java/lang/String" "coder" "B" (.int (0 : Int32)) ∧ Fld Z h a "java/lang/String" "value" "[B" (.ref b) ∧ Arv Z h b kb .byte (0 : Int32) [] (.int (0 : Int32))) := by
  refine own_ConH_of pn_1 ?_
  intro p e s vm0 m below meth c s₁ X0 hx hby hml hret hlk hnm hown hZ e0 H0 hSx R0 hS
  have hown : vm0.findClass "java/lang/String" = some m.cls := hown
  have hml : c.maxLocals = 2 := hml
  have N0 := Fr.nil n0
  have hwS := own_wS hw
  have kz0 : h0.size ≤ h0.size := Nat.le_refl _
  show own_WP _ _ _ _ _ _ _ (s₁.setTop (entryFrame m #[(.ref a), (.ref cb)] 2))
  rw [ef_con_e1 m a cb]
  have S0_a := hSx a (by simp)
  refine own_aloadN (pc' := 1) X0 hx (hb hby d1_0) rfl rfl rfl ?_
  refine own_aloadN (pc' := 2) X0 hx (hb hby d1_1) rfl rfl rfl ?_
  refine own_iconst (pc' := 3) X0 hx (0 : Int32) (hb hby d1_2) rfl rfl ?_
  refine own_aloadN (pc' := 4) X0 hx (hb hby d1_3) rfl rfl rfl ?_
  refine own_arrlen (pc' := 5) X0 hx hZ e0 hB (hb hby d1_4) rfl ?_
  refine own_anull (pc' := 6) X0 hx (hb hby d1_5) rfl ?_
  refine own_callNH (pc' := 9) (W := 0) (y := (⟨"java/lang/String", "<init>", "([CIILjava/lang/Void;)V"⟩ : MethodName)) X0 hx hZ rfl hown (own_w hw 7 rfl) (own_w hw 8 rfl) (own_w hw 2 rfl) (own_w hw 10 rfl) (by decide) (con_e4 l Z a0 hw a cb _ n0 Z0 G1 fm hG X00 hEL hE hC hV g_a) e0 hEL H0 (fun q hq => by cases List.mem_singleton.mp hq; exact ⟨hE.lt, S0_a⟩) hS kz0 pd28 [(.ref cb), (.int (0 : Int32)), (.int (0 : Int32)), .null] [] rfl rfl rfl (Nat.le_of_eq rfl) (by decide) (by decide) (by rw [hml]; rfl) (hb hby d1_6) (by decide) (by decide) rfl ?_
  intro v1 T1 L1 kq1 X1 hS kz1 hZ hown CR1 q1
  obtain ⟨c1, k1, rfl, M1, K1, E1q, F1a, F1b, V1⟩ := q1
  obtain ⟨h1, e1⟩ : ∃ z, z = T1.heap := ⟨_, rfl⟩
  rw [← e1] at K1 CR1 kz1 E1q F1a F1b V1
  have e1 := e1.symm
  have H1 := CR1.1
  have R1 := R0.trans CR1
  have KK1 : Keep h0 h1 [a] := (Keep.refl h0 [a]).trans K1 (allS (P := fun x => x ∈ [a] ∨ h0.size ≤ x) (Or.inl (List.mem_of_getElem? (i := 0) rfl)) all0)
  have N1 := Fr.app N0 M1
  show own_WP _ _ _ _ _ _ _ (T1.setTop (mkF m 9 #[.val (.ref a), .val (.ref cb)] []))
  refine own_ret0 X1 hx (own_FH hZ hEL H1 R1 hS kz1 e1) hlk hret (hb hby d1_9) (by decide) (by decide) ?_
  rw [e1]
  exact ⟨c1, k1, rfl, N1, KK1, E1q, F1a, F1b, V1⟩
theorem d6_0 : decode prog_3_method_2_code 0 = .ok (.new 17, 3) := by decide +kernel
theorem d6_3 : decode prog_3_method_2_code 3 = .ok (.dup, 1) := by decide +kernel
theorem d6_4 : decode prog_3_method_2_code 4 = .ok (.invokespecial 19, 3) := by decide +kernel
theorem d6_7 : decode prog_3_method_2_code 7 = .ok (.ldc 20, 2) := by decide +kernel
theorem d6_9 : decode prog_3_method_2_code 9 = .ok (.invokevirtual 22, 3) := by decide +kernel
theorem d6_12 : decode prog_3_method_2_code 12 = .ok (.aload_n 0, 1) := by decide +kernel
theorem d6_13 : decode prog_3_method_2_code 13 = .ok (.getfield 13, 3) := by decide +kernel
theorem d6_16 : decode prog_3_method_2_code 16 = .ok (.invokevirtual 26, 3) := by decide +kernel
theorem d6_19 : decode prog_3_method_2_code 19 = .ok (.ldc 29, 2) := by decide +kernel
theorem d6_21 : decode prog_3_method_2_code 21 = .ok (.invokevirtual 22, 3) := by decide +kernel
theorem d6_24 : decode prog_3_method_2_code 24 = .ok (.ldc 33, 2) := by decide +kernel
theorem d6_26 : decode prog_3_method_2_code 26 = .ok (.invokevirtual 22, 3) := by decide +kernel
theorem d6_29 : decode prog_3_method_2_code 29 = .ok (.ldc 35, 2) := by decide +kernel
theorem d6_31 : decode prog_3_method_2_code 31 = .ok (.invokevirtual 22, 3) := by decide +kernel
theorem d6_34 : decode prog_3_method_2_code 34 = .ok (.aload_n 0, 1) := by decide +kernel
theorem d6_35 : decode prog_3_method_2_code 35 = .ok (.getfield 7, 3) := by decide +kernel
theorem d6_38 : decode prog_3_method_2_code 38 = .ok (.invokevirtual 22, 3) := by decide +kernel
theorem d6_41 : decode prog_3_method_2_code 41 = .ok (.invokevirtual 37, 3) := by decide +kernel
theorem d6_44 : decode prog_3_method_2_code 44 = .ok (.areturn, 1) := by decide +kernel
theorem pn_6 : plainFor (⟨"com/example/ossify/ossify/AppendReport$TornTail", "describe", "()Ljava/lang/String;"⟩ : MethodName) = true := plainFor_of_name (by first | (simp [plainName, overriddenIn]; done) | decide +kernel)
theorem ef_con_de (m : MethodId) (a : Addr) : entryFrame m #[(.ref a)] 1 = mkF m 0 #[.val (.ref a)] [] := by first | (simp [entryFrame, mkF, argsToLocals, Value.category]; done) | rfl
theorem pd34 : parseMethodDescriptor "(Ljava/lang/String;)Ljava/lang/StringBuilder;" = some ⟨[(.object "java/lang/String")], some (.object "java/lang/StringBuilder")⟩ := by decide +kernel
theorem pd35 : parseMethodDescriptor "(J)Ljava/lang/StringBuilder;" = some ⟨[.long], some (.object "java/lang/StringBuilder")⟩ := by decide +kernel
theorem pd36 : parseMethodDescriptor "()Ljava/lang/String;" = some ⟨[], some (.object "java/lang/String")⟩ := by decide +kernel
set_option maxRecDepth 65536 in
set_option maxHeartbeats 4000000 in
theorem con_de (l : Launch) (Z : State) (a0 : Array Value) (hw : ∀ d ∈ tables_1, d.before a0 Z = true) (a : Addr) (h0 : Heap) (n0 : Nat) (Z0 : n0 ≤ h0.size) (G1 : Int32) (fm : Value) (hG : own_G Z G1 fm) (X00 : own_Old Z n0 h0) (hEL : EW Z a0 consts_1) (da db : Addr) (ko kt : ClassId) (hD : own_D Z da ko db kt) (xl : Int64) (hE : Exa Z h0 a "com/example/ossify/ossify/AppendReport$TornTail") (r rb : Addr) (krb : ClassId) (zr : Int32) (ws : List Value) (rE : Exa Z h0 r "java/lang/String") (rC : Fld Z h0 r "java/lang/String" "coder" "B" (.int (0 : Int32))) (rV : Fld Z h0 r "java/lang/String" "value" "[B" (.ref rb)) (rA : Arv Z h0 rb krb .byte zr ws (.int (0 : Int32))) (hwsl : ws.length = zr.toNatClampNeg) (hzr : 0 ≤ zr.toInt ∧ zr.toInt ≤ 3) (hLi : Fld Z h0 a "com/example/ossify/ossify/AppendReport$TornTail" "bytes" "J" (.long xl)) (hRe : Fld Z h0 a "com/example/ossify/ossify/AppendReport$TornTail" "segment" "Ljava/lang/String;" (.ref r)) :
    own_ConH l Z consts_1 [] (⟨"com/example/ossify/ossify/AppendReport$TornTail", "describe", "()Ljava/lang/String;"⟩ : MethodName) prog_3_method_2_code 1 (some (.object "java/lang/String")) ({ frames := 6, cells := 20, slots := 1700, locals := 118 } : Room) #[(.ref a)] h0 (fun v h L => ∃ (t b : Addr) (kb : ClassId) (cn : Int32) (us : List Value) (kk : Nat) (ng : Int32), v = some (.ref t) ∧ Fr n0 L ∧ Keep h0 h [] ∧ h0.size ≤ t ∧ h0.size ≤ b ∧ Exa Z h t "java/lang/String" ∧ Fld Z h t "java/lang/String" "coder" "B" (.int (0 : Int32)) ∧ Fld Z h t "java/lang/String" "value" "[B" (.ref b) ∧ Arv Z h b kb .byte cn us (.int (0 : Int32)) ∧ own_dgs xl.toInt.natAbs kk ∧ ((xl.toInt < 0 ∧ ng = 1) ∨ (¬ xl.toInt < 0 ∧ ng = 0)) ∧ cn.toInt = 42 + (kk : Int) + ng.toInt + zr.toInt ∧ us = [.int (114 : Int32), .int (101 : Int32), .int (109 : Int32), .int (111 : Int32), .int (118 : Int32), .int (101 : Int32), .int (100 : Int32), .int (32 : Int32), .int (116 : Int32), .int (111 : Int32), .int (114 : Int32), .int (110 : Int32), .int (32 : Int32), .int (116 : Int32), .int (97 : Int32), .int (105 : Int32), .int (108 : Int32), .int (32 : Int32), .int (111 : Int32), .int (102 : Int32), .int (32 : Int32)] ++ (own_num xl.toInt.natAbs kk ng ++ ([.int (32 : Int32), .int (98 : Int32), .int (121 : Int32), .int (116 : Int32), .int (101 : Int32), .int (115 : Int32), .int (32 : Int32), .int (102 : Int32), .int (114 : Int32), .int (111 : Int32), .int (109 : Int32), .int (32 : Int32)] ++ ([.int (115 : Int32), .int (101 : Int32), .int (103 : Int32), .int (109 : Int32), .int (101 : Int32), .int (110 : Int32), .int (116 : Int32), .int (115 : Int32)] ++ ([.int (47 : Int32)] ++ ws))))) := by
  refine own_ConH_of pn_6 ?_
  intro p e s vm0 m below meth c s₁ X0 hx hby hml hret hlk hnm hown hZ e0 H0 hSx R0 hS
  have hown : vm0.findClass "com/example/ossify/ossify/AppendReport$TornTail" = some m.cls := hown
  have hml : c.maxLocals = 1 := hml
  have N0 := Fr.nil n0
  have hwS := own_wS hw
  have kz0 : h0.size ≤ h0.size := Nat.le_refl _
  show own_WP _ _ _ _ _ _ _ (s₁.setTop (entryFrame m #[(.ref a)] 1))
  rw [ef_con_de m a]
  refine own_new (pc' := 3) X0 hx hZ hown (own_w hw 43 rfl) (own_w hw 44 rfl) (own_w hw 45 rfl) e0 (hb hby d6_0) (by decide) (by decide) rfl ?_
  intro T1 h1 b1 g1 X1 e1 E1 A1 D1
  have ne_a_b1 : a ≠ b1 := Nat.ne_of_lt (Nat.lt_of_lt_of_le hE.lt (Nat.le_of_eq g1.symm))
  have ne_r_b1 : r ≠ b1 := Nat.ne_of_lt (Nat.lt_of_lt_of_le rE.lt (Nat.le_of_eq g1.symm))
  have ne_b1_r := ne_r_b1.symm
  have ne_rb_b1 : rb ≠ b1 := Nat.ne_of_lt (Nat.lt_of_lt_of_le rA.lt (Nat.le_of_eq g1.symm))
  have g_b1 : n0 ≤ b1 := Nat.le_trans Z0 (Nat.le_of_eq g1.symm)
  have sz_b1 : h0.size ≤ b1 := Nat.le_trans (Keep.refl h0 []).1 (Nat.le_of_eq g1.symm)
  have o1 : own_Old Z n0 h1 := X00.ext E1
  have H1 := CHv.ext E1 H0
  have S1_b1 := Safe.ext (x := b1) E1 H0 (Safe.new (Nat.le_of_eq g1.symm))
  have R1 := R0.trans (CHr.ext E1 H0)
  have kz1 := Nat.le_trans kz0 E1.1
  have z1 : n0 ≤ h1.size := Nat.le_trans Z0 E1.1
  have K1 : Keep h0 h1 [] := (Keep.refl h0 []).ext E1
  have F1_value : Fld Z h1 b1 "java/lang/AbstractStringBuilder" "value" "[B" .null := D1 (Or.inl (own_w hw 58 rfl)) (ty := (.array .byte)) (by decide +kernel)
  have F1_coder : Fld Z h1 b1 "java/lang/AbstractStringBuilder" "coder" "B" (.int (0 : Int32)) := D1 (Or.inl (own_w hw 60 rfl)) (ty := .byte) (by decide)
  have F1_count : Fld Z h1 b1 "java/lang/AbstractStringBuilder" "count" "I" (.int (0 : Int32)) := D1 (Or.inl (own_w hw 84 rfl)) (ty := .int) (by decide)
  refine own_dup (pc' := 4) X1 hx (hb hby d6_3) rfl rfl ?_
  refine own_callN (pc' := 7) (W := 1) (y := (⟨"java/lang/StringBuilder", "<init>", "()V"⟩ : MethodName)) X1 hx hZ rfl hown (own_w hw 46 rfl) (own_w hw 47 rfl) (own_w hw 45 rfl) (own_w hw 48 rfl) (by decide) (con_si l Z a0 hw b1 _ n0 z1 G1 fm hG o1 A1 F1_value F1_coder F1_count g_b1) e1 pd33 b1 [] [(.ref b1)] rfl rfl rfl (Nat.le_of_eq rfl) (by decide) (by decide) (by rw [hml]; rfl) (hb hby d6_4) (by decide) (by decide) rfl ?_
  intro v2 T2 L2 X2 q2
  obtain ⟨c2, k2, rfl, M2, K2, s2, E2q, F2a, F2b, F2c, V2, Bk2⟩ := q2
  have f3 := (hE.ext E1)
  have ne_a_c2 : a ≠ c2 := Nat.ne_of_lt (Nat.lt_of_lt_of_le f3.lt s2)
  have ne_b1_c2 : b1 ≠ c2 := Nat.ne_of_lt (Nat.lt_of_lt_of_le A1.lt s2)
  have ne_c2_b1 := ne_b1_c2.symm
  have f4 := (rE.ext E1)
  have ne_r_c2 : r ≠ c2 := Nat.ne_of_lt (Nat.lt_of_lt_of_le f4.lt s2)
  have f5 := (rA.ext E1)
  have ne_rb_c2 : rb ≠ c2 := Nat.ne_of_lt (Nat.lt_of_lt_of_le f5.lt s2)
  have g_c2 : n0 ≤ c2 := Nat.le_trans z1 s2
  have sz_c2 : h0.size ≤ c2 := Nat.le_trans K1.1 s2
  obtain ⟨h2, e2⟩ : ∃ z, z = T2.heap := ⟨_, rfl⟩
  rw [← e2] at K2 E2q F2a F2b F2c V2
  have e2 := e2.symm
  have o2 : own_Old Z n0 h2 := o1.keep K2 (allS g_b1 all0)
  have H2 := CHv.keep K2 (allS S1_b1 all0) H1
  have S2_b1 := Safe.keep (x := b1) K2 (allS S1_b1 all0) H1 S1_b1
  have S2_c2 := Safe.keep (x := c2) K2 (allS S1_b1 all0) H1 (Safe.new s2)
  have R2 := R1.trans (CHr.keep K2 (allS S1_b1 all0) H1)
  have kz2 := Nat.le_trans kz1 K2.1
  have z2 : n0 ≤ h2.size := Nat.le_trans z1 K2.1
  have KK2 : Keep h0 h2 [] := K1.trans K2 (allS (P := fun x => x ∈ [] ∨ h0.size ≤ x) (Or.inr sz_b1) all0)
  have N2 := Fr.app N0 M2
  show own_WP _ _ _ _ _ _ _ (T2.setTop (mkF m 7 #[.val (.ref a)] [(.ref b1)]))
  refine own_ldcH (pc' := 9) (nn := 84) (z := (21 : Int32)) (vs := [.int (114 : Int32), .int (101 : Int32), .int (109 : Int32), .int (111 : Int32), .int (118 : Int32), .int (101 : Int32), .int (100 : Int32), .int (32 : Int32), .int (116 : Int32), .int (111 : Int32), .int (114 : Int32), .int (110 : Int32), .int (32 : Int32), .int (116 : Int32), .int (97 : Int32), .int (105 : Int32), .int (108 : Int32), .int (32 : Int32), .int (111 : Int32), .int (102 : Int32), .int (32 : Int32)]) X2 hx hZ hown (own_w hw 61 rfl) hwS e2 hS kz2 hEL (by decide +kernel) H2 ⟨by decide +kernel, by decide +kernel⟩ (by decide) rfl (hb hby d6_7) (by decide +kernel) (by decide) (by decide) (by decide) rfl ?_
  intro la6 T6 h6 kq6 lb6 lk6 X6 e6 E6 hS kz6 hZ hown Eq6 Fc6 Fv6 V6 CR6 Lt6 sf6
  have S6_b1 := CR6.safe E2q.lt S2_b1
  have S6_c2 := CR6.safe V2.lt S2_c2
  have H6 := CR6.1
  have R6 := R2.trans CR6
  have ne_b1_la6 := (sf6 b1 S6_b1).1
  have ne_b1_lb6 := (sf6 b1 S6_b1).2
  have ne_la6_b1 := ne_b1_la6.symm
  have ne_lb6_b1 := ne_b1_lb6.symm
  have ne_c2_la6 := (sf6 c2 S6_c2).1
  have ne_c2_lb6 := (sf6 c2 S6_c2).2
  have ne_la6_c2 := ne_c2_la6.symm
  have ne_lb6_c2 := ne_c2_lb6.symm
  have o6 : own_Old Z n0 h6 := o2.ext E6
  have z6 : n0 ≤ h6.size := Nat.le_trans z2 E6.1
  have K6 : Keep h0 h6 [] := KK2.ext E6
  show own_WP _ _ _ _ _ _ _ (T6.setTop (mkF m 9 #[.val (.ref a)] [(.ref la6), (.ref b1)]))
  have f8 := (E2q.ext E6)
  have f9 := (F2a.ext E6)
  have f10 := (F2b.ext E6)
  have f11 := (F2c.ext E6)
  have f12 := (V2.ext E6)
  refine own_callV (pc' := 12) (W := 0) (y := (⟨"java/lang/StringBuilder", "append", "(Ljava/lang/String;)Ljava/lang/StringBuilder;"⟩ : MethodName)) (z := (⟨"java/lang/StringBuilder", "append", "(Ljava/lang/String;)Ljava/lang/StringBuilder;"⟩ : MethodName)) X6 hx hZ hown (own_w hw 62 rfl) (own_w hw 63 rfl) (notFace_of_selects (args := #[]) (mvT hZ (own_w hw 65 rfl))) (own_w hw 65 rfl) (own_w hw 64 rfl) (own_w hw 45 rfl) (own_w hw 66 rfl) (by decide) f8 (con_ss l Z a0 hw b1 la6 _ n0 z6 G1 fm hG o6 c2 k2 (16 : Int32) (0 : Int32) (List.replicate 16 (.int (0 : Int32))) f8 f9 f10 f11 f12 Bk2 lb6 lk6 (21 : Int32) _ Eq6 Fc6 Fv6 V6 ne_b1_c2 ne_c2_b1 g_b1 g_c2 (by decide) (by decide) rfl (by decide) ne_la6_c2 ne_lb6_c2 ne_la6_b1 ne_lb6_b1 ne_b1_la6) e6 pd34 [(.ref la6)] [] rfl rfl rfl (Nat.le_of_eq rfl) (by decide) (by decide) (by rw [hml]; rfl) (hb hby d6_9) (by decide) (by decide) rfl ?_
  intro v7 T7 L7 X7 q7
  obtain ⟨c7, k7, cp7, ct7, u7, rfl, M7, K7, hor7, g_c7, nsb7, E7q, F7a, F7b, F7c, V7, Bk7, lu7, hcp7, hct7, tu7⟩ := q7
  have KP7 := K6
  have f13 := ((f3.keep K2).ext E6)
  have ne_a_c7 : a ≠ c7 := own_ne2 ne_a_c2 f13.lt hor7
  have ne_b1_c7 : b1 ≠ c7 := own_ne2 ne_b1_c2 f8.lt hor7
  have ne_c7_b1 := ne_b1_c7.symm
  have f14 := ((f4.keep K2).ext E6)
  have ne_r_c7 : r ≠ c7 := own_ne2 ne_r_c2 f14.lt hor7
  have f15 := ((f5.keep K2 (ninS ne_rb_b1 nin0)).ext E6)
  have ne_rb_c7 : rb ≠ c7 := own_ne2 ne_rb_c2 f15.lt hor7
  obtain ⟨h7, e7⟩ : ∃ z, z = T7.heap := ⟨_, rfl⟩
  rw [← e7] at K7 E7q F7a F7b F7c V7
  have e7 := e7.symm
  have o7 : own_Old Z n0 h7 := o6.keep K7 (allS g_b1 (allS g_c2 all0))
  have H7 := CHv.keep K7 (allS S6_b1 (allS S6_c2 all0)) H6
  have S7_b1 := Safe.keep (x := b1) K7 (allS S6_b1 (allS S6_c2 all0)) H6 S6_b1
  have S7_c7 := Safe.keep (x := c7) K7 (allS S6_b1 (allS S6_c2 all0)) H6 (hor7.elim (fun e => by rw [e]; exact S6_c2) (fun q => Safe.new q))
  have R7 := R6.trans (CHr.keep K7 (allS S6_b1 (allS S6_c2 all0)) H6)
  have kz7 := Nat.le_trans kz6 K7.1
  have z7 : n0 ≤ h7.size := Nat.le_trans z6 K7.1
  have KK7 : Keep h0 h7 [] := K6.trans K7 (allS (P := fun x => x ∈ [] ∨ h0.size ≤ x) (Or.inr sz_b1) (allS (P := fun x => x ∈ [] ∨ h0.size ≤ x) (Or.inr sz_c2) all0))
  have N7 := Fr.app N2 M7
  have sz_c7 : h0.size ≤ c7 := hor7.elim (fun e => e ▸ sz_c2) (fun q => Nat.le_trans KP7.1 q)
  have b7q : ct7.toInt = 21 ∧ cp7.toInt = 34 := ⟨by rw [hct7]; rfl, by rw [hcp7]; rfl⟩
  have n7q := own_nat (x := ct7) (by omega)
  have t7q : u7.take ct7.toNatClampNeg = [.int (114 : Int32), .int (101 : Int32), .int (109 : Int32), .int (111 : Int32), .int (118 : Int32), .int (101 : Int32), .int (100 : Int32), .int (32 : Int32), .int (116 : Int32), .int (111 : Int32), .int (114 : Int32), .int (110 : Int32), .int (32 : Int32), .int (116 : Int32), .int (97 : Int32), .int (105 : Int32), .int (108 : Int32), .int (32 : Int32), .int (111 : Int32), .int (102 : Int32), .int (32 : Int32)] := by rw [show ct7.toNatClampNeg = (0 : Int32).toNatClampNeg + (21 : Int32).toNatClampNeg by show _ = 0 + 21; omega, tu7]; rfl
  show own_WP _ _ _ _ _ _ _ (T7.setTop (mkF m 12 #[.val (.ref a)] [(.ref b1)]))
  refine own_aloadN (pc' := 13) X7 hx (hb hby d6_12) rfl rfl rfl ?_
  have f16 := ((((hLi.ext E1).keep K2 (ninS ne_a_b1 nin0)).ext E6).keep K7 (ninS ne_a_b1 (ninS ne_a_c2 nin0)))
  refine own_getF (pc' := 16) X7 hx hZ hown (host := "") (Or.inl (own_w hw 36 rfl)) Via.refl e7 f16 (hb hby d6_13) rfl ?_
  intro T17 X17 e17
  refine own_callV (pc' := 19) (W := 0) (y := (⟨"java/lang/StringBuilder", "append", "(J)Ljava/lang/StringBuilder;"⟩ : MethodName)) (z := (⟨"java/lang/StringBuilder", "append", "(J)Ljava/lang/StringBuilder;"⟩ : MethodName)) X17 hx hZ hown (own_w hw 133 rfl) (own_w hw 134 rfl) (notFace_of_selects (args := #[]) (mvT hZ (own_w hw 136 rfl))) (own_w hw 136 rfl) (own_w hw 135 rfl) (own_w hw 45 rfl) (own_w hw 137 rfl) (by decide) E7q (con_sj l Z a0 hw b1 xl _ n0 z7 G1 fm hG o7 c7 k7 cp7 ct7 u7 E7q F7a F7b F7c V7 Bk7 ne_b1_c7 ne_c7_b1 g_b1 g_c7 (by omega) lu7 da db ko kt hD) e17 pd35 [(.long xl)] [] rfl rfl rfl (Nat.le_of_eq rfl) (by decide) (by decide) (by rw [hml]; rfl) (hb hby d6_16) (by decide) (by decide) rfl ?_
  intro v18 T18 L18 X18 q18
  obtain ⟨c18, k18, cp18, ct18, u18, kk, ng, rfl, M18, K18, hor18, g_c18, nsb18, E18q, F18a, F18b, F18c, V18, Bk18, lu18, hcp18, hkk, hngx, hct18, tu18⟩ := q18
  have KP18 := KK7
  have f19 := (f13.keep K7)
  have ne_a_c18 : a ≠ c18 := own_ne2 ne_a_c7 f19.lt hor18
  have ne_b1_c18 : b1 ≠ c18 := own_ne2 ne_b1_c7 E7q.lt hor18
  have ne_c18_b1 := ne_b1_c18.symm
  have f22 := (f14.keep K7)
  have ne_r_c18 : r ≠ c18 := own_ne2 ne_r_c7 f22.lt hor18
  have f23 := (f15.keep K7 (ninS ne_rb_b1 (ninS ne_rb_c2 nin0)))
  have ne_rb_c18 : rb ≠ c18 := own_ne2 ne_rb_c7 f23.lt hor18
  obtain ⟨h18, e18⟩ : ∃ z, z = T18.heap := ⟨_, rfl⟩
  rw [← e18] at K18 E18q F18a F18b F18c V18
  have e18 := e18.symm
  have o18 : own_Old Z n0 h18 := o7.keep K18 (allS g_b1 (allS g_c7 all0))
  have H18 := CHv.keep K18 (allS S7_b1 (allS S7_c7 all0)) H7
  have S18_b1 := Safe.keep (x := b1) K18 (allS S7_b1 (allS S7_c7 all0)) H7 S7_b1
  have S18_c18 := Safe.keep (x := c18) K18 (allS S7_b1 (allS S7_c7 all0)) H7 (hor18.elim (fun e => by rw [e]; exact S7_c7) (fun q => Safe.new q))
  have R18 := R7.trans (CHr.keep K18 (allS S7_b1 (allS S7_c7 all0)) H7)
  have kz18 := Nat.le_trans kz7 K18.1
  have z18 : n0 ≤ h18.size := Nat.le_trans z7 K18.1
  have KK18 : Keep h0 h18 [] := KK7.trans K18 (allS (P := fun x => x ∈ [] ∨ h0.size ≤ x) (Or.inr sz_b1) (allS (P := fun x => x ∈ [] ∨ h0.size ≤ x) (Or.inr sz_c7) all0))
  have N18 := Fr.app N7 M18
  have sz_c18 : h0.size ≤ c18 := hor18.elim (fun e => e ▸ sz_c7) (fun q => Nat.le_trans KP18.1 q)
  have hk19 := own_dgs_le hkk (by have := rng64 xl; omega)
  have hk1 := hkk.1
  have hngt : ng.toInt = 0 ∨ ng.toInt = 1 := hngx.elim (fun q => Or.inr (by rw [q.2]; rfl)) (fun q => Or.inl (by rw [q.2]; rfl))
  have b18q : ct18.toInt ≤ cp18.toInt ∧ (cp18.toInt = 34 ∨ cp18.toInt = 70) := by rw [hcp18]; unfold own_cap; split <;> omega
  have n18q := own_nat (x := ct18) (by omega)
  have t18q := tu18
  rw [t7q] at t18q
  show own_WP _ _ _ _ _ _ _ (T18.setTop (mkF m 19 #[.val (.ref a)] [(.ref b1)]))
  refine own_ldcH (pc' := 21) (nn := 48) (z := (12 : Int32)) (vs := [.int (32 : Int32), .int (98 : Int32), .int (121 : Int32), .int (116 : Int32), .int (101 : Int32), .int (115 : Int32), .int (32 : Int32), .int (102 : Int32), .int (114 : Int32), .int (111 : Int32), .int (109 : Int32), .int (32 : Int32)]) X18 hx hZ hown (own_w hw 158 rfl) hwS e18 hS kz18 hEL (by decide +kernel) H18 ⟨by decide +kernel, by decide +kernel⟩ (by decide) rfl (hb hby d6_19) (by decide +kernel) (by decide) (by decide) (by decide) rfl ?_
  intro la24 T24 h24 kq24 lb24 lk24 X24 e24 E24 hS kz24 hZ hown Eq24 Fc24 Fv24 V24 CR24 Lt24 sf24
  have S24_b1 := CR24.safe E18q.lt S18_b1
  have S24_c18 := CR24.safe V18.lt S18_c18
  have H24 := CR24.1
  have R24 := R18.trans CR24
  have ne_b1_la24 := (sf24 b1 S24_b1).1
  have ne_b1_lb24 := (sf24 b1 S24_b1).2
  have ne_la24_b1 := ne_b1_la24.symm
  have ne_lb24_b1 := ne_b1_lb24.symm
  have ne_c18_la24 := (sf24 c18 S24_c18).1
  have ne_c18_lb24 := (sf24 c18 S24_c18).2
  have ne_la24_c18 := ne_c18_la24.symm
  have ne_lb24_c18 := ne_c18_lb24.symm
  have o24 : own_Old Z n0 h24 := o18.ext E24
  have z24 : n0 ≤ h24.size := Nat.le_trans z18 E24.1
  have K24 : Keep h0 h24 [] := KK18.ext E24
  show own_WP _ _ _ _ _ _ _ (T24.setTop (mkF m 21 #[.val (.ref a)] [(.ref la24), (.ref b1)]))
  have f26 := (E18q.ext E24)
  have f27 := (F18a.ext E24)
  have f28 := (F18b.ext E24)
  have f29 := (F18c.ext E24)
  have f30 := (V18.ext E24)
  refine own_callV (pc' := 24) (W := 0) (y := (⟨"java/lang/StringBuilder", "append", "(Ljava/lang/String;)Ljava/lang/StringBuilder;"⟩ : MethodName)) (z := (⟨"java/lang/StringBuilder", "append", "(Ljava/lang/String;)Ljava/lang/StringBuilder;"⟩ : MethodName)) X24 hx hZ hown (own_w hw 62 rfl) (own_w hw 63 rfl) (notFace_of_selects (args := #[]) (mvT hZ (own_w hw 65 rfl))) (own_w hw 65 rfl) (own_w hw 64 rfl) (own_w hw 45 rfl) (own_w hw 66 rfl) (by decide) f26 (con_ss l Z a0 hw b1 la24 _ n0 z24 G1 fm hG o24 c18 k18 cp18 ct18 u18 f26 f27 f28 f29 f30 Bk18 lb24 lk24 (12 : Int32) _ Eq24 Fc24 Fv24 V24 ne_b1_c18 ne_c18_b1 g_b1 g_c18 (by omega) lu18 rfl (by decide) ne_la24_c18 ne_lb24_c18 ne_la24_b1 ne_lb24_b1 ne_b1_la24) e24 pd34 [(.ref la24)] [] rfl rfl rfl (Nat.le_of_eq rfl) (by decide) (by decide) (by rw [hml]; rfl) (hb hby d6_21) (by decide) (by decide) rfl ?_
  intro v25 T25 L25 X25 q25
  obtain ⟨c25, k25, cp25, ct25, u25, rfl, M25, K25, hor25, g_c25, nsb25, E25q, F25a, F25b, F25c, V25, Bk25, lu25, hcp25, hct25, tu25⟩ := q25
  have KP25 := K24
  have f31 := ((f19.keep K18).ext E24)
  have ne_a_c25 : a ≠ c25 := own_ne2 ne_a_c18 f31.lt hor25
  have ne_b1_c25 : b1 ≠ c25 := own_ne2 ne_b1_c18 f26.lt hor25
  have ne_c25_b1 := ne_b1_c25.symm
  have f34 := ((f22.keep K18).ext E24)
  have ne_r_c25 : r ≠ c25 := own_ne2 ne_r_c18 f34.lt hor25
  have f35 := ((f23.keep K18 (ninS ne_rb_b1 (ninS ne_rb_c7 nin0))).ext E24)
  have ne_rb_c25 : rb ≠ c25 := own_ne2 ne_rb_c18 f35.lt hor25
  obtain ⟨h25, e25⟩ : ∃ z, z = T25.heap := ⟨_, rfl⟩
  rw [← e25] at K25 E25q F25a F25b F25c V25
  have e25 := e25.symm
  have o25 : own_Old Z n0 h25 := o24.keep K25 (allS g_b1 (allS g_c18 all0))
  have H25 := CHv.keep K25 (allS S24_b1 (allS S24_c18 all0)) H24
  have S25_b1 := Safe.keep (x := b1) K25 (allS S24_b1 (allS S24_c18 all0)) H24 S24_b1
  have S25_c25 := Safe.keep (x := c25) K25 (allS S24_b1 (allS S24_c18 all0)) H24 (hor25.elim (fun e => by rw [e]; exact S24_c18) (fun q => Safe.new q))
  have R25 := R24.trans (CHr.keep K25 (allS S24_b1 (allS S24_c18 all0)) H24)
  have kz25 := Nat.le_trans kz24 K25.1
  have z25 : n0 ≤ h25.size := Nat.le_trans z24 K25.1
  have KK25 : Keep h0 h25 [] := K24.trans K25 (allS (P := fun x => x ∈ [] ∨ h0.size ≤ x) (Or.inr sz_b1) (allS (P := fun x => x ∈ [] ∨ h0.size ≤ x) (Or.inr sz_c18) all0))
  have N25 := Fr.app N18 M25
  have sz_c25 : h0.size ≤ c25 := hor25.elim (fun e => e ▸ sz_c18) (fun q => Nat.le_trans KP25.1 q)
  have v25q : ct25.toInt = ct18.toInt + 12 := hct25
  have b25q : ct25.toInt ≤ cp25.toInt ∧ (cp25.toInt = 34 ∨ cp25.toInt = 70) := by rw [hcp25]; have e2 : (12 : Int32).toInt = 12 := rfl; unfold own_cap; split <;> omega
  have n25q := own_nat (x := ct25) (by omega)
  have x25q := own_nat (x := (12 : Int32)) (by decide)
  have t25q : u25.take ct25.toNatClampNeg = (([.int (114 : Int32), .int (101 : Int32), .int (109 : Int32), .int (111 : Int32), .int (118 : Int32), .int (101 : Int32), .int (100 : Int32), .int (32 : Int32), .int (116 : Int32), .int (111 : Int32), .int (114 : Int32), .int (110 : Int32), .int (32 : Int32), .int (116 : Int32), .int (97 : Int32), .int (105 : Int32), .int (108 : Int32), .int (32 : Int32), .int (111 : Int32), .int (102 : Int32), .int (32 : Int32)] ++ own_num xl.toInt.natAbs kk ng) ++ [.int (32 : Int32), .int (98 : Int32), .int (121 : Int32), .int (116 : Int32), .int (101 : Int32), .int (115 : Int32), .int (32 : Int32), .int (102 : Int32), .int (114 : Int32), .int (111 : Int32), .int (109 : Int32), .int (32 : Int32)]) := by rw [show ct25.toNatClampNeg = ct18.toNatClampNeg + (12 : Int32).toNatClampNeg by have e2 : (12 : Int32).toInt = 12 := rfl; omega, tu25, t18q]
  show own_WP _ _ _ _ _ _ _ (T25.setTop (mkF m 24 #[.val (.ref a)] [(.ref b1)]))
  refine own_ldcH (pc' := 26) (nn := 32) (z := (8 : Int32)) (vs := [.int (115 : Int32), .int (101 : Int32), .int (103 : Int32), .int (109 : Int32), .int (101 : Int32), .int (110 : Int32), .int (116 : Int32), .int (115 : Int32)]) X25 hx hZ hown (own_w hw 159 rfl) hwS e25 hS kz25 hEL (by decide +kernel) H25 ⟨by decide +kernel, by decide +kernel⟩ (by decide) rfl (hb hby d6_24) (by decide +kernel) (by decide) (by decide) (by decide) rfl ?_
  intro la36 T36 h36 kq36 lb36 lk36 X36 e36 E36 hS kz36 hZ hown Eq36 Fc36 Fv36 V36 CR36 Lt36 sf36
  have S36_b1 := CR36.safe E25q.lt S25_b1
  have S36_c25 := CR36.safe V25.lt S25_c25
  have H36 := CR36.1
  have R36 := R25.trans CR36
  have ne_b1_la36 := (sf36 b1 S36_b1).1
  have ne_b1_lb36 := (sf36 b1 S36_b1).2
  have ne_la36_b1 := ne_b1_la36.symm
  have ne_lb36_b1 := ne_b1_lb36.symm
  have ne_c25_la36 := (sf36 c25 S36_c25).1
  have ne_c25_lb36 := (sf36 c25 S36_c25).2
  have ne_la36_c25 := ne_c25_la36.symm
  have ne_lb36_c25 := ne_c25_lb36.symm
  have o36 : own_Old Z n0 h36 := o25.ext E36
  have z36 : n0 ≤ h36.size := Nat.le_trans z25 E36.1
  have K36 : Keep h0 h36 [] := KK25.ext E36
  show own_WP _ _ _ _ _ _ _ (T36.setTop (mkF m 26 #[.val (.ref a)] [(.ref la36), (.ref b1)]))
  have f38 := (E25q.ext E36)
  have f39 := (F25a.ext E36)
  have f40 := (F25b.ext E36)
  have f41 := (F25c.ext E36)
  have f42 := (V25.ext E36)
  refine own_callV (pc' := 29) (W := 0) (y := (⟨"java/lang/StringBuilder", "append", "(Ljava/lang/String;)Ljava/lang/StringBuilder;"⟩ : MethodName)) (z := (⟨"java/lang/StringBuilder", "append", "(Ljava/lang/String;)Ljava/lang/StringBuilder;"⟩ : MethodName)) X36 hx hZ hown (own_w hw 62 rfl) (own_w hw 63 rfl) (notFace_of_selects (args := #[]) (mvT hZ (own_w hw 65 rfl))) (own_w hw 65 rfl) (own_w hw 64 rfl) (own_w hw 45 rfl) (own_w hw 66 rfl) (by decide) f38 (con_ss l Z a0 hw b1 la36 _ n0 z36 G1 fm hG o36 c25 k25 cp25 ct25 u25 f38 f39 f40 f41 f42 Bk25 lb36 lk36 (8 : Int32) _ Eq36 Fc36 Fv36 V36 ne_b1_c25 ne_c25_b1 g_b1 g_c25 (by omega) lu25 rfl (by decide) ne_la36_c25 ne_lb36_c25 ne_la36_b1 ne_lb36_b1 ne_b1_la36) e36 pd34 [(.ref la36)] [] rfl rfl rfl (Nat.le_of_eq rfl) (by decide) (by decide) (by rw [hml]; rfl) (hb hby d6_26) (by decide) (by decide) rfl ?_
  intro v37 T37 L37 X37 q37
  obtain ⟨c37, k37, cp37, ct37, u37, rfl, M37, K37, hor37, g_c37, nsb37, E37q, F37a, F37b, F37c, V37, Bk37, lu37, hcp37, hct37, tu37⟩ := q37
  have KP37 := K36
  have f43 := ((f31.keep K25).ext E36)
  have ne_a_c37 : a ≠ c37 := own_ne2 ne_a_c25 f43.lt hor37
  have ne_b1_c37 : b1 ≠ c37 := own_ne2 ne_b1_c25 f38.lt hor37
  have ne_c37_b1 := ne_b1_c37.symm
  have f48 := ((f34.keep K25).ext E36)
  have ne_r_c37 : r ≠ c37 := own_ne2 ne_r_c25 f48.lt hor37
  have f49 := ((f35.keep K25 (ninS ne_rb_b1 (ninS ne_rb_c18 nin0))).ext E36)
  have ne_rb_c37 : rb ≠ c37 := own_ne2 ne_rb_c25 f49.lt hor37
  obtain ⟨h37, e37⟩ : ∃ z, z = T37.heap := ⟨_, rfl⟩
  rw [← e37] at K37 E37q F37a F37b F37c V37
  have e37 := e37.symm
  have o37 : own_Old Z n0 h37 := o36.keep K37 (allS g_b1 (allS g_c25 all0))
  have H37 := CHv.keep K37 (allS S36_b1 (allS S36_c25 all0)) H36
  have S37_b1 := Safe.keep (x := b1) K37 (allS S36_b1 (allS S36_c25 all0)) H36 S36_b1
  have S37_c37 := Safe.keep (x := c37) K37 (allS S36_b1 (allS S36_c25 all0)) H36 (hor37.elim (fun e => by rw [e]; exact S36_c25) (fun q => Safe.new q))
  have R37 := R36.trans (CHr.keep K37 (allS S36_b1 (allS S36_c25 all0)) H36)
  have kz37 := Nat.le_trans kz36 K37.1
  have z37 : n0 ≤ h37.size := Nat.le_trans z36 K37.1
  have KK37 : Keep h0 h37 [] := K36.trans K37 (allS (P := fun x => x ∈ [] ∨ h0.size ≤ x) (Or.inr sz_b1) (allS (P := fun x => x ∈ [] ∨ h0.size ≤ x) (Or.inr sz_c25) all0))
  have N37 := Fr.app N25 M37
  have sz_c37 : h0.size ≤ c37 := hor37.elim (fun e => e ▸ sz_c25) (fun q => Nat.le_trans KP37.1 q)
  have v37q : ct37.toInt = ct25.toInt + 8 := hct37
  have b37q : ct37.toInt ≤ cp37.toInt ∧ cp37.toInt = 70 := by rw [hcp37]; have e2 : (8 : Int32).toInt = 8 := rfl; unfold own_cap; split <;> omega
  have n37q := own_nat (x := ct37) (by omega)
  have x37q := own_nat (x := (8 : Int32)) (by decide)
  have t37q : u37.take ct37.toNatClampNeg = ((([.int (114 : Int32), .int (101 : Int32), .int (109 : Int32), .int (111 : Int32), .int (118 : Int32), .int (101 : Int32), .int (100 : Int32), .int (32 : Int32), .int (116 : Int32), .int (111 : Int32), .int (114 : Int32), .int (110 : Int32), .int (32 : Int32), .int (116 : Int32), .int (97 : Int32), .int (105 : Int32), .int (108 : Int32), .int (32 : Int32), .int (111 : Int32), .int (102 : Int32), .int (32 : Int32)] ++ own_num xl.toInt.natAbs kk ng) ++ [.int (32 : Int32), .int (98 : Int32), .int (121 : Int32), .int (116 : Int32), .int (101 : Int32), .int (115 : Int32), .int (32 : Int32), .int (102 : Int32), .int (114 : Int32), .int (111 : Int32), .int (109 : Int32), .int (32 : Int32)]) ++ [.int (115 : Int32), .int (101 : Int32), .int (103 : Int32), .int (109 : Int32), .int (101 : Int32), .int (110 : Int32), .int (116 : Int32), .int (115 : Int32)]) := by rw [show ct37.toNatClampNeg = ct25.toNatClampNeg + (8 : Int32).toNatClampNeg by have e2 : (8 : Int32).toInt = 8 := rfl; omega, tu37, t25q]
  show own_WP _ _ _ _ _ _ _ (T37.setTop (mkF m 29 #[.val (.ref a)] [(.ref b1)]))
  refine own_ldcH (pc' := 31) (nn := 4) (z := (1 : Int32)) (vs := [.int (47 : Int32)]) X37 hx hZ hown (own_w hw 160 rfl) hwS e37 hS kz37 hEL (by decide +kernel) H37 ⟨by decide +kernel, by decide +kernel⟩ (by decide) rfl (hb hby d6_29) (by decide +kernel) (by decide) (by decide) (by decide) rfl ?_
  intro la50 T50 h50 kq50 lb50 lk50 X50 e50 E50 hS kz50 hZ hown Eq50 Fc50 Fv50 V50 CR50 Lt50 sf50
  have S50_b1 := CR50.safe E37q.lt S37_b1
  have S50_c37 := CR50.safe V37.lt S37_c37
  have H50 := CR50.1
  have R50 := R37.trans CR50
  have ne_b1_la50 := (sf50 b1 S50_b1).1
  have ne_b1_lb50 := (sf50 b1 S50_b1).2
  have ne_la50_b1 := ne_b1_la50.symm
  have ne_lb50_b1 := ne_b1_lb50.symm
  have ne_c37_la50 := (sf50 c37 S50_c37).1
  have ne_c37_lb50 := (sf50 c37 S50_c37).2
  have ne_la50_c37 := ne_c37_la50.symm
  have ne_lb50_c37 := ne_c37_lb50.symm
  have o50 : own_Old Z n0 h50 := o37.ext E50
  have z50 : n0 ≤ h50.size := Nat.le_trans z37 E50.1
  have K50 : Keep h0 h50 [] := KK37.ext E50
  show own_WP _ _ _ _ _ _ _ (T50.setTop (mkF m 31 #[.val (.ref a)] [(.ref la50), (.ref b1)]))
  have f52 := (E37q.ext E50)
  have f53 := (F37a.ext E50)
  have f54 := (F37b.ext E50)
  have f55 := (F37c.ext E50)
  have f56 := (V37.ext E50)
  refine own_callV (pc' := 34) (W := 0) (y := (⟨"java/lang/StringBuilder", "append", "(Ljava/lang/String;)Ljava/lang/StringBuilder;"⟩ : MethodName)) (z := (⟨"java/lang/StringBuilder", "append", "(Ljava/lang/String;)Ljava/lang/StringBuilder;"⟩ : MethodName)) X50 hx hZ hown (own_w hw 62 rfl) (own_w hw 63 rfl) (notFace_of_selects (args := #[]) (mvT hZ (own_w hw 65 rfl))) (own_w hw 65 rfl) (own_w hw 64 rfl) (own_w hw 45 rfl) (own_w hw 66 rfl) (by decide) f52 (con_ss l Z a0 hw b1 la50 _ n0 z50 G1 fm hG o50 c37 k37 cp37 ct37 u37 f52 f53 f54 f55 f56 Bk37 lb50 lk50 (1 : Int32) _ Eq50 Fc50 Fv50 V50 ne_b1_c37 ne_c37_b1 g_b1 g_c37 (by omega) lu37 rfl (by decide) ne_la50_c37 ne_lb50_c37 ne_la50_b1 ne_lb50_b1 ne_b1_la50) e50 pd34 [(.ref la50)] [] rfl rfl rfl (Nat.le_of_eq rfl) (by decide) (by decide) (by rw [hml]; rfl) (hb hby d6_31) (by decide) (by decide) rfl ?_
  intro v51 T51 L51 X51 q51
  obtain ⟨c51, k51, cp51, ct51, u51, rfl, M51, K51, hor51, g_c51, nsb51, E51q, F51a, F51b, F51c, V51, Bk51, lu51, hcp51, hct51, tu51⟩ := q51
  have KP51 := K50
  have ne_b1_c51 : b1 ≠ c51 := own_ne2 ne_b1_c37 f52.lt hor51
  have ne_c51_b1 := ne_b1_c51.symm
  have f64 := ((f48.keep K37).ext E50)
  have ne_r_c51 : r ≠ c51 := own_ne2 ne_r_c37 f64.lt hor51
  have f65 := ((f49.keep K37 (ninS ne_rb_b1 (ninS ne_rb_c25 nin0))).ext E50)
  have ne_rb_c51 : rb ≠ c51 := own_ne2 ne_rb_c37 f65.lt hor51
  obtain ⟨h51, e51⟩ : ∃ z, z = T51.heap := ⟨_, rfl⟩
  rw [← e51] at K51 E51q F51a F51b F51c V51
  have e51 := e51.symm
  have o51 : own_Old Z n0 h51 := o50.keep K51 (allS g_b1 (allS g_c37 all0))
  have H51 := CHv.keep K51 (allS S50_b1 (allS S50_c37 all0)) H50
  have S51_b1 := Safe.keep (x := b1) K51 (allS S50_b1 (allS S50_c37 all0)) H50 S50_b1
  have S51_c51 := Safe.keep (x := c51) K51 (allS S50_b1 (allS S50_c37 all0)) H50 (hor51.elim (fun e => by rw [e]; exact S50_c37) (fun q => Safe.new q))
  have R51 := R50.trans (CHr.keep K51 (allS S50_b1 (allS S50_c37 all0)) H50)
  have kz51 := Nat.le_trans kz50 K51.1
  have z51 : n0 ≤ h51.size := Nat.le_trans z50 K51.1
  have KK51 : Keep h0 h51 [] := K50.trans K51 (allS (P := fun x => x ∈ [] ∨ h0.size ≤ x) (Or.inr sz_b1) (allS (P := fun x => x ∈ [] ∨ h0.size ≤ x) (Or.inr sz_c37) all0))
  have N51 := Fr.app N37 M51
  have sz_c51 : h0.size ≤ c51 := hor51.elim (fun e => e ▸ sz_c37) (fun q => Nat.le_trans KP51.1 q)
  have v51q : ct51.toInt = ct37.toInt + 1 := hct51
  have b51q : ct51.toInt ≤ cp51.toInt ∧ cp51.toInt = 70 := by rw [hcp51]; have e2 : (1 : Int32).toInt = 1 := rfl; unfold own_cap; split <;> omega
  have n51q := own_nat (x := ct51) (by omega)
  have x51q := own_nat (x := (1 : Int32)) (by decide)
  have t51q : u51.take ct51.toNatClampNeg = (((([.int (114 : Int32), .int (101 : Int32), .int (109 : Int32), .int (111 : Int32), .int (118 : Int32), .int (101 : Int32), .int (100 : Int32), .int (32 : Int32), .int (116 : Int32), .int (111 : Int32), .int (114 : Int32), .int (110 : Int32), .int (32 : Int32), .int (116 : Int32), .int (97 : Int32), .int (105 : Int32), .int (108 : Int32), .int (32 : Int32), .int (111 : Int32), .int (102 : Int32), .int (32 : Int32)] ++ own_num xl.toInt.natAbs kk ng) ++ [.int (32 : Int32), .int (98 : Int32), .int (121 : Int32), .int (116 : Int32), .int (101 : Int32), .int (115 : Int32), .int (32 : Int32), .int (102 : Int32), .int (114 : Int32), .int (111 : Int32), .int (109 : Int32), .int (32 : Int32)]) ++ [.int (115 : Int32), .int (101 : Int32), .int (103 : Int32), .int (109 : Int32), .int (101 : Int32), .int (110 : Int32), .int (116 : Int32), .int (115 : Int32)]) ++ [.int (47 : Int32)]) := by rw [show ct51.toNatClampNeg = ct37.toNatClampNeg + (1 : Int32).toNatClampNeg by have e2 : (1 : Int32).toInt = 1 := rfl; omega, tu51, t37q]
  show own_WP _ _ _ _ _ _ _ (T51.setTop (mkF m 34 #[.val (.ref a)] [(.ref b1)]))
  refine own_aloadN (pc' := 35) X51 hx (hb hby d6_34) rfl rfl rfl ?_
  have f66 := (((((((((((hRe.ext E1).keep K2 (ninS ne_a_b1 nin0)).ext E6).keep K7 (ninS ne_a_b1 (ninS ne_a_c2 nin0))).keep K18 (ninS ne_a_b1 (ninS ne_a_c7 nin0))).ext E24).keep K25 (ninS ne_a_b1 (ninS ne_a_c18 nin0))).ext E36).keep K37 (ninS ne_a_b1 (ninS ne_a_c25 nin0))).ext E50).keep K51 (ninS ne_a_b1 (ninS ne_a_c37 nin0)))
  refine own_getF (pc' := 38) X51 hx hZ hown (host := "") (Or.inl (own_w hw 34 rfl)) Via.refl e51 f66 (hb hby d6_35) rfl ?_
  intro T67 X67 e67
  have f69 := (f64.keep K51)
  have f70 := (((((((((((rC.ext E1).keep K2 (ninS ne_r_b1 nin0)).ext E6).keep K7 (ninS ne_r_b1 (ninS ne_r_c2 nin0))).keep K18 (ninS ne_r_b1 (ninS ne_r_c7 nin0))).ext E24).keep K25 (ninS ne_r_b1 (ninS ne_r_c18 nin0))).ext E36).keep K37 (ninS ne_r_b1 (ninS ne_r_c25 nin0))).ext E50).keep K51 (ninS ne_r_b1 (ninS ne_r_c37 nin0)))
  have f71 := (((((((((((rV.ext E1).keep K2 (ninS ne_r_b1 nin0)).ext E6).keep K7 (ninS ne_r_b1 (ninS ne_r_c2 nin0))).keep K18 (ninS ne_r_b1 (ninS ne_r_c7 nin0))).ext E24).keep K25 (ninS ne_r_b1 (ninS ne_r_c18 nin0))).ext E36).keep K37 (ninS ne_r_b1 (ninS ne_r_c25 nin0))).ext E50).keep K51 (ninS ne_r_b1 (ninS ne_r_c37 nin0)))
  have f72 := (f65.keep K51 (ninS ne_rb_b1 (ninS ne_rb_c37 nin0)))
  refine own_callV (pc' := 41) (W := 0) (y := (⟨"java/lang/StringBuilder", "append", "(Ljava/lang/String;)Ljava/lang/StringBuilder;"⟩ : MethodName)) (z := (⟨"java/lang/StringBuilder", "append", "(Ljava/lang/String;)Ljava/lang/StringBuilder;"⟩ : MethodName)) X67 hx hZ hown (own_w hw 62 rfl) (own_w hw 63 rfl) (notFace_of_selects (args := #[]) (mvT hZ (own_w hw 65 rfl))) (own_w hw 65 rfl) (own_w hw 64 rfl) (own_w hw 45 rfl) (own_w hw 66 rfl) (by decide) E51q (con_ss l Z a0 hw b1 r _ n0 z51 G1 fm hG o51 c51 k51 cp51 ct51 u51 E51q F51a F51b F51c V51 Bk51 rb krb zr ws f69 f70 f71 f72 ne_b1_c51 ne_c51_b1 g_b1 g_c51 (by omega) lu51 hwsl (by omega) ne_r_c51 ne_rb_c51 ne_r_b1 ne_rb_b1 ne_b1_r) e67 pd34 [(.ref r)] [] rfl rfl rfl (Nat.le_of_eq rfl) (by decide) (by decide) (by rw [hml]; rfl) (hb hby d6_38) (by decide) (by decide) rfl ?_
  intro v68 T68 L68 X68 q68
  obtain ⟨c68, k68, cp68, ct68, u68, rfl, M68, K68, hor68, g_c68, nsb68, E68q, F68a, F68b, F68c, V68, Bk68, lu68, hcp68, hct68, tu68⟩ := q68
  obtain ⟨h68, e68⟩ : ∃ z, z = T68.heap := ⟨_, rfl⟩
  rw [← e68] at K68 E68q F68a F68b F68c V68
  have e68 := e68.symm
  have o68 : own_Old Z n0 h68 := o51.keep K68 (allS g_b1 (allS g_c51 all0))
  have H68 := CHv.keep K68 (allS S51_b1 (allS S51_c51 all0)) H51
  have R68 := R51.trans (CHr.keep K68 (allS S51_b1 (allS S51_c51 all0)) H51)
  have kz68 := Nat.le_trans kz51 K68.1
  have z68 : n0 ≤ h68.size := Nat.le_trans z51 K68.1
  have KK68 : Keep h0 h68 [] := KK51.trans K68 (allS (P := fun x => x ∈ [] ∨ h0.size ≤ x) (Or.inr sz_b1) (allS (P := fun x => x ∈ [] ∨ h0.size ≤ x) (Or.inr sz_c51) all0))
  have N68 := Fr.app N51 M68
  have v68q : ct68.toInt = ct51.toInt + zr.toInt := hct68
  have b68q : ct68.toInt ≤ cp68.toInt ∧ cp68.toInt = 70 := by rw [hcp68]; unfold own_cap; split <;> omega
  have n68q := own_nat (x := ct68) (by omega)
  have x68q := own_nat (x := zr) (by omega)
  have t68q : u68.take ct68.toNatClampNeg = ((((([.int (114 : Int32), .int (101 : Int32), .int (109 : Int32), .int (111 : Int32), .int (118 : Int32), .int (101 : Int32), .int (100 : Int32), .int (32 : Int32), .int (116 : Int32), .int (111 : Int32), .int (114 : Int32), .int (110 : Int32), .int (32 : Int32), .int (116 : Int32), .int (97 : Int32), .int (105 : Int32), .int (108 : Int32), .int (32 : Int32), .int (111 : Int32), .int (102 : Int32), .int (32 : Int32)] ++ own_num xl.toInt.natAbs kk ng) ++ [.int (32 : Int32), .int (98 : Int32), .int (121 : Int32), .int (116 : Int32), .int (101 : Int32), .int (115 : Int32), .int (32 : Int32), .int (102 : Int32), .int (114 : Int32), .int (111 : Int32), .int (109 : Int32), .int (32 : Int32)]) ++ [.int (115 : Int32), .int (101 : Int32), .int (103 : Int32), .int (109 : Int32), .int (101 : Int32), .int (110 : Int32), .int (116 : Int32), .int (115 : Int32)]) ++ [.int (47 : Int32)]) ++ ws) := by rw [show ct68.toNatClampNeg = ct51.toNatClampNeg + zr.toNatClampNeg by omega, tu68, t51q]
  show own_WP _ _ _ _ _ _ _ (T68.setTop (mkF m 41 #[.val (.ref a)] [(.ref b1)]))
  refine own_callV (pc' := 44) (W := 0) (y := (⟨"java/lang/StringBuilder", "toString", "()Ljava/lang/String;"⟩ : MethodName)) (z := (⟨"java/lang/StringBuilder", "toString", "()Ljava/lang/String;"⟩ : MethodName)) X68 hx hZ hown (own_w hw 161 rfl) (own_w hw 162 rfl) (notFace_of_selects (args := #[]) (mvT hZ (own_w hw 164 rfl))) (own_w hw 164 rfl) (own_w hw 163 rfl) (own_w hw 45 rfl) (own_w hw 165 rfl) (by decide) E68q (con_ts l Z a0 hw b1 _ n0 z68 G1 fm hG o68 c68 k68 cp68 ct68 u68 E68q F68a F68b F68c V68 Bk68 (by omega) lu68) e68 pd36 [] [] rfl rfl rfl (Nat.le_of_eq rfl) (by decide) (by decide) (by rw [hml]; rfl) (hb hby d6_41) (by decide) (by decide) rfl ?_
  intro v82 T82 L82 X82 q82
  obtain ⟨t82, c82, k82, u82, rfl, M82, K82, st82, s82, E82q, F82a, F82b, V82, hu82⟩ := q82
  have sz_t82 : h0.size ≤ t82 := Nat.le_trans KK68.1 st82
  have sz_c82 : h0.size ≤ c82 := Nat.le_trans KK68.1 s82
  obtain ⟨h82, e82⟩ : ∃ z, z = T82.heap := ⟨_, rfl⟩
  rw [← e82] at K82 E82q F82a F82b V82
  have e82 := e82.symm
  have H82 := CHv.keep K82 all0 H68
  have R82 := R68.trans (CHr.keep K82 all0 H68)
  have kz82 := Nat.le_trans kz68 K82.1
  have KK82 : Keep h0 h82 [] := KK68.trans K82 all0
  have N82 := Fr.app N68 M82
  show own_WP _ _ _ _ _ _ _ (T82.setTop (mkF m 44 #[.val (.ref a)] [(.ref t82)]))
  refine own_retA X82 hx (own_FH hZ hEL H82 R82 hS kz82 e82) hlk rfl hret rfl rfl (hb hby d6_44) (by decide) (by decide) ?_
  rw [e82]
  refine ⟨t82, c82, k82, ct68, u82, kk, ng, rfl, N82, KK82, sz_t82, sz_c82, E82q, F82a, F82b, V82, hkk, hngx, by omega, ?_⟩
  rw [hu82, t68q]
  simp only [List.append_assoc]

def own_ConRH (l : Launch) (Z : State) (y : MethodName) (bytes : ByteArray) (maxL : Nat) (ret : Option FieldType) (rm : Room) (as' : Array Value) (h0 : Heap) (Q : Option Value → Heap → List Loc → Prop) : Prop :=
  ∀ ws, MetFree l y (head1 (Jvm.Cond.code y bytes maxL ret :: ws) rm) (fun a U => a = as' ∧ Z.Warmed39 U.vm ∧ U.heap = h0 ∧ CHv Z consts_1 U.vm h0) (fun _ _ _ _ _ => True) (fun _ U o U' => ∃ v L, o = .returned v ∧ Q v U'.heap L ∧ ReturnedEndW U o U' L rm.cells rm.slots)
theorem own_ConRH_of {l : Launch} {Z : State} {y : MethodName} {bytes : ByteArray} {maxL : Nat} {ret : Option FieldType} {rm : Room} {as' : Array Value} {h0 : Heap} {Q : Option Value → Heap → List Loc → Prop} (hp : plainFor y = true)
    (hb : ∀ (p : Program) (e : Env) (s : State) (vm0 : Vm) (m : MethodId) (below : List Frame) (meth : Method) (c : Code) (s₁ : State), Stand p l e rm (s.setVm vm0) m as' below meth c s₁ [] 0 0 → p.tables.exec = Jvm.exec → c.code = bytes → c.maxLocals = maxL → meth.sig.returnType = ret → meth.locks = false → meth.name = y.name → vm0.findClass y.cls = some m.cls → Z.Warmed39 vm0 → s₁.heap = h0 → CHv Z consts_1 vm0 h0 → s.Since vm0 h0.size →
      own_WP p e below (ReturnedEndW s) Q rm.cells rm.slots (s₁.setTop (entryFrame m as' maxL))) : own_ConRH l Z y bytes maxL ret rm as' h0 Q := by
  intro ws
  refine MetFree.of_bodySF hp hisR ?_
  intro p e s m args below meth c s₁ Bd hml0 hP hK
  obtain ⟨rfl, hZ, hh, hI⟩ := hP
  have X := Stand.of_body Bd
  exact hb p e s s.vm m below meth c s₁ X Bd.exec Bd.bytes hml0 Bd.returns Bd.notSynchronized (name_of_methodNamed Bd.named Bd.method).1 (findClass_of_methodNamed Bd.named) hZ (by rw [← hh, Bd.state]; rfl) hI ((State.WarmedH.refl s).since _)


theorem own_sufat {us pf suf ws : List Value} (hus : us = pf ++ (suf ++ ws)) {k : Nat} (hk : k < suf.length) {i z1 : Int32} {d : Value} (hi : i.toInt = (pf.length : Int) + k) (hz : z1.toInt = (us.length : Int)) : (¬ i < 0 ∧ i < z1) ∧ us.getD i.toNatClampNeg d = suf.getD k d := by
  have e : us.length = pf.length + (suf.length + ws.length) := by rw [hus]; simp
  have q := own_nat (x := i) (by omega)
  refine ⟨⟨own_nn (by omega), by rw [Int32.lt_iff_toInt_lt]; omega⟩, ?_⟩
  have e2 : i.toNatClampNeg = pf.length + k := by omega
  rw [e2, hus]
  simp only [List.getD]
  rw [List.getElem?_append_right (by omega), Nat.add_sub_cancel_left, List.getElem?_append_left hk]
theorem own_bsE {cs : List Int32} (h : ∀ c ∈ cs, own_by c = c) : own_bs cs = own_cs cs := List.map_congr_left fun c hc => by rw [h c hc]
theorem own_len42 {v rr cn : Int32} (hv : 0 ≤ v.toInt ∧ v.toInt ≤ 100) (hr : 0 ≤ rr.toInt ∧ rr.toInt ≤ 10) (h : cn.toInt = 42 + v.toInt + rr.toInt) : cn = ((42 : Int32) + v) + rr := by
  apply Int32.toInt_inj.mp
  have e42 : (42 : Int32).toInt = 42 := rfl
  have q1 := own_add (z := (42 : Int32) + v) rfl (by omega) (by omega)
  have q3 := own_add (z := ((42 : Int32) + v) + rr) rfl (by omega) (by omega)
  omega
theorem own_r4 {v x : Int32} (h : v = x &&& 3) : v = 0 ∨ v = 1 ∨ v = 2 ∨ v = 3 := by
  have q := own_mask x 3 (by decide)
  rw [← h] at q
  have e3 : (3 : Int32).toInt = 3 := rfl
  rcases (by omega : v.toInt = 0 ∨ v.toInt = 1 ∨ v.toInt = 2 ∨ v.toInt = 3) with e | e | e | e
  · exact Or.inl (Int32.toInt_inj.mp e)
  · exact Or.inr (Or.inl (Int32.toInt_inj.mp e))
  · exact Or.inr (Or.inr (Or.inl (Int32.toInt_inj.mp e)))
  · exact Or.inr (Or.inr (Or.inr (Int32.toInt_inj.mp e)))

theorem pn_0 : plainFor x = true := plainFor_of_name (by first | (simp [plainName, overriddenIn]; done) | decide +kernel)
theorem pd37 : parseMethodDescriptor "(Ljava/lang/String;IJII)Z" = some ⟨[(.object "java/lang/String"), .int, .long, .int, .int], some .boolean⟩ := by decide +kernel
set_option maxRecDepth 65536 in
set_option maxHeartbeats 8000000 in
theorem lawD {p : Program} {l : Launch} {e : Env} {s : State} {m : MethodId} {args : Array Value} {below : List Frame} {meth : Method} {c : Code} {Z : State} {a0 : Array Value} (hw : ∀ d ∈ tables_1, d.before a0 Z = true) (hx : p.tables.exec = Jvm.exec) (hby : c.code = code) (hml : c.maxLocals = 20) (hret : meth.sig.returnType = some .boolean) (hlk : meth.locks = false) (G1 : Int32) (fm : Value) (hG : own_G Z G1 fm) (hEL : EW Z a0 consts_1) (n0 : Nat) (vm0 : Vm) (k0 : Nat) (T0 : State) (hh : Heap) (lc : List Loc) (hown : vm0.findClass "com/example/ossify/ossify/TornTailDescribePinLaw" = some m.cls) (hZ : Z.Warmed39 vm0) (hS : s.Since vm0 k0) (kz0 : k0 ≤ hh.size) (X0 : Stand p l e ({ frames := 10, cells := 96, slots := 8576, locals := 224 } : Room) (s.setVm vm0) m args below meth c T0 lc 44 3100) (e0 : T0.heap = hh) (N0 : Fr n0 lc) (O0 : own_Old Z n0 hh) (z0 : n0 ≤ hh.size) (H0 : CHv Z consts_1 vm0 hh) (xl : Int64) (ci c0 c1 c2 nn : Int32) (seg t : Addr) (tb : Addr) (ktb : ClassId) (cn : Int32) (us : List Value) (hE : Exa Z hh t "java/lang/String") (hC : Fld Z hh t "java/lang/String" "coder" "B" (.int (0 : Int32))) (hV : Fld Z hh t "java/lang/String" "value" "[B" (.ref tb)) (hA : Arv Z hh tb ktb .byte cn us (.int (0 : Int32))) (ws : List Value) (kk : Nat) (ng : Int32) (hkk : own_dgs xl.toInt.natAbs kk) (hngx : (xl.toInt < 0 ∧ ng = 1) ∨ (¬ xl.toInt < 0 ∧ ng = 0)) (hcn : cn.toInt = 42 + (kk : Int) + ng.toInt + nn.toInt) (hus : us = [.int (114 : Int32), .int (101 : Int32), .int (109 : Int32), .int (111 : Int32), .int (118 : Int32), .int (101 : Int32), .int (100 : Int32), .int (32 : Int32), .int (116 : Int32), .int (111 : Int32), .int (114 : Int32), .int (110 : Int32), .int (32 : Int32), .int (116 : Int32), .int (97 : Int32), .int (105 : Int32), .int (108 : Int32), .int (32 : Int32), .int (111 : Int32), .int (102 : Int32), .int (32 : Int32)] ++ (own_num xl.toInt.natAbs kk ng ++ ([.int (32 : Int32), .int (98 : Int32), .int (121 : Int32), .int (116 : Int32), .int (101 : Int32), .int (115 : Int32), .int (32 : Int32), .int (102 : Int32), .int (114 : Int32), .int (111 : Int32), .int (109 : Int32), .int (32 : Int32)] ++ ([.int (115 : Int32), .int (101 : Int32), .int (103 : Int32), .int (109 : Int32), .int (101 : Int32), .int (110 : Int32), .int (116 : Int32), .int (115 : Int32)] ++ ([.int (47 : Int32)] ++ ws))))) (hrw : (nn = 0 ∧ ws = []) ∨ (nn = 1 ∧ ws = [.int (own_by c0)]) ∨ (nn = 2 ∧ ws = [.int (own_by c0), .int (own_by c1)]) ∨ (nn = 3 ∧ ws = [.int (own_by c0), .int (own_by c1), .int (own_by c2)])) (hch0 : own_ch (own_by c0) = c0) (hch1 : own_ch (own_by c1) = c1) (hch2 : own_ch (own_by c2) = c2) (r9 dd : Int32) (h9 : r9.toInt = (kk : Int)) (hdd : dd.toInt = (kk : Int) + ng.toInt) (s13 : Int32) :
    own_WP p e below (ReturnedEndW s) (fun v h L => v = some (.int 1) ∧ Fr n0 L) 96 8576 (T0.setTop (mkF m 736 #[.val (.long xl), .second, .val (.int ci), .val (.int c0), .val (.int c1), .val (.int c2), .val (.int nn), .val (.ref seg), .val (.ref t), .val (.int r9), .val (.int ng), .val (.int dd), .val (.int (1 : Int32)), .val (.int s13), .val (.int (1 : Int32)), .unset, .unset, .unset, .unset, .unset] [])) := by
  have hwS := own_wS hw
  have hng : ng = 0 ∨ ng = 1 := hngx.elim (fun q => Or.inr q.2) (fun q => Or.inl q.2)
  have hngt : ng.toInt = 0 ∨ ng.toInt = 1 := hng.elim (fun q => Or.inl (by rw [q]; rfl)) (fun q => Or.inr (by rw [q]; rfl))
  have hk19 := own_dgs_le hkk (by have := rng64 xl; omega)
  have hk1 := hkk.1
  have hnnn : 0 ≤ nn.toInt ∧ nn.toInt ≤ 3 ∧ (ws.length : Int) = nn.toInt := by rcases hrw with ⟨q1, q2⟩ | ⟨q1, q2⟩ | ⟨q1, q2⟩ | ⟨q1, q2⟩ <;> rw [q1, q2] <;> exact ⟨by decide, by decide, rfl⟩
  have hnl : (own_num xl.toInt.natAbs kk ng).length = kk + ng.toNatClampNeg := own_num_len hng
  have hnq := own_nat (x := ng) (by omega)
  have hul : cn.toInt = (us.length : Int) := by rw [hus, List.length_append, List.length_append, List.length_append, List.length_append, List.length_append, hnl]; simp only [List.length_cons, List.length_nil]; omega
  have hus3 : us = ([.int (114 : Int32), .int (101 : Int32), .int (109 : Int32), .int (111 : Int32), .int (118 : Int32), .int (101 : Int32), .int (100 : Int32), .int (32 : Int32), .int (116 : Int32), .int (111 : Int32), .int (114 : Int32), .int (110 : Int32), .int (32 : Int32), .int (116 : Int32), .int (97 : Int32), .int (105 : Int32), .int (108 : Int32), .int (32 : Int32), .int (111 : Int32), .int (102 : Int32), .int (32 : Int32)] ++ own_num xl.toInt.natAbs kk ng ++ [.int (32 : Int32), .int (98 : Int32), .int (121 : Int32), .int (116 : Int32), .int (101 : Int32), .int (115 : Int32), .int (32 : Int32), .int (102 : Int32), .int (114 : Int32), .int (111 : Int32), .int (109 : Int32), .int (32 : Int32), .int (115 : Int32), .int (101 : Int32), .int (103 : Int32), .int (109 : Int32), .int (101 : Int32), .int (110 : Int32), .int (116 : Int32), .int (115 : Int32), .int (47 : Int32)]) ++ (ws ++ []) := by rw [hus]; simp
  have hpl : (([.int (114 : Int32), .int (101 : Int32), .int (109 : Int32), .int (111 : Int32), .int (118 : Int32), .int (101 : Int32), .int (100 : Int32), .int (32 : Int32), .int (116 : Int32), .int (111 : Int32), .int (114 : Int32), .int (110 : Int32), .int (32 : Int32), .int (116 : Int32), .int (97 : Int32), .int (105 : Int32), .int (108 : Int32), .int (32 : Int32), .int (111 : Int32), .int (102 : Int32), .int (32 : Int32)] ++ own_num xl.toInt.natAbs kk ng ++ [.int (32 : Int32), .int (98 : Int32), .int (121 : Int32), .int (116 : Int32), .int (101 : Int32), .int (115 : Int32), .int (32 : Int32), .int (102 : Int32), .int (114 : Int32), .int (111 : Int32), .int (109 : Int32), .int (32 : Int32), .int (115 : Int32), .int (101 : Int32), .int (103 : Int32), .int (109 : Int32), .int (101 : Int32), .int (110 : Int32), .int (116 : Int32), .int (115 : Int32), .int (47 : Int32)] : List Value).length : Int) = 42 + (kk : Int) + ng.toInt := by rw [List.length_append, List.length_append, hnl]; simp only [List.length_cons, List.length_nil]; omega
  refine own_bipush (pc' := 738) X0 hx (42 : Int32) (hb hby at_736) rfl rfl ?_
  refine own_iload (pc' := 740) X0 hx (hb hby at_738) rfl rfl ?_
  refine own_iadd (pc' := 741) X0 hx (hb hby at_740) rfl ?_
  obtain ⟨v1, hv1⟩ : ∃ z : Int32, z = ((42 : Int32) + dd) := ⟨_, rfl⟩
  refine own_istore (pc' := 743) (l' := #[.val (.long xl), .second, .val (.int ci), .val (.int c0), .val (.int c1), .val (.int c2), .val (.int nn), .val (.ref seg), .val (.ref t), .val (.int r9), .val (.int ng), .val (.int dd), .val (.int (1 : Int32)), .val (.int s13), .val (.int (1 : Int32)), .val (.int v1), .unset, .unset, .unset, .unset]) X0 hx (hb hby at_741) hv1 rfl rfl ?_
  have he15 : v1.toInt = 42 + (kk : Int) + ng.toInt := by rw [own_add hv1 (by decide) (by omega)]; have e1 : (42 : Int32).toInt = 42 := rfl; omega
  refine own_join (fun x : State × Int32 => ∃ L', Stand p l e ({ frames := 10, cells := 96, slots := 8576, locals := 224 } : Room) (s.setVm vm0) m args below meth c x.1 L' 44 3100 ∧ Fr n0 L' ∧ x.1.heap = hh ∧ x.2 = (1 : Int32)) (fun x => x.1.setTop (mkF m 807 #[.val (.long xl), .second, .val (.int ci), .val (.int c0), .val (.int c1), .val (.int c2), .val (.int nn), .val (.ref seg), .val (.ref t), .val (.int r9), .val (.int ng), .val (.int dd), .val (.int (1 : Int32)), .val (.int s13), .val (.int (1 : Int32)), .val (.int v1), .val (.int x.2), .unset, .unset, .unset] [])) (fun J807 => ?_) (fun x hx807 => ?_)
  · skip
    refine own_iload (pc' := 745) X0 hx (hb hby at_743) rfl rfl ?_
    refine own_iconst (pc' := 746) X0 hx (1 : Int32) (hb hby at_745) rfl rfl ?_
    refine own_icmp_lt (pt := 760) (pf := 749) X0 hx (hb hby at_746) rfl (by decide) rfl (fun hc746 => ?_) (fun hc746 => ?_)
    · skip
      refine own_iload (pc' := 762) X0 hx (hb hby at_760) rfl rfl ?_
      refine own_iconst (pc' := 763) X0 hx (2 : Int32) (hb hby at_762) rfl rfl ?_
      refine own_icmp_lt (pt := 780) (pf := 766) X0 hx (hb hby at_763) rfl (by decide) rfl (fun hc763 => ?_) (fun hc763 => absurd (by have q := hc746; rw [Int32.lt_iff_toInt_lt] at q ⊢; have q : nn.toInt < 1 := q; show nn.toInt < 2; omega) hc763)
      refine own_iload (pc' := 782) X0 hx (hb hby at_780) rfl rfl ?_
      refine own_iconst (pc' := 783) X0 hx (3 : Int32) (hb hby at_782) rfl rfl ?_
      refine own_icmp_lt (pt := 800) (pf := 786) X0 hx (hb hby at_783) rfl (by decide) rfl (fun hc783 => ?_) (fun hc783 => absurd (by have q := hc763; rw [Int32.lt_iff_toInt_lt] at q ⊢; have q : nn.toInt < 2 := q; show nn.toInt < 3; omega) hc783)
      refine own_iconst (pc' := 801) X0 hx (1 : Int32) (hb hby at_800) rfl rfl ?_
      refine own_goto (pc' := 805) X0 hx (hb hby at_801) (by decide) rfl ?_
      refine own_istore (pc' := 807) (l' := #[.val (.long xl), .second, .val (.int ci), .val (.int c0), .val (.int c1), .val (.int c2), .val (.int nn), .val (.ref seg), .val (.ref t), .val (.int r9), .val (.int ng), .val (.int dd), .val (.int (1 : Int32)), .val (.int s13), .val (.int (1 : Int32)), .val (.int v1), .val (.int (1 : Int32)), .unset, .unset, .unset]) X0 hx (hb hby at_805) rfl rfl rfl ?_
      exact J807 ⟨T0, (1 : Int32)⟩ ⟨_, X0, N0, e0, rfl⟩
    · skip
      refine own_aload (pc' := 751) X0 hx (hb hby at_749) rfl rfl rfl ?_
      refine own_iload (pc' := 753) X0 hx (hb hby at_751) rfl rfl ?_
      have hwj3 : ∃ p q, ws = p ++ .int (own_by c0) :: q ∧ p.length = 0 := by
        rcases hrw with ⟨q1, q2⟩ | ⟨q1, q2⟩ | ⟨q1, q2⟩ | ⟨q1, q2⟩
        · exact absurd (by rw [q1]; decide) hc746
        · exact ⟨[], [], q2, rfl⟩
        · exact ⟨[], [.int (own_by c1)], q2, rfl⟩
        · exact ⟨[], [.int (own_by c1), .int (own_by c2)], q2, rfl⟩
      obtain ⟨wp3, wq3, ew3, el3⟩ := hwj3
      have ht3 := own_getat (x := .int (own_by c0)) (pre := ([.int (114 : Int32), .int (101 : Int32), .int (109 : Int32), .int (111 : Int32), .int (118 : Int32), .int (101 : Int32), .int (100 : Int32), .int (32 : Int32), .int (116 : Int32), .int (111 : Int32), .int (114 : Int32), .int (110 : Int32), .int (32 : Int32), .int (116 : Int32), .int (97 : Int32), .int (105 : Int32), .int (108 : Int32), .int (32 : Int32), .int (111 : Int32), .int (102 : Int32), .int (32 : Int32)] ++ own_num xl.toInt.natAbs kk ng ++ [.int (32 : Int32), .int (98 : Int32), .int (121 : Int32), .int (116 : Int32), .int (101 : Int32), .int (115 : Int32), .int (32 : Int32), .int (102 : Int32), .int (114 : Int32), .int (111 : Int32), .int (109 : Int32), .int (32 : Int32), .int (115 : Int32), .int (101 : Int32), .int (103 : Int32), .int (109 : Int32), .int (101 : Int32), .int (110 : Int32), .int (116 : Int32), .int (115 : Int32), .int (47 : Int32)]) ++ wp3) (post := wq3) (d := .int (0 : Int32)) (us := us) (by rw [hus, ew3]; simp) (i := v1) (z1 := cn) (by rw [List.length_append, el3]; omega) hul
      refine own_callV (pc' := 756) (W := 0) (y := (⟨"java/lang/String", "charAt", "(I)C"⟩ : MethodName)) (z := (⟨"java/lang/String", "charAt", "(I)C"⟩ : MethodName)) X0 hx hZ hown (own_w hw 219 rfl) (own_w hw 220 rfl) (notFace_of_selects (args := #[]) (mvT hZ (own_w hw 222 rfl))) (own_w hw 222 rfl) (own_w hw 221 rfl) (own_w hw 2 rfl) (own_w hw 223 rfl) (by decide) hE (con_charAt l Z a0 hw t v1 _ n0 z0 G1 fm hG O0 tb ktb cn _ hE hC hV hA (own_by c0) ht3.1 ht3.2) e0 pd32 [(.int v1)] [] rfl rfl rfl (Nat.le_of_eq rfl) (by decide) (by decide) (by rw [hml]; rfl) (hb hby at_753) (by decide) (by decide) rfl ?_
      intro v2 T2 L2 X2 q2
      obtain ⟨r2, rfl, hr2, rfl, e2⟩ := q2
      have M2 := Fr.nil n0
      have N2 := Fr.app N0 M2
      show own_WP _ _ _ _ _ _ _ (T2.setTop (mkF m 756 #[.val (.long xl), .second, .val (.int ci), .val (.int c0), .val (.int c1), .val (.int c2), .val (.int nn), .val (.ref seg), .val (.ref t), .val (.int r9), .val (.int ng), .val (.int dd), .val (.int (1 : Int32)), .val (.int s13), .val (.int (1 : Int32)), .val (.int v1), .unset, .unset, .unset, .unset] [(.int r2)]))
      refine own_iloadN (pc' := 757) X2 hx (hb hby at_756) rfl rfl ?_
      refine own_icmp_ne (pt := 804) (pf := 760) X2 hx (hb hby at_757) rfl (by decide) rfl (fun hc757 => absurd (by rw [hr2]; exact hch0) hc757) (fun hc757 => ?_)
      refine own_iload (pc' := 762) X2 hx (hb hby at_760) rfl rfl ?_
      refine own_iconst (pc' := 763) X2 hx (2 : Int32) (hb hby at_762) rfl rfl ?_
      refine own_icmp_lt (pt := 780) (pf := 766) X2 hx (hb hby at_763) rfl (by decide) rfl (fun hc763 => ?_) (fun hc763 => ?_)
      · skip
        refine own_iload (pc' := 782) X2 hx (hb hby at_780) rfl rfl ?_
        refine own_iconst (pc' := 783) X2 hx (3 : Int32) (hb hby at_782) rfl rfl ?_
        refine own_icmp_lt (pt := 800) (pf := 786) X2 hx (hb hby at_783) rfl (by decide) rfl (fun hc783 => ?_) (fun hc783 => absurd (by have q := hc763; rw [Int32.lt_iff_toInt_lt] at q ⊢; have q : nn.toInt < 2 := q; show nn.toInt < 3; omega) hc783)
        refine own_iconst (pc' := 801) X2 hx (1 : Int32) (hb hby at_800) rfl rfl ?_
        refine own_goto (pc' := 805) X2 hx (hb hby at_801) (by decide) rfl ?_
        refine own_istore (pc' := 807) (l' := #[.val (.long xl), .second, .val (.int ci), .val (.int c0), .val (.int c1), .val (.int c2), .val (.int nn), .val (.ref seg), .val (.ref t), .val (.int r9), .val (.int ng), .val (.int dd), .val (.int (1 : Int32)), .val (.int s13), .val (.int (1 : Int32)), .val (.int v1), .val (.int (1 : Int32)), .unset, .unset, .unset]) X2 hx (hb hby at_805) rfl rfl rfl ?_
        exact J807 ⟨T2, (1 : Int32)⟩ ⟨_, X2, N2, e2, rfl⟩
      · skip
        refine own_aload (pc' := 768) X2 hx (hb hby at_766) rfl rfl rfl ?_
        refine own_iload (pc' := 770) X2 hx (hb hby at_768) rfl rfl ?_
        refine own_iconst (pc' := 771) X2 hx (1 : Int32) (hb hby at_770) rfl rfl ?_
        refine own_iadd (pc' := 772) X2 hx (hb hby at_771) rfl ?_
        have hwj5 : ∃ p q, ws = p ++ .int (own_by c1) :: q ∧ p.length = 1 := by
          rcases hrw with ⟨q1, q2⟩ | ⟨q1, q2⟩ | ⟨q1, q2⟩ | ⟨q1, q2⟩
          · exact absurd (by rw [q1]; decide) hc763
          · exact absurd (by rw [q1]; decide) hc763
          · exact ⟨[.int (own_by c0)], [], q2, rfl⟩
          · exact ⟨[.int (own_by c0)], [.int (own_by c2)], q2, rfl⟩
        obtain ⟨wp5, wq5, ew5, el5⟩ := hwj5
        have ht5 := own_getat (x := .int (own_by c1)) (pre := ([.int (114 : Int32), .int (101 : Int32), .int (109 : Int32), .int (111 : Int32), .int (118 : Int32), .int (101 : Int32), .int (100 : Int32), .int (32 : Int32), .int (116 : Int32), .int (111 : Int32), .int (114 : Int32), .int (110 : Int32), .int (32 : Int32), .int (116 : Int32), .int (97 : Int32), .int (105 : Int32), .int (108 : Int32), .int (32 : Int32), .int (111 : Int32), .int (102 : Int32), .int (32 : Int32)] ++ own_num xl.toInt.natAbs kk ng ++ [.int (32 : Int32), .int (98 : Int32), .int (121 : Int32), .int (116 : Int32), .int (101 : Int32), .int (115 : Int32), .int (32 : Int32), .int (102 : Int32), .int (114 : Int32), .int (111 : Int32), .int (109 : Int32), .int (32 : Int32), .int (115 : Int32), .int (101 : Int32), .int (103 : Int32), .int (109 : Int32), .int (101 : Int32), .int (110 : Int32), .int (116 : Int32), .int (115 : Int32), .int (47 : Int32)]) ++ wp5) (post := wq5) (d := .int (0 : Int32)) (us := us) (by rw [hus, ew5]; simp) (i := (v1 + (1 : Int32))) (z1 := cn) (by rw [List.length_append, el5]; have q9 := own_add (z := (v1 + (1 : Int32))) rfl (by omega) (by decide); have e9 : (1 : Int32).toInt = 1 := rfl; omega) hul
        refine own_callV (pc' := 775) (W := 0) (y := (⟨"java/lang/String", "charAt", "(I)C"⟩ : MethodName)) (z := (⟨"java/lang/String", "charAt", "(I)C"⟩ : MethodName)) X2 hx hZ hown (own_w hw 219 rfl) (own_w hw 220 rfl) (notFace_of_selects (args := #[]) (mvT hZ (own_w hw 222 rfl))) (own_w hw 222 rfl) (own_w hw 221 rfl) (own_w hw 2 rfl) (own_w hw 223 rfl) (by decide) hE (con_charAt l Z a0 hw t (v1 + (1 : Int32)) _ n0 z0 G1 fm hG O0 tb ktb cn _ hE hC hV hA (own_by c1) ht5.1 ht5.2) e2 pd32 [(.int (v1 + (1 : Int32)))] [] rfl rfl rfl (Nat.le_of_eq rfl) (by decide) (by decide) (by rw [hml]; rfl) (hb hby at_772) (by decide) (by decide) rfl ?_
        intro v4 T4 L4 X4 q4
        obtain ⟨r4, rfl, hr4, rfl, e4⟩ := q4
        have M4 := Fr.nil n0
        have N4 := Fr.app N2 M4
        show own_WP _ _ _ _ _ _ _ (T4.setTop (mkF m 775 #[.val (.long xl), .second, .val (.int ci), .val (.int c0), .val (.int c1), .val (.int c2), .val (.int nn), .val (.ref seg), .val (.ref t), .val (.int r9), .val (.int ng), .val (.int dd), .val (.int (1 : Int32)), .val (.int s13), .val (.int (1 : Int32)), .val (.int v1), .unset, .unset, .unset, .unset] [(.int r4)]))
        refine own_iload (pc' := 777) X4 hx (hb hby at_775) rfl rfl ?_
        refine own_icmp_ne (pt := 804) (pf := 780) X4 hx (hb hby at_777) rfl (by decide) rfl (fun hc777 => absurd (by rw [hr4]; exact hch1) hc777) (fun hc777 => ?_)
        refine own_iload (pc' := 782) X4 hx (hb hby at_780) rfl rfl ?_
        refine own_iconst (pc' := 783) X4 hx (3 : Int32) (hb hby at_782) rfl rfl ?_
        refine own_icmp_lt (pt := 800) (pf := 786) X4 hx (hb hby at_783) rfl (by decide) rfl (fun hc783 => ?_) (fun hc783 => ?_)
        · skip
          refine own_iconst (pc' := 801) X4 hx (1 : Int32) (hb hby at_800) rfl rfl ?_
          refine own_goto (pc' := 805) X4 hx (hb hby at_801) (by decide) rfl ?_
          refine own_istore (pc' := 807) (l' := #[.val (.long xl), .second, .val (.int ci), .val (.int c0), .val (.int c1), .val (.int c2), .val (.int nn), .val (.ref seg), .val (.ref t), .val (.int r9), .val (.int ng), .val (.int dd), .val (.int (1 : Int32)), .val (.int s13), .val (.int (1 : Int32)), .val (.int v1), .val (.int (1 : Int32)), .unset, .unset, .unset]) X4 hx (hb hby at_805) rfl rfl rfl ?_
          exact J807 ⟨T4, (1 : Int32)⟩ ⟨_, X4, N4, e4, rfl⟩
        · skip
          refine own_aload (pc' := 788) X4 hx (hb hby at_786) rfl rfl rfl ?_
          refine own_iload (pc' := 790) X4 hx (hb hby at_788) rfl rfl ?_
          refine own_iconst (pc' := 791) X4 hx (2 : Int32) (hb hby at_790) rfl rfl ?_
          refine own_iadd (pc' := 792) X4 hx (hb hby at_791) rfl ?_
          have hwj7 : ∃ p q, ws = p ++ .int (own_by c2) :: q ∧ p.length = 2 := by
            rcases hrw with ⟨q1, q2⟩ | ⟨q1, q2⟩ | ⟨q1, q2⟩ | ⟨q1, q2⟩
            · exact absurd (by rw [q1]; decide) hc783
            · exact absurd (by rw [q1]; decide) hc783
            · exact absurd (by rw [q1]; decide) hc783
            · exact ⟨[.int (own_by c0), .int (own_by c1)], [], q2, rfl⟩
          obtain ⟨wp7, wq7, ew7, el7⟩ := hwj7
          have ht7 := own_getat (x := .int (own_by c2)) (pre := ([.int (114 : Int32), .int (101 : Int32), .int (109 : Int32), .int (111 : Int32), .int (118 : Int32), .int (101 : Int32), .int (100 : Int32), .int (32 : Int32), .int (116 : Int32), .int (111 : Int32), .int (114 : Int32), .int (110 : Int32), .int (32 : Int32), .int (116 : Int32), .int (97 : Int32), .int (105 : Int32), .int (108 : Int32), .int (32 : Int32), .int (111 : Int32), .int (102 : Int32), .int (32 : Int32)] ++ own_num xl.toInt.natAbs kk ng ++ [.int (32 : Int32), .int (98 : Int32), .int (121 : Int32), .int (116 : Int32), .int (101 : Int32), .int (115 : Int32), .int (32 : Int32), .int (102 : Int32), .int (114 : Int32), .int (111 : Int32), .int (109 : Int32), .int (32 : Int32), .int (115 : Int32), .int (101 : Int32), .int (103 : Int32), .int (109 : Int32), .int (101 : Int32), .int (110 : Int32), .int (116 : Int32), .int (115 : Int32), .int (47 : Int32)]) ++ wp7) (post := wq7) (d := .int (0 : Int32)) (us := us) (by rw [hus, ew7]; simp) (i := (v1 + (2 : Int32))) (z1 := cn) (by rw [List.length_append, el7]; have q9 := own_add (z := (v1 + (2 : Int32))) rfl (by omega) (by decide); have e9 : (2 : Int32).toInt = 2 := rfl; omega) hul
          refine own_callV (pc' := 795) (W := 0) (y := (⟨"java/lang/String", "charAt", "(I)C"⟩ : MethodName)) (z := (⟨"java/lang/String", "charAt", "(I)C"⟩ : MethodName)) X4 hx hZ hown (own_w hw 219 rfl) (own_w hw 220 rfl) (notFace_of_selects (args := #[]) (mvT hZ (own_w hw 222 rfl))) (own_w hw 222 rfl) (own_w hw 221 rfl) (own_w hw 2 rfl) (own_w hw 223 rfl) (by decide) hE (con_charAt l Z a0 hw t (v1 + (2 : Int32)) _ n0 z0 G1 fm hG O0 tb ktb cn _ hE hC hV hA (own_by c2) ht7.1 ht7.2) e4 pd32 [(.int (v1 + (2 : Int32)))] [] rfl rfl rfl (Nat.le_of_eq rfl) (by decide) (by decide) (by rw [hml]; rfl) (hb hby at_792) (by decide) (by decide) rfl ?_
          intro v6 T6 L6 X6 q6
          obtain ⟨r6, rfl, hr6, rfl, e6⟩ := q6
          have M6 := Fr.nil n0
          have N6 := Fr.app N4 M6
          show own_WP _ _ _ _ _ _ _ (T6.setTop (mkF m 795 #[.val (.long xl), .second, .val (.int ci), .val (.int c0), .val (.int c1), .val (.int c2), .val (.int nn), .val (.ref seg), .val (.ref t), .val (.int r9), .val (.int ng), .val (.int dd), .val (.int (1 : Int32)), .val (.int s13), .val (.int (1 : Int32)), .val (.int v1), .unset, .unset, .unset, .unset] [(.int r6)]))
          refine own_iload (pc' := 797) X6 hx (hb hby at_795) rfl rfl ?_
          refine own_icmp_ne (pt := 804) (pf := 800) X6 hx (hb hby at_797) rfl (by decide) rfl (fun hc797 => absurd (by rw [hr6]; exact hch2) hc797) (fun hc797 => ?_)
          refine own_iconst (pc' := 801) X6 hx (1 : Int32) (hb hby at_800) rfl rfl ?_
          refine own_goto (pc' := 805) X6 hx (hb hby at_801) (by decide) rfl ?_
          refine own_istore (pc' := 807) (l' := #[.val (.long xl), .second, .val (.int ci), .val (.int c0), .val (.int c1), .val (.int c2), .val (.int nn), .val (.ref seg), .val (.ref t), .val (.int r9), .val (.int ng), .val (.int dd), .val (.int (1 : Int32)), .val (.int s13), .val (.int (1 : Int32)), .val (.int v1), .val (.int (1 : Int32)), .unset, .unset, .unset]) X6 hx (hb hby at_805) rfl rfl rfl ?_
          exact J807 ⟨T6, (1 : Int32)⟩ ⟨_, X6, N6, e6, rfl⟩
  · obtain ⟨T8, sg⟩ := x
    obtain ⟨L8, X8, N8, e8, hj807⟩ := hx807
    have hj807 : sg = (1 : Int32) := hj807
    have e8 : T8.heap = hh := e8
    show own_WP _ _ _ _ _ _ _ (T8.setTop (mkF m 807 #[.val (.long xl), .second, .val (.int ci), .val (.int c0), .val (.int c1), .val (.int c2), .val (.int nn), .val (.ref seg), .val (.ref t), .val (.int r9), .val (.int ng), .val (.int dd), .val (.int (1 : Int32)), .val (.int s13), .val (.int (1 : Int32)), .val (.int v1), .val (.int sg), .unset, .unset, .unset] []))
    subst hj807
    show own_WP _ _ _ _ _ _ _ (T8.setTop (mkF m 807 #[.val (.long xl), .second, .val (.int ci), .val (.int c0), .val (.int c1), .val (.int c2), .val (.int nn), .val (.ref seg), .val (.ref t), .val (.int r9), .val (.int ng), .val (.int dd), .val (.int (1 : Int32)), .val (.int s13), .val (.int (1 : Int32)), .val (.int v1), .val (.int (1 : Int32)), .unset, .unset, .unset] []))
    refine own_join (fun x : State × Int32 => ∃ L', Stand p l e ({ frames := 10, cells := 96, slots := 8576, locals := 224 } : Room) (s.setVm vm0) m args below meth c x.1 L' 44 3100 ∧ Fr n0 L' ∧ x.1.heap = hh ∧ x.2 = (1 : Int32)) (fun x => x.1.setTop (mkF m 831 #[.val (.long xl), .second, .val (.int ci), .val (.int c0), .val (.int c1), .val (.int c2), .val (.int nn), .val (.ref seg), .val (.ref t), .val (.int r9), .val (.int ng), .val (.int dd), .val (.int (1 : Int32)), .val (.int s13), .val (.int (1 : Int32)), .val (.int v1), .val (.int (1 : Int32)), .val (.int x.2), .unset, .unset] [])) (fun J831 => ?_) (fun x hx831 => ?_)
    · skip
      refine own_iload (pc' := 809) X8 hx (hb hby at_807) rfl rfl ?_
      refine own_if_eq (pt := 824) (pf := 812) X8 hx (hb hby at_809) rfl (by decide) rfl (fun hc809 => ?_) (fun hc809 => ?_)
      · skip
        refine own_iconst (pc' := 825) X8 hx (1 : Int32) (hb hby at_824) rfl rfl ?_
        refine own_goto (pc' := 829) X8 hx (hb hby at_825) (by decide) rfl ?_
        refine own_istore (pc' := 831) (l' := #[.val (.long xl), .second, .val (.int ci), .val (.int c0), .val (.int c1), .val (.int c2), .val (.int nn), .val (.ref seg), .val (.ref t), .val (.int r9), .val (.int ng), .val (.int dd), .val (.int (1 : Int32)), .val (.int s13), .val (.int (1 : Int32)), .val (.int v1), .val (.int (1 : Int32)), .val (.int (1 : Int32)), .unset, .unset]) X8 hx (hb hby at_829) rfl rfl rfl ?_
        exact J831 ⟨T8, (1 : Int32)⟩ ⟨_, X8, N8, e8, rfl⟩
      · skip
        refine own_aload (pc' := 814) X8 hx (hb hby at_812) rfl rfl rfl ?_
        refine own_bipush (pc' := 816) X8 hx (21 : Int32) (hb hby at_814) rfl rfl ?_
        have hp10 : us = [.int (114 : Int32), .int (101 : Int32), .int (109 : Int32), .int (111 : Int32), .int (118 : Int32), .int (101 : Int32), .int (100 : Int32), .int (32 : Int32), .int (116 : Int32), .int (111 : Int32), .int (114 : Int32), .int (110 : Int32), .int (32 : Int32), .int (116 : Int32), .int (97 : Int32), .int (105 : Int32), .int (108 : Int32), .int (32 : Int32), .int (111 : Int32), .int (102 : Int32), .int (32 : Int32)] ++ .int (45 : Int32) :: ((List.range kk).map (fun i => Value.int (own_dig xl.toInt.natAbs (kk - 1 - i))) ++ ([.int (32 : Int32), .int (98 : Int32), .int (121 : Int32), .int (116 : Int32), .int (101 : Int32), .int (115 : Int32), .int (32 : Int32), .int (102 : Int32), .int (114 : Int32), .int (111 : Int32), .int (109 : Int32), .int (32 : Int32)] ++ ([.int (115 : Int32), .int (101 : Int32), .int (103 : Int32), .int (109 : Int32), .int (101 : Int32), .int (110 : Int32), .int (116 : Int32), .int (115 : Int32)] ++ ([.int (47 : Int32)] ++ ws)))) := by rw [hus, own_num, if_pos (hng.elim (fun q => absurd q hc809) id)]; simp
        have ht10 := own_getat (d := .int (0 : Int32)) hp10 (i := (21 : Int32)) (z1 := cn) rfl hul
        refine own_callV (pc' := 819) (W := 0) (y := (⟨"java/lang/String", "charAt", "(I)C"⟩ : MethodName)) (z := (⟨"java/lang/String", "charAt", "(I)C"⟩ : MethodName)) X8 hx hZ hown (own_w hw 219 rfl) (own_w hw 220 rfl) (notFace_of_selects (args := #[]) (mvT hZ (own_w hw 222 rfl))) (own_w hw 222 rfl) (own_w hw 221 rfl) (own_w hw 2 rfl) (own_w hw 223 rfl) (by decide) hE (con_charAt l Z a0 hw t (21 : Int32) _ n0 z0 G1 fm hG O0 tb ktb cn _ hE hC hV hA (45 : Int32) ht10.1 ht10.2) e8 pd32 [(.int (21 : Int32))] [] rfl rfl rfl (Nat.le_of_eq rfl) (by decide) (by decide) (by rw [hml]; rfl) (hb hby at_816) (by decide) (by decide) rfl ?_
        intro v9 T9 L9 X9 q9
        obtain ⟨r9, rfl, hr9, rfl, e9⟩ := q9
        have M9 := Fr.nil n0
        have N9 := Fr.app N8 M9
        obtain rfl : r9 = (45 : Int32) := by rw [hr9]; decide
        show own_WP _ _ _ _ _ _ _ (T9.setTop (mkF m 819 #[.val (.long xl), .second, .val (.int ci), .val (.int c0), .val (.int c1), .val (.int c2), .val (.int nn), .val (.ref seg), .val (.ref t), .val (.int r9), .val (.int ng), .val (.int dd), .val (.int (1 : Int32)), .val (.int s13), .val (.int (1 : Int32)), .val (.int v1), .val (.int (1 : Int32)), .unset, .unset, .unset] [(.int (45 : Int32))]))
        refine own_bipush (pc' := 821) X9 hx (45 : Int32) (hb hby at_819) rfl rfl ?_
        refine own_icmp_ne (pt := 828) (pf := 824) X9 hx (hb hby at_821) rfl (by decide) rfl (fun hc821 => absurd (by decide) hc821) (fun hc821 => ?_)
        refine own_iconst (pc' := 825) X9 hx (1 : Int32) (hb hby at_824) rfl rfl ?_
        refine own_goto (pc' := 829) X9 hx (hb hby at_825) (by decide) rfl ?_
        refine own_istore (pc' := 831) (l' := #[.val (.long xl), .second, .val (.int ci), .val (.int c0), .val (.int c1), .val (.int c2), .val (.int nn), .val (.ref seg), .val (.ref t), .val (.int r9), .val (.int ng), .val (.int dd), .val (.int (1 : Int32)), .val (.int s13), .val (.int (1 : Int32)), .val (.int v1), .val (.int (1 : Int32)), .val (.int (1 : Int32)), .unset, .unset]) X9 hx (hb hby at_829) rfl rfl rfl ?_
        exact J831 ⟨T9, (1 : Int32)⟩ ⟨_, X9, N9, e9, rfl⟩
    · obtain ⟨T11, sq⟩ := x
      obtain ⟨L11, X11, N11, e11, hj831⟩ := hx831
      have hj831 : sq = (1 : Int32) := hj831
      have e11 : T11.heap = hh := e11
      show own_WP _ _ _ _ _ _ _ (T11.setTop (mkF m 831 #[.val (.long xl), .second, .val (.int ci), .val (.int c0), .val (.int c1), .val (.int c2), .val (.int nn), .val (.ref seg), .val (.ref t), .val (.int r9), .val (.int ng), .val (.int dd), .val (.int (1 : Int32)), .val (.int s13), .val (.int (1 : Int32)), .val (.int v1), .val (.int (1 : Int32)), .val (.int sq), .unset, .unset] []))
      subst hj831
      show own_WP _ _ _ _ _ _ _ (T11.setTop (mkF m 831 #[.val (.long xl), .second, .val (.int ci), .val (.int c0), .val (.int c1), .val (.int c2), .val (.int nn), .val (.ref seg), .val (.ref t), .val (.int r9), .val (.int ng), .val (.int dd), .val (.int (1 : Int32)), .val (.int s13), .val (.int (1 : Int32)), .val (.int v1), .val (.int (1 : Int32)), .val (.int (1 : Int32)), .unset, .unset] []))
      refine own_bipush (pc' := 833) X11 hx (21 : Int32) (hb hby at_831) rfl rfl ?_
      refine own_iload (pc' := 835) X11 hx (hb hby at_833) rfl rfl ?_
      refine own_iadd (pc' := 836) X11 hx (hb hby at_835) rfl ?_
      obtain ⟨v12, hv12⟩ : ∃ z : Int32, z = ((21 : Int32) + dd) := ⟨_, rfl⟩
      refine own_istore (pc' := 838) (l' := #[.val (.long xl), .second, .val (.int ci), .val (.int c0), .val (.int c1), .val (.int c2), .val (.int nn), .val (.ref seg), .val (.ref t), .val (.int r9), .val (.int ng), .val (.int dd), .val (.int (1 : Int32)), .val (.int s13), .val (.int (1 : Int32)), .val (.int v1), .val (.int (1 : Int32)), .val (.int (1 : Int32)), .val (.int v12), .unset]) X11 hx (hb hby at_836) hv12 rfl rfl ?_
      have hen0 : v12.toInt = 21 + (kk : Int) + ng.toInt := by rw [own_add hv12 (by decide) (by omega)]; have e1 : (21 : Int32).toInt = 21 := rfl; omega
      have hen1 : (v12 - 1).toInt = 20 + (kk : Int) + ng.toInt := by rw [own_sub (z := v12 - 1) rfl (by omega) (by decide)]; have e1 : (1 : Int32).toInt = 1 := rfl; omega
      have hen : (v12 - 1).toInt = (([.int (114 : Int32), .int (101 : Int32), .int (109 : Int32), .int (111 : Int32), .int (118 : Int32), .int (101 : Int32), .int (100 : Int32), .int (32 : Int32), .int (116 : Int32), .int (111 : Int32), .int (114 : Int32), .int (110 : Int32), .int (32 : Int32), .int (116 : Int32), .int (97 : Int32), .int (105 : Int32), .int (108 : Int32), .int (32 : Int32), .int (111 : Int32), .int (102 : Int32), .int (32 : Int32)] : List Value).length : Int) + kk + ng.toInt - 1 := by rw [own_sub (z := v12 - 1) rfl (by omega) (by decide)]; have e1 : (1 : Int32).toInt = 1 := rfl; simp only [List.length_cons, List.length_nil]; omega
      refine own_aload (pc' := 840) X11 hx (hb hby at_838) rfl rfl rfl ?_
      refine own_iload (pc' := 842) X11 hx (hb hby at_840) rfl rfl ?_
      refine own_lloadN (pc' := 843) X11 hx (hb hby at_842) rfl rfl ?_
      refine own_iload (pc' := 845) X11 hx (hb hby at_843) rfl rfl ?_
      refine own_iconst (pc' := 846) X11 hx (0 : Int32) (hb hby at_845) rfl rfl ?_
      refine own_callS (pc' := 849) (W := 0) (y := (⟨"com/example/ossify/ossify/TornTailDescribePinLaw", "dig", "(Ljava/lang/String;IJII)Z"⟩ : MethodName)) X11 hx hZ hown (own_w hw 262 rfl) (own_w hw 263 rfl) (own_w hw 198 rfl) (own_w hw 264 rfl) (by decide) (con_dg l Z a0 hw t v12 xl r9 (0 : Int32) _ n0 z0 G1 fm hG O0 tb ktb cn _ hE hC hV hA xl.toInt.natAbs 0 rfl rfl (by decide) (own_dgP hng hus hen (by omega) rfl (by decide) h9 hul)) e11 pd37 [(.ref t), (.int v12), (.long xl), (.int r9), (.int (0 : Int32))] [] rfl rfl rfl (Nat.le_of_eq rfl) (by decide) (by decide) (by rw [hml]; rfl) (hb hby at_846) (by decide) (by decide) rfl ?_
      intro v13 T13 L13 X13 q13
      obtain ⟨rfl, M13, K13⟩ := q13
      obtain ⟨h13, e13⟩ : ∃ z, z = T13.heap := ⟨_, rfl⟩
      rw [← e13] at K13 
      have e13 := e13.symm
      have o13 : own_Old Z n0 h13 := O0.keep K13 all0
      have kz13 := Nat.le_trans kz0 K13.1
      have z13 : n0 ≤ h13.size := Nat.le_trans z0 K13.1
      have N13 := Fr.app N11 M13
      show own_WP _ _ _ _ _ _ _ (T13.setTop (mkF m 849 #[.val (.long xl), .second, .val (.int ci), .val (.int c0), .val (.int c1), .val (.int c2), .val (.int nn), .val (.ref seg), .val (.ref t), .val (.int r9), .val (.int ng), .val (.int dd), .val (.int (1 : Int32)), .val (.int s13), .val (.int (1 : Int32)), .val (.int v1), .val (.int (1 : Int32)), .val (.int (1 : Int32)), .val (.int v12), .unset] [(.int (1 : Int32))]))
      refine own_if_eq (pt := 1121) (pf := 852) X13 hx (hb hby at_849) rfl (by decide) rfl (fun hc849 => absurd hc849 (by decide)) (fun hc849 => ?_)
      refine own_aload (pc' := 854) X13 hx (hb hby at_852) rfl rfl rfl ?_
      refine own_iload (pc' := 856) X13 hx (hb hby at_854) rfl rfl ?_
      refine own_lloadN (pc' := 857) X13 hx (hb hby at_856) rfl rfl ?_
      refine own_iload (pc' := 859) X13 hx (hb hby at_857) rfl rfl ?_
      refine own_iconst (pc' := 860) X13 hx (1 : Int32) (hb hby at_859) rfl rfl ?_
      have f15 := (hE.keep K13)
      have f16 := (hC.keep K13 nin0)
      have f17 := (hV.keep K13 nin0)
      have f18 := (hA.keep K13 nin0)
      refine own_callS (pc' := 863) (W := 0) (y := (⟨"com/example/ossify/ossify/TornTailDescribePinLaw", "dig", "(Ljava/lang/String;IJII)Z"⟩ : MethodName)) X13 hx hZ hown (own_w hw 262 rfl) (own_w hw 263 rfl) (own_w hw 198 rfl) (own_w hw 264 rfl) (by decide) (con_dg l Z a0 hw t v12 xl r9 (1 : Int32) _ n0 z13 G1 fm hG o13 tb ktb cn _ f15 f16 f17 f18 xl.toInt.natAbs 1 rfl rfl (by decide) (own_dgP hng hus hen (by omega) rfl (by decide) h9 hul)) e13 pd37 [(.ref t), (.int v12), (.long xl), (.int r9), (.int (1 : Int32))] [] rfl rfl rfl (Nat.le_of_eq rfl) (by decide) (by decide) (by rw [hml]; rfl) (hb hby at_860) (by decide) (by decide) rfl ?_
      intro v14 T14 L14 X14 q14
      obtain ⟨rfl, M14, K14⟩ := q14
      obtain ⟨h14, e14⟩ : ∃ z, z = T14.heap := ⟨_, rfl⟩
      rw [← e14] at K14 
      have e14 := e14.symm
      have o14 : own_Old Z n0 h14 := o13.keep K14 all0
      have kz14 := Nat.le_trans kz13 K14.1
      have z14 : n0 ≤ h14.size := Nat.le_trans z13 K14.1
      have N14 := Fr.app N13 M14
      show own_WP _ _ _ _ _ _ _ (T14.setTop (mkF m 863 #[.val (.long xl), .second, .val (.int ci), .val (.int c0), .val (.int c1), .val (.int c2), .val (.int nn), .val (.ref seg), .val (.ref t), .val (.int r9), .val (.int ng), .val (.int dd), .val (.int (1 : Int32)), .val (.int s13), .val (.int (1 : Int32)), .val (.int v1), .val (.int (1 : Int32)), .val (.int (1 : Int32)), .val (.int v12), .unset] [(.int (1 : Int32))]))
      refine own_if_eq (pt := 1121) (pf := 866) X14 hx (hb hby at_863) rfl (by decide) rfl (fun hc863 => absurd hc863 (by decide)) (fun hc863 => ?_)
      refine own_aload (pc' := 868) X14 hx (hb hby at_866) rfl rfl rfl ?_
      refine own_iload (pc' := 870) X14 hx (hb hby at_868) rfl rfl ?_
      refine own_lloadN (pc' := 871) X14 hx (hb hby at_870) rfl rfl ?_
      refine own_iload (pc' := 873) X14 hx (hb hby at_871) rfl rfl ?_
      refine own_iconst (pc' := 874) X14 hx (2 : Int32) (hb hby at_873) rfl rfl ?_
      have f20 := (f15.keep K14)
      have f21 := (f16.keep K14 nin0)
      have f22 := (f17.keep K14 nin0)
      have f23 := (f18.keep K14 nin0)
      refine own_callS (pc' := 877) (W := 0) (y := (⟨"com/example/ossify/ossify/TornTailDescribePinLaw", "dig", "(Ljava/lang/String;IJII)Z"⟩ : MethodName)) X14 hx hZ hown (own_w hw 262 rfl) (own_w hw 263 rfl) (own_w hw 198 rfl) (own_w hw 264 rfl) (by decide) (con_dg l Z a0 hw t v12 xl r9 (2 : Int32) _ n0 z14 G1 fm hG o14 tb ktb cn _ f20 f21 f22 f23 xl.toInt.natAbs 2 rfl rfl (by decide) (own_dgP hng hus hen (by omega) rfl (by decide) h9 hul)) e14 pd37 [(.ref t), (.int v12), (.long xl), (.int r9), (.int (2 : Int32))] [] rfl rfl rfl (Nat.le_of_eq rfl) (by decide) (by decide) (by rw [hml]; rfl) (hb hby at_874) (by decide) (by decide) rfl ?_
      intro v19 T19 L19 X19 q19
      obtain ⟨rfl, M19, K19⟩ := q19
      obtain ⟨h19, e19⟩ : ∃ z, z = T19.heap := ⟨_, rfl⟩
      rw [← e19] at K19 
      have e19 := e19.symm
      have o19 : own_Old Z n0 h19 := o14.keep K19 all0
      have kz19 := Nat.le_trans kz14 K19.1
      have z19 : n0 ≤ h19.size := Nat.le_trans z14 K19.1
      have N19 := Fr.app N14 M19
      show own_WP _ _ _ _ _ _ _ (T19.setTop (mkF m 877 #[.val (.long xl), .second, .val (.int ci), .val (.int c0), .val (.int c1), .val (.int c2), .val (.int nn), .val (.ref seg), .val (.ref t), .val (.int r9), .val (.int ng), .val (.int dd), .val (.int (1 : Int32)), .val (.int s13), .val (.int (1 : Int32)), .val (.int v1), .val (.int (1 : Int32)), .val (.int (1 : Int32)), .val (.int v12), .unset] [(.int (1 : Int32))]))
      refine own_if_eq (pt := 1121) (pf := 880) X19 hx (hb hby at_877) rfl (by decide) rfl (fun hc877 => absurd hc877 (by decide)) (fun hc877 => ?_)
      refine own_aload (pc' := 882) X19 hx (hb hby at_880) rfl rfl rfl ?_
      refine own_iload (pc' := 884) X19 hx (hb hby at_882) rfl rfl ?_
      refine own_lloadN (pc' := 885) X19 hx (hb hby at_884) rfl rfl ?_
      refine own_iload (pc' := 887) X19 hx (hb hby at_885) rfl rfl ?_
      refine own_iconst (pc' := 888) X19 hx (3 : Int32) (hb hby at_887) rfl rfl ?_
      have f25 := (f20.keep K19)
      have f26 := (f21.keep K19 nin0)
      have f27 := (f22.keep K19 nin0)
      have f28 := (f23.keep K19 nin0)
      refine own_callS (pc' := 891) (W := 0) (y := (⟨"com/example/ossify/ossify/TornTailDescribePinLaw", "dig", "(Ljava/lang/String;IJII)Z"⟩ : MethodName)) X19 hx hZ hown (own_w hw 262 rfl) (own_w hw 263 rfl) (own_w hw 198 rfl) (own_w hw 264 rfl) (by decide) (con_dg l Z a0 hw t v12 xl r9 (3 : Int32) _ n0 z19 G1 fm hG o19 tb ktb cn _ f25 f26 f27 f28 xl.toInt.natAbs 3 rfl rfl (by decide) (own_dgP hng hus hen (by omega) rfl (by decide) h9 hul)) e19 pd37 [(.ref t), (.int v12), (.long xl), (.int r9), (.int (3 : Int32))] [] rfl rfl rfl (Nat.le_of_eq rfl) (by decide) (by decide) (by rw [hml]; rfl) (hb hby at_888) (by decide) (by decide) rfl ?_
      intro v24 T24 L24 X24 q24
      obtain ⟨rfl, M24, K24⟩ := q24
      obtain ⟨h24, e24⟩ : ∃ z, z = T24.heap := ⟨_, rfl⟩
      rw [← e24] at K24 
      have e24 := e24.symm
      have o24 : own_Old Z n0 h24 := o19.keep K24 all0
      have kz24 := Nat.le_trans kz19 K24.1
      have z24 : n0 ≤ h24.size := Nat.le_trans z19 K24.1
      have N24 := Fr.app N19 M24
      show own_WP _ _ _ _ _ _ _ (T24.setTop (mkF m 891 #[.val (.long xl), .second, .val (.int ci), .val (.int c0), .val (.int c1), .val (.int c2), .val (.int nn), .val (.ref seg), .val (.ref t), .val (.int r9), .val (.int ng), .val (.int dd), .val (.int (1 : Int32)), .val (.int s13), .val (.int (1 : Int32)), .val (.int v1), .val (.int (1 : Int32)), .val (.int (1 : Int32)), .val (.int v12), .unset] [(.int (1 : Int32))]))
      refine own_if_eq (pt := 1121) (pf := 894) X24 hx (hb hby at_891) rfl (by decide) rfl (fun hc891 => absurd hc891 (by decide)) (fun hc891 => ?_)
      refine own_aload (pc' := 896) X24 hx (hb hby at_894) rfl rfl rfl ?_
      refine own_iload (pc' := 898) X24 hx (hb hby at_896) rfl rfl ?_
      refine own_lloadN (pc' := 899) X24 hx (hb hby at_898) rfl rfl ?_
      refine own_iload (pc' := 901) X24 hx (hb hby at_899) rfl rfl ?_
      refine own_iconst (pc' := 902) X24 hx (4 : Int32) (hb hby at_901) rfl rfl ?_
      have f30 := (f25.keep K24)
      have f31 := (f26.keep K24 nin0)
      have f32 := (f27.keep K24 nin0)
      have f33 := (f28.keep K24 nin0)
      refine own_callS (pc' := 905) (W := 0) (y := (⟨"com/example/ossify/ossify/TornTailDescribePinLaw", "dig", "(Ljava/lang/String;IJII)Z"⟩ : MethodName)) X24 hx hZ hown (own_w hw 262 rfl) (own_w hw 263 rfl) (own_w hw 198 rfl) (own_w hw 264 rfl) (by decide) (con_dg l Z a0 hw t v12 xl r9 (4 : Int32) _ n0 z24 G1 fm hG o24 tb ktb cn _ f30 f31 f32 f33 xl.toInt.natAbs 4 rfl rfl (by decide) (own_dgP hng hus hen (by omega) rfl (by decide) h9 hul)) e24 pd37 [(.ref t), (.int v12), (.long xl), (.int r9), (.int (4 : Int32))] [] rfl rfl rfl (Nat.le_of_eq rfl) (by decide) (by decide) (by rw [hml]; rfl) (hb hby at_902) (by decide) (by decide) rfl ?_
      intro v29 T29 L29 X29 q29
      obtain ⟨rfl, M29, K29⟩ := q29
      obtain ⟨h29, e29⟩ : ∃ z, z = T29.heap := ⟨_, rfl⟩
      rw [← e29] at K29 
      have e29 := e29.symm
      have o29 : own_Old Z n0 h29 := o24.keep K29 all0
      have kz29 := Nat.le_trans kz24 K29.1
      have z29 : n0 ≤ h29.size := Nat.le_trans z24 K29.1
      have N29 := Fr.app N24 M29
      show own_WP _ _ _ _ _ _ _ (T29.setTop (mkF m 905 #[.val (.long xl), .second, .val (.int ci), .val (.int c0), .val (.int c1), .val (.int c2), .val (.int nn), .val (.ref seg), .val (.ref t), .val (.int r9), .val (.int ng), .val (.int dd), .val (.int (1 : Int32)), .val (.int s13), .val (.int (1 : Int32)), .val (.int v1), .val (.int (1 : Int32)), .val (.int (1 : Int32)), .val (.int v12), .unset] [(.int (1 : Int32))]))
      refine own_if_eq (pt := 1121) (pf := 908) X29 hx (hb hby at_905) rfl (by decide) rfl (fun hc905 => absurd hc905 (by decide)) (fun hc905 => ?_)
      refine own_aload (pc' := 910) X29 hx (hb hby at_908) rfl rfl rfl ?_
      refine own_iload (pc' := 912) X29 hx (hb hby at_910) rfl rfl ?_
      refine own_lloadN (pc' := 913) X29 hx (hb hby at_912) rfl rfl ?_
      refine own_iload (pc' := 915) X29 hx (hb hby at_913) rfl rfl ?_
      refine own_iconst (pc' := 916) X29 hx (5 : Int32) (hb hby at_915) rfl rfl ?_
      have f35 := (f30.keep K29)
      have f36 := (f31.keep K29 nin0)
      have f37 := (f32.keep K29 nin0)
      have f38 := (f33.keep K29 nin0)
      refine own_callS (pc' := 919) (W := 0) (y := (⟨"com/example/ossify/ossify/TornTailDescribePinLaw", "dig", "(Ljava/lang/String;IJII)Z"⟩ : MethodName)) X29 hx hZ hown (own_w hw 262 rfl) (own_w hw 263 rfl) (own_w hw 198 rfl) (own_w hw 264 rfl) (by decide) (con_dg l Z a0 hw t v12 xl r9 (5 : Int32) _ n0 z29 G1 fm hG o29 tb ktb cn _ f35 f36 f37 f38 xl.toInt.natAbs 5 rfl rfl (by decide) (own_dgP hng hus hen (by omega) rfl (by decide) h9 hul)) e29 pd37 [(.ref t), (.int v12), (.long xl), (.int r9), (.int (5 : Int32))] [] rfl rfl rfl (Nat.le_of_eq rfl) (by decide) (by decide) (by rw [hml]; rfl) (hb hby at_916) (by decide) (by decide) rfl ?_
      intro v34 T34 L34 X34 q34
      obtain ⟨rfl, M34, K34⟩ := q34
      obtain ⟨h34, e34⟩ : ∃ z, z = T34.heap := ⟨_, rfl⟩
      rw [← e34] at K34 
      have e34 := e34.symm
      have o34 : own_Old Z n0 h34 := o29.keep K34 all0
      have kz34 := Nat.le_trans kz29 K34.1
      have z34 : n0 ≤ h34.size := Nat.le_trans z29 K34.1
      have N34 := Fr.app N29 M34
      show own_WP _ _ _ _ _ _ _ (T34.setTop (mkF m 919 #[.val (.long xl), .second, .val (.int ci), .val (.int c0), .val (.int c1), .val (.int c2), .val (.int nn), .val (.ref seg), .val (.ref t), .val (.int r9), .val (.int ng), .val (.int dd), .val (.int (1 : Int32)), .val (.int s13), .val (.int (1 : Int32)), .val (.int v1), .val (.int (1 : Int32)), .val (.int (1 : Int32)), .val (.int v12), .unset] [(.int (1 : Int32))]))
      refine own_if_eq (pt := 1121) (pf := 922) X34 hx (hb hby at_919) rfl (by decide) rfl (fun hc919 => absurd hc919 (by decide)) (fun hc919 => ?_)
      refine own_aload (pc' := 924) X34 hx (hb hby at_922) rfl rfl rfl ?_
      refine own_iload (pc' := 926) X34 hx (hb hby at_924) rfl rfl ?_
      refine own_lloadN (pc' := 927) X34 hx (hb hby at_926) rfl rfl ?_
      refine own_iload (pc' := 929) X34 hx (hb hby at_927) rfl rfl ?_
      refine own_bipush (pc' := 931) X34 hx (6 : Int32) (hb hby at_929) rfl rfl ?_
      have f40 := (f35.keep K34)
      have f41 := (f36.keep K34 nin0)
      have f42 := (f37.keep K34 nin0)
      have f43 := (f38.keep K34 nin0)
      refine own_callS (pc' := 934) (W := 0) (y := (⟨"com/example/ossify/ossify/TornTailDescribePinLaw", "dig", "(Ljava/lang/String;IJII)Z"⟩ : MethodName)) X34 hx hZ hown (own_w hw 262 rfl) (own_w hw 263 rfl) (own_w hw 198 rfl) (own_w hw 264 rfl) (by decide) (con_dg l Z a0 hw t v12 xl r9 (6 : Int32) _ n0 z34 G1 fm hG o34 tb ktb cn _ f40 f41 f42 f43 xl.toInt.natAbs 6 rfl rfl (by decide) (own_dgP hng hus hen (by omega) rfl (by decide) h9 hul)) e34 pd37 [(.ref t), (.int v12), (.long xl), (.int r9), (.int (6 : Int32))] [] rfl rfl rfl (Nat.le_of_eq rfl) (by decide) (by decide) (by rw [hml]; rfl) (hb hby at_931) (by decide) (by decide) rfl ?_
      intro v39 T39 L39 X39 q39
      obtain ⟨rfl, M39, K39⟩ := q39
      obtain ⟨h39, e39⟩ : ∃ z, z = T39.heap := ⟨_, rfl⟩
      rw [← e39] at K39 
      have e39 := e39.symm
      have o39 : own_Old Z n0 h39 := o34.keep K39 all0
      have kz39 := Nat.le_trans kz34 K39.1
      have z39 : n0 ≤ h39.size := Nat.le_trans z34 K39.1
      have N39 := Fr.app N34 M39
      show own_WP _ _ _ _ _ _ _ (T39.setTop (mkF m 934 #[.val (.long xl), .second, .val (.int ci), .val (.int c0), .val (.int c1), .val (.int c2), .val (.int nn), .val (.ref seg), .val (.ref t), .val (.int r9), .val (.int ng), .val (.int dd), .val (.int (1 : Int32)), .val (.int s13), .val (.int (1 : Int32)), .val (.int v1), .val (.int (1 : Int32)), .val (.int (1 : Int32)), .val (.int v12), .unset] [(.int (1 : Int32))]))
      refine own_if_eq (pt := 1121) (pf := 937) X39 hx (hb hby at_934) rfl (by decide) rfl (fun hc934 => absurd hc934 (by decide)) (fun hc934 => ?_)
      refine own_aload (pc' := 939) X39 hx (hb hby at_937) rfl rfl rfl ?_
      refine own_iload (pc' := 941) X39 hx (hb hby at_939) rfl rfl ?_
      refine own_lloadN (pc' := 942) X39 hx (hb hby at_941) rfl rfl ?_
      refine own_iload (pc' := 944) X39 hx (hb hby at_942) rfl rfl ?_
      refine own_bipush (pc' := 946) X39 hx (7 : Int32) (hb hby at_944) rfl rfl ?_
      have f45 := (f40.keep K39)
      have f46 := (f41.keep K39 nin0)
      have f47 := (f42.keep K39 nin0)
      have f48 := (f43.keep K39 nin0)
      refine own_callS (pc' := 949) (W := 0) (y := (⟨"com/example/ossify/ossify/TornTailDescribePinLaw", "dig", "(Ljava/lang/String;IJII)Z"⟩ : MethodName)) X39 hx hZ hown (own_w hw 262 rfl) (own_w hw 263 rfl) (own_w hw 198 rfl) (own_w hw 264 rfl) (by decide) (con_dg l Z a0 hw t v12 xl r9 (7 : Int32) _ n0 z39 G1 fm hG o39 tb ktb cn _ f45 f46 f47 f48 xl.toInt.natAbs 7 rfl rfl (by decide) (own_dgP hng hus hen (by omega) rfl (by decide) h9 hul)) e39 pd37 [(.ref t), (.int v12), (.long xl), (.int r9), (.int (7 : Int32))] [] rfl rfl rfl (Nat.le_of_eq rfl) (by decide) (by decide) (by rw [hml]; rfl) (hb hby at_946) (by decide) (by decide) rfl ?_
      intro v44 T44 L44 X44 q44
      obtain ⟨rfl, M44, K44⟩ := q44
      obtain ⟨h44, e44⟩ : ∃ z, z = T44.heap := ⟨_, rfl⟩
      rw [← e44] at K44 
      have e44 := e44.symm
      have o44 : own_Old Z n0 h44 := o39.keep K44 all0
      have kz44 := Nat.le_trans kz39 K44.1
      have z44 : n0 ≤ h44.size := Nat.le_trans z39 K44.1
      have N44 := Fr.app N39 M44
      show own_WP _ _ _ _ _ _ _ (T44.setTop (mkF m 949 #[.val (.long xl), .second, .val (.int ci), .val (.int c0), .val (.int c1), .val (.int c2), .val (.int nn), .val (.ref seg), .val (.ref t), .val (.int r9), .val (.int ng), .val (.int dd), .val (.int (1 : Int32)), .val (.int s13), .val (.int (1 : Int32)), .val (.int v1), .val (.int (1 : Int32)), .val (.int (1 : Int32)), .val (.int v12), .unset] [(.int (1 : Int32))]))
      refine own_if_eq (pt := 1121) (pf := 952) X44 hx (hb hby at_949) rfl (by decide) rfl (fun hc949 => absurd hc949 (by decide)) (fun hc949 => ?_)
      refine own_aload (pc' := 954) X44 hx (hb hby at_952) rfl rfl rfl ?_
      refine own_iload (pc' := 956) X44 hx (hb hby at_954) rfl rfl ?_
      refine own_lloadN (pc' := 957) X44 hx (hb hby at_956) rfl rfl ?_
      refine own_iload (pc' := 959) X44 hx (hb hby at_957) rfl rfl ?_
      refine own_bipush (pc' := 961) X44 hx (8 : Int32) (hb hby at_959) rfl rfl ?_
      have f50 := (f45.keep K44)
      have f51 := (f46.keep K44 nin0)
      have f52 := (f47.keep K44 nin0)
      have f53 := (f48.keep K44 nin0)
      refine own_callS (pc' := 964) (W := 0) (y := (⟨"com/example/ossify/ossify/TornTailDescribePinLaw", "dig", "(Ljava/lang/String;IJII)Z"⟩ : MethodName)) X44 hx hZ hown (own_w hw 262 rfl) (own_w hw 263 rfl) (own_w hw 198 rfl) (own_w hw 264 rfl) (by decide) (con_dg l Z a0 hw t v12 xl r9 (8 : Int32) _ n0 z44 G1 fm hG o44 tb ktb cn _ f50 f51 f52 f53 xl.toInt.natAbs 8 rfl rfl (by decide) (own_dgP hng hus hen (by omega) rfl (by decide) h9 hul)) e44 pd37 [(.ref t), (.int v12), (.long xl), (.int r9), (.int (8 : Int32))] [] rfl rfl rfl (Nat.le_of_eq rfl) (by decide) (by decide) (by rw [hml]; rfl) (hb hby at_961) (by decide) (by decide) rfl ?_
      intro v49 T49 L49 X49 q49
      obtain ⟨rfl, M49, K49⟩ := q49
      obtain ⟨h49, e49⟩ : ∃ z, z = T49.heap := ⟨_, rfl⟩
      rw [← e49] at K49 
      have e49 := e49.symm
      have o49 : own_Old Z n0 h49 := o44.keep K49 all0
      have kz49 := Nat.le_trans kz44 K49.1
      have z49 : n0 ≤ h49.size := Nat.le_trans z44 K49.1
      have N49 := Fr.app N44 M49
      show own_WP _ _ _ _ _ _ _ (T49.setTop (mkF m 964 #[.val (.long xl), .second, .val (.int ci), .val (.int c0), .val (.int c1), .val (.int c2), .val (.int nn), .val (.ref seg), .val (.ref t), .val (.int r9), .val (.int ng), .val (.int dd), .val (.int (1 : Int32)), .val (.int s13), .val (.int (1 : Int32)), .val (.int v1), .val (.int (1 : Int32)), .val (.int (1 : Int32)), .val (.int v12), .unset] [(.int (1 : Int32))]))
      refine own_if_eq (pt := 1121) (pf := 967) X49 hx (hb hby at_964) rfl (by decide) rfl (fun hc964 => absurd hc964 (by decide)) (fun hc964 => ?_)
      refine own_aload (pc' := 969) X49 hx (hb hby at_967) rfl rfl rfl ?_
      refine own_iload (pc' := 971) X49 hx (hb hby at_969) rfl rfl ?_
      refine own_lloadN (pc' := 972) X49 hx (hb hby at_971) rfl rfl ?_
      refine own_iload (pc' := 974) X49 hx (hb hby at_972) rfl rfl ?_
      refine own_bipush (pc' := 976) X49 hx (9 : Int32) (hb hby at_974) rfl rfl ?_
      have f55 := (f50.keep K49)
      have f56 := (f51.keep K49 nin0)
      have f57 := (f52.keep K49 nin0)
      have f58 := (f53.keep K49 nin0)
      refine own_callS (pc' := 979) (W := 0) (y := (⟨"com/example/ossify/ossify/TornTailDescribePinLaw", "dig", "(Ljava/lang/String;IJII)Z"⟩ : MethodName)) X49 hx hZ hown (own_w hw 262 rfl) (own_w hw 263 rfl) (own_w hw 198 rfl) (own_w hw 264 rfl) (by decide) (con_dg l Z a0 hw t v12 xl r9 (9 : Int32) _ n0 z49 G1 fm hG o49 tb ktb cn _ f55 f56 f57 f58 xl.toInt.natAbs 9 rfl rfl (by decide) (own_dgP hng hus hen (by omega) rfl (by decide) h9 hul)) e49 pd37 [(.ref t), (.int v12), (.long xl), (.int r9), (.int (9 : Int32))] [] rfl rfl rfl (Nat.le_of_eq rfl) (by decide) (by decide) (by rw [hml]; rfl) (hb hby at_976) (by decide) (by decide) rfl ?_
      intro v54 T54 L54 X54 q54
      obtain ⟨rfl, M54, K54⟩ := q54
      obtain ⟨h54, e54⟩ : ∃ z, z = T54.heap := ⟨_, rfl⟩
      rw [← e54] at K54 
      have e54 := e54.symm
      have o54 : own_Old Z n0 h54 := o49.keep K54 all0
      have kz54 := Nat.le_trans kz49 K54.1
      have z54 : n0 ≤ h54.size := Nat.le_trans z49 K54.1
      have N54 := Fr.app N49 M54
      show own_WP _ _ _ _ _ _ _ (T54.setTop (mkF m 979 #[.val (.long xl), .second, .val (.int ci), .val (.int c0), .val (.int c1), .val (.int c2), .val (.int nn), .val (.ref seg), .val (.ref t), .val (.int r9), .val (.int ng), .val (.int dd), .val (.int (1 : Int32)), .val (.int s13), .val (.int (1 : Int32)), .val (.int v1), .val (.int (1 : Int32)), .val (.int (1 : Int32)), .val (.int v12), .unset] [(.int (1 : Int32))]))
      refine own_if_eq (pt := 1121) (pf := 982) X54 hx (hb hby at_979) rfl (by decide) rfl (fun hc979 => absurd hc979 (by decide)) (fun hc979 => ?_)
      refine own_aload (pc' := 984) X54 hx (hb hby at_982) rfl rfl rfl ?_
      refine own_iload (pc' := 986) X54 hx (hb hby at_984) rfl rfl ?_
      refine own_lloadN (pc' := 987) X54 hx (hb hby at_986) rfl rfl ?_
      refine own_iload (pc' := 989) X54 hx (hb hby at_987) rfl rfl ?_
      refine own_bipush (pc' := 991) X54 hx (10 : Int32) (hb hby at_989) rfl rfl ?_
      have f60 := (f55.keep K54)
      have f61 := (f56.keep K54 nin0)
      have f62 := (f57.keep K54 nin0)
      have f63 := (f58.keep K54 nin0)
      refine own_callS (pc' := 994) (W := 0) (y := (⟨"com/example/ossify/ossify/TornTailDescribePinLaw", "dig", "(Ljava/lang/String;IJII)Z"⟩ : MethodName)) X54 hx hZ hown (own_w hw 262 rfl) (own_w hw 263 rfl) (own_w hw 198 rfl) (own_w hw 264 rfl) (by decide) (con_dg l Z a0 hw t v12 xl r9 (10 : Int32) _ n0 z54 G1 fm hG o54 tb ktb cn _ f60 f61 f62 f63 xl.toInt.natAbs 10 rfl rfl (by decide) (own_dgP hng hus hen (by omega) rfl (by decide) h9 hul)) e54 pd37 [(.ref t), (.int v12), (.long xl), (.int r9), (.int (10 : Int32))] [] rfl rfl rfl (Nat.le_of_eq rfl) (by decide) (by decide) (by rw [hml]; rfl) (hb hby at_991) (by decide) (by decide) rfl ?_
      intro v59 T59 L59 X59 q59
      obtain ⟨rfl, M59, K59⟩ := q59
      obtain ⟨h59, e59⟩ : ∃ z, z = T59.heap := ⟨_, rfl⟩
      rw [← e59] at K59 
      have e59 := e59.symm
      have o59 : own_Old Z n0 h59 := o54.keep K59 all0
      have kz59 := Nat.le_trans kz54 K59.1
      have z59 : n0 ≤ h59.size := Nat.le_trans z54 K59.1
      have N59 := Fr.app N54 M59
      show own_WP _ _ _ _ _ _ _ (T59.setTop (mkF m 994 #[.val (.long xl), .second, .val (.int ci), .val (.int c0), .val (.int c1), .val (.int c2), .val (.int nn), .val (.ref seg), .val (.ref t), .val (.int r9), .val (.int ng), .val (.int dd), .val (.int (1 : Int32)), .val (.int s13), .val (.int (1 : Int32)), .val (.int v1), .val (.int (1 : Int32)), .val (.int (1 : Int32)), .val (.int v12), .unset] [(.int (1 : Int32))]))
      refine own_if_eq (pt := 1121) (pf := 997) X59 hx (hb hby at_994) rfl (by decide) rfl (fun hc994 => absurd hc994 (by decide)) (fun hc994 => ?_)
      refine own_aload (pc' := 999) X59 hx (hb hby at_997) rfl rfl rfl ?_
      refine own_iload (pc' := 1001) X59 hx (hb hby at_999) rfl rfl ?_
      refine own_lloadN (pc' := 1002) X59 hx (hb hby at_1001) rfl rfl ?_
      refine own_iload (pc' := 1004) X59 hx (hb hby at_1002) rfl rfl ?_
      refine own_bipush (pc' := 1006) X59 hx (11 : Int32) (hb hby at_1004) rfl rfl ?_
      have f65 := (f60.keep K59)
      have f66 := (f61.keep K59 nin0)
      have f67 := (f62.keep K59 nin0)
      have f68 := (f63.keep K59 nin0)
      refine own_callS (pc' := 1009) (W := 0) (y := (⟨"com/example/ossify/ossify/TornTailDescribePinLaw", "dig", "(Ljava/lang/String;IJII)Z"⟩ : MethodName)) X59 hx hZ hown (own_w hw 262 rfl) (own_w hw 263 rfl) (own_w hw 198 rfl) (own_w hw 264 rfl) (by decide) (con_dg l Z a0 hw t v12 xl r9 (11 : Int32) _ n0 z59 G1 fm hG o59 tb ktb cn _ f65 f66 f67 f68 xl.toInt.natAbs 11 rfl rfl (by decide) (own_dgP hng hus hen (by omega) rfl (by decide) h9 hul)) e59 pd37 [(.ref t), (.int v12), (.long xl), (.int r9), (.int (11 : Int32))] [] rfl rfl rfl (Nat.le_of_eq rfl) (by decide) (by decide) (by rw [hml]; rfl) (hb hby at_1006) (by decide) (by decide) rfl ?_
      intro v64 T64 L64 X64 q64
      obtain ⟨rfl, M64, K64⟩ := q64
      obtain ⟨h64, e64⟩ : ∃ z, z = T64.heap := ⟨_, rfl⟩
      rw [← e64] at K64 
      have e64 := e64.symm
      have o64 : own_Old Z n0 h64 := o59.keep K64 all0
      have kz64 := Nat.le_trans kz59 K64.1
      have z64 : n0 ≤ h64.size := Nat.le_trans z59 K64.1
      have N64 := Fr.app N59 M64
      show own_WP _ _ _ _ _ _ _ (T64.setTop (mkF m 1009 #[.val (.long xl), .second, .val (.int ci), .val (.int c0), .val (.int c1), .val (.int c2), .val (.int nn), .val (.ref seg), .val (.ref t), .val (.int r9), .val (.int ng), .val (.int dd), .val (.int (1 : Int32)), .val (.int s13), .val (.int (1 : Int32)), .val (.int v1), .val (.int (1 : Int32)), .val (.int (1 : Int32)), .val (.int v12), .unset] [(.int (1 : Int32))]))
      refine own_if_eq (pt := 1121) (pf := 1012) X64 hx (hb hby at_1009) rfl (by decide) rfl (fun hc1009 => absurd hc1009 (by decide)) (fun hc1009 => ?_)
      refine own_aload (pc' := 1014) X64 hx (hb hby at_1012) rfl rfl rfl ?_
      refine own_iload (pc' := 1016) X64 hx (hb hby at_1014) rfl rfl ?_
      refine own_lloadN (pc' := 1017) X64 hx (hb hby at_1016) rfl rfl ?_
      refine own_iload (pc' := 1019) X64 hx (hb hby at_1017) rfl rfl ?_
      refine own_bipush (pc' := 1021) X64 hx (12 : Int32) (hb hby at_1019) rfl rfl ?_
      have f70 := (f65.keep K64)
      have f71 := (f66.keep K64 nin0)
      have f72 := (f67.keep K64 nin0)
      have f73 := (f68.keep K64 nin0)
      refine own_callS (pc' := 1024) (W := 0) (y := (⟨"com/example/ossify/ossify/TornTailDescribePinLaw", "dig", "(Ljava/lang/String;IJII)Z"⟩ : MethodName)) X64 hx hZ hown (own_w hw 262 rfl) (own_w hw 263 rfl) (own_w hw 198 rfl) (own_w hw 264 rfl) (by decide) (con_dg l Z a0 hw t v12 xl r9 (12 : Int32) _ n0 z64 G1 fm hG o64 tb ktb cn _ f70 f71 f72 f73 xl.toInt.natAbs 12 rfl rfl (by decide) (own_dgP hng hus hen (by omega) rfl (by decide) h9 hul)) e64 pd37 [(.ref t), (.int v12), (.long xl), (.int r9), (.int (12 : Int32))] [] rfl rfl rfl (Nat.le_of_eq rfl) (by decide) (by decide) (by rw [hml]; rfl) (hb hby at_1021) (by decide) (by decide) rfl ?_
      intro v69 T69 L69 X69 q69
      obtain ⟨rfl, M69, K69⟩ := q69
      obtain ⟨h69, e69⟩ : ∃ z, z = T69.heap := ⟨_, rfl⟩
      rw [← e69] at K69 
      have e69 := e69.symm
      have o69 : own_Old Z n0 h69 := o64.keep K69 all0
      have kz69 := Nat.le_trans kz64 K69.1
      have z69 : n0 ≤ h69.size := Nat.le_trans z64 K69.1
      have N69 := Fr.app N64 M69
      show own_WP _ _ _ _ _ _ _ (T69.setTop (mkF m 1024 #[.val (.long xl), .second, .val (.int ci), .val (.int c0), .val (.int c1), .val (.int c2), .val (.int nn), .val (.ref seg), .val (.ref t), .val (.int r9), .val (.int ng), .val (.int dd), .val (.int (1 : Int32)), .val (.int s13), .val (.int (1 : Int32)), .val (.int v1), .val (.int (1 : Int32)), .val (.int (1 : Int32)), .val (.int v12), .unset] [(.int (1 : Int32))]))
      refine own_if_eq (pt := 1121) (pf := 1027) X69 hx (hb hby at_1024) rfl (by decide) rfl (fun hc1024 => absurd hc1024 (by decide)) (fun hc1024 => ?_)
      refine own_aload (pc' := 1029) X69 hx (hb hby at_1027) rfl rfl rfl ?_
      refine own_iload (pc' := 1031) X69 hx (hb hby at_1029) rfl rfl ?_
      refine own_lloadN (pc' := 1032) X69 hx (hb hby at_1031) rfl rfl ?_
      refine own_iload (pc' := 1034) X69 hx (hb hby at_1032) rfl rfl ?_
      refine own_bipush (pc' := 1036) X69 hx (13 : Int32) (hb hby at_1034) rfl rfl ?_
      have f75 := (f70.keep K69)
      have f76 := (f71.keep K69 nin0)
      have f77 := (f72.keep K69 nin0)
      have f78 := (f73.keep K69 nin0)
      refine own_callS (pc' := 1039) (W := 0) (y := (⟨"com/example/ossify/ossify/TornTailDescribePinLaw", "dig", "(Ljava/lang/String;IJII)Z"⟩ : MethodName)) X69 hx hZ hown (own_w hw 262 rfl) (own_w hw 263 rfl) (own_w hw 198 rfl) (own_w hw 264 rfl) (by decide) (con_dg l Z a0 hw t v12 xl r9 (13 : Int32) _ n0 z69 G1 fm hG o69 tb ktb cn _ f75 f76 f77 f78 xl.toInt.natAbs 13 rfl rfl (by decide) (own_dgP hng hus hen (by omega) rfl (by decide) h9 hul)) e69 pd37 [(.ref t), (.int v12), (.long xl), (.int r9), (.int (13 : Int32))] [] rfl rfl rfl (Nat.le_of_eq rfl) (by decide) (by decide) (by rw [hml]; rfl) (hb hby at_1036) (by decide) (by decide) rfl ?_
      intro v74 T74 L74 X74 q74
      obtain ⟨rfl, M74, K74⟩ := q74
      obtain ⟨h74, e74⟩ : ∃ z, z = T74.heap := ⟨_, rfl⟩
      rw [← e74] at K74 
      have e74 := e74.symm
      have o74 : own_Old Z n0 h74 := o69.keep K74 all0
      have kz74 := Nat.le_trans kz69 K74.1
      have z74 : n0 ≤ h74.size := Nat.le_trans z69 K74.1
      have N74 := Fr.app N69 M74
      show own_WP _ _ _ _ _ _ _ (T74.setTop (mkF m 1039 #[.val (.long xl), .second, .val (.int ci), .val (.int c0), .val (.int c1), .val (.int c2), .val (.int nn), .val (.ref seg), .val (.ref t), .val (.int r9), .val (.int ng), .val (.int dd), .val (.int (1 : Int32)), .val (.int s13), .val (.int (1 : Int32)), .val (.int v1), .val (.int (1 : Int32)), .val (.int (1 : Int32)), .val (.int v12), .unset] [(.int (1 : Int32))]))
      refine own_if_eq (pt := 1121) (pf := 1042) X74 hx (hb hby at_1039) rfl (by decide) rfl (fun hc1039 => absurd hc1039 (by decide)) (fun hc1039 => ?_)
      refine own_aload (pc' := 1044) X74 hx (hb hby at_1042) rfl rfl rfl ?_
      refine own_iload (pc' := 1046) X74 hx (hb hby at_1044) rfl rfl ?_
      refine own_lloadN (pc' := 1047) X74 hx (hb hby at_1046) rfl rfl ?_
      refine own_iload (pc' := 1049) X74 hx (hb hby at_1047) rfl rfl ?_
      refine own_bipush (pc' := 1051) X74 hx (14 : Int32) (hb hby at_1049) rfl rfl ?_
      have f80 := (f75.keep K74)
      have f81 := (f76.keep K74 nin0)
      have f82 := (f77.keep K74 nin0)
      have f83 := (f78.keep K74 nin0)
      refine own_callS (pc' := 1054) (W := 0) (y := (⟨"com/example/ossify/ossify/TornTailDescribePinLaw", "dig", "(Ljava/lang/String;IJII)Z"⟩ : MethodName)) X74 hx hZ hown (own_w hw 262 rfl) (own_w hw 263 rfl) (own_w hw 198 rfl) (own_w hw 264 rfl) (by decide) (con_dg l Z a0 hw t v12 xl r9 (14 : Int32) _ n0 z74 G1 fm hG o74 tb ktb cn _ f80 f81 f82 f83 xl.toInt.natAbs 14 rfl rfl (by decide) (own_dgP hng hus hen (by omega) rfl (by decide) h9 hul)) e74 pd37 [(.ref t), (.int v12), (.long xl), (.int r9), (.int (14 : Int32))] [] rfl rfl rfl (Nat.le_of_eq rfl) (by decide) (by decide) (by rw [hml]; rfl) (hb hby at_1051) (by decide) (by decide) rfl ?_
      intro v79 T79 L79 X79 q79
      obtain ⟨rfl, M79, K79⟩ := q79
      obtain ⟨h79, e79⟩ : ∃ z, z = T79.heap := ⟨_, rfl⟩
      rw [← e79] at K79 
      have e79 := e79.symm
      have o79 : own_Old Z n0 h79 := o74.keep K79 all0
      have kz79 := Nat.le_trans kz74 K79.1
      have z79 : n0 ≤ h79.size := Nat.le_trans z74 K79.1
      have N79 := Fr.app N74 M79
      show own_WP _ _ _ _ _ _ _ (T79.setTop (mkF m 1054 #[.val (.long xl), .second, .val (.int ci), .val (.int c0), .val (.int c1), .val (.int c2), .val (.int nn), .val (.ref seg), .val (.ref t), .val (.int r9), .val (.int ng), .val (.int dd), .val (.int (1 : Int32)), .val (.int s13), .val (.int (1 : Int32)), .val (.int v1), .val (.int (1 : Int32)), .val (.int (1 : Int32)), .val (.int v12), .unset] [(.int (1 : Int32))]))
      refine own_if_eq (pt := 1121) (pf := 1057) X79 hx (hb hby at_1054) rfl (by decide) rfl (fun hc1054 => absurd hc1054 (by decide)) (fun hc1054 => ?_)
      refine own_aload (pc' := 1059) X79 hx (hb hby at_1057) rfl rfl rfl ?_
      refine own_iload (pc' := 1061) X79 hx (hb hby at_1059) rfl rfl ?_
      refine own_lloadN (pc' := 1062) X79 hx (hb hby at_1061) rfl rfl ?_
      refine own_iload (pc' := 1064) X79 hx (hb hby at_1062) rfl rfl ?_
      refine own_bipush (pc' := 1066) X79 hx (15 : Int32) (hb hby at_1064) rfl rfl ?_
      have f85 := (f80.keep K79)
      have f86 := (f81.keep K79 nin0)
      have f87 := (f82.keep K79 nin0)
      have f88 := (f83.keep K79 nin0)
      refine own_callS (pc' := 1069) (W := 0) (y := (⟨"com/example/ossify/ossify/TornTailDescribePinLaw", "dig", "(Ljava/lang/String;IJII)Z"⟩ : MethodName)) X79 hx hZ hown (own_w hw 262 rfl) (own_w hw 263 rfl) (own_w hw 198 rfl) (own_w hw 264 rfl) (by decide) (con_dg l Z a0 hw t v12 xl r9 (15 : Int32) _ n0 z79 G1 fm hG o79 tb ktb cn _ f85 f86 f87 f88 xl.toInt.natAbs 15 rfl rfl (by decide) (own_dgP hng hus hen (by omega) rfl (by decide) h9 hul)) e79 pd37 [(.ref t), (.int v12), (.long xl), (.int r9), (.int (15 : Int32))] [] rfl rfl rfl (Nat.le_of_eq rfl) (by decide) (by decide) (by rw [hml]; rfl) (hb hby at_1066) (by decide) (by decide) rfl ?_
      intro v84 T84 L84 X84 q84
      obtain ⟨rfl, M84, K84⟩ := q84
      obtain ⟨h84, e84⟩ : ∃ z, z = T84.heap := ⟨_, rfl⟩
      rw [← e84] at K84 
      have e84 := e84.symm
      have o84 : own_Old Z n0 h84 := o79.keep K84 all0
      have kz84 := Nat.le_trans kz79 K84.1
      have z84 : n0 ≤ h84.size := Nat.le_trans z79 K84.1
      have N84 := Fr.app N79 M84
      show own_WP _ _ _ _ _ _ _ (T84.setTop (mkF m 1069 #[.val (.long xl), .second, .val (.int ci), .val (.int c0), .val (.int c1), .val (.int c2), .val (.int nn), .val (.ref seg), .val (.ref t), .val (.int r9), .val (.int ng), .val (.int dd), .val (.int (1 : Int32)), .val (.int s13), .val (.int (1 : Int32)), .val (.int v1), .val (.int (1 : Int32)), .val (.int (1 : Int32)), .val (.int v12), .unset] [(.int (1 : Int32))]))
      refine own_if_eq (pt := 1121) (pf := 1072) X84 hx (hb hby at_1069) rfl (by decide) rfl (fun hc1069 => absurd hc1069 (by decide)) (fun hc1069 => ?_)
      refine own_aload (pc' := 1074) X84 hx (hb hby at_1072) rfl rfl rfl ?_
      refine own_iload (pc' := 1076) X84 hx (hb hby at_1074) rfl rfl ?_
      refine own_lloadN (pc' := 1077) X84 hx (hb hby at_1076) rfl rfl ?_
      refine own_iload (pc' := 1079) X84 hx (hb hby at_1077) rfl rfl ?_
      refine own_bipush (pc' := 1081) X84 hx (16 : Int32) (hb hby at_1079) rfl rfl ?_
      have f90 := (f85.keep K84)
      have f91 := (f86.keep K84 nin0)
      have f92 := (f87.keep K84 nin0)
      have f93 := (f88.keep K84 nin0)
      refine own_callS (pc' := 1084) (W := 0) (y := (⟨"com/example/ossify/ossify/TornTailDescribePinLaw", "dig", "(Ljava/lang/String;IJII)Z"⟩ : MethodName)) X84 hx hZ hown (own_w hw 262 rfl) (own_w hw 263 rfl) (own_w hw 198 rfl) (own_w hw 264 rfl) (by decide) (con_dg l Z a0 hw t v12 xl r9 (16 : Int32) _ n0 z84 G1 fm hG o84 tb ktb cn _ f90 f91 f92 f93 xl.toInt.natAbs 16 rfl rfl (by decide) (own_dgP hng hus hen (by omega) rfl (by decide) h9 hul)) e84 pd37 [(.ref t), (.int v12), (.long xl), (.int r9), (.int (16 : Int32))] [] rfl rfl rfl (Nat.le_of_eq rfl) (by decide) (by decide) (by rw [hml]; rfl) (hb hby at_1081) (by decide) (by decide) rfl ?_
      intro v89 T89 L89 X89 q89
      obtain ⟨rfl, M89, K89⟩ := q89
      obtain ⟨h89, e89⟩ : ∃ z, z = T89.heap := ⟨_, rfl⟩
      rw [← e89] at K89 
      have e89 := e89.symm
      have o89 : own_Old Z n0 h89 := o84.keep K89 all0
      have kz89 := Nat.le_trans kz84 K89.1
      have z89 : n0 ≤ h89.size := Nat.le_trans z84 K89.1
      have N89 := Fr.app N84 M89
      show own_WP _ _ _ _ _ _ _ (T89.setTop (mkF m 1084 #[.val (.long xl), .second, .val (.int ci), .val (.int c0), .val (.int c1), .val (.int c2), .val (.int nn), .val (.ref seg), .val (.ref t), .val (.int r9), .val (.int ng), .val (.int dd), .val (.int (1 : Int32)), .val (.int s13), .val (.int (1 : Int32)), .val (.int v1), .val (.int (1 : Int32)), .val (.int (1 : Int32)), .val (.int v12), .unset] [(.int (1 : Int32))]))
      refine own_if_eq (pt := 1121) (pf := 1087) X89 hx (hb hby at_1084) rfl (by decide) rfl (fun hc1084 => absurd hc1084 (by decide)) (fun hc1084 => ?_)
      refine own_aload (pc' := 1089) X89 hx (hb hby at_1087) rfl rfl rfl ?_
      refine own_iload (pc' := 1091) X89 hx (hb hby at_1089) rfl rfl ?_
      refine own_lloadN (pc' := 1092) X89 hx (hb hby at_1091) rfl rfl ?_
      refine own_iload (pc' := 1094) X89 hx (hb hby at_1092) rfl rfl ?_
      refine own_bipush (pc' := 1096) X89 hx (17 : Int32) (hb hby at_1094) rfl rfl ?_
      have f95 := (f90.keep K89)
      have f96 := (f91.keep K89 nin0)
      have f97 := (f92.keep K89 nin0)
      have f98 := (f93.keep K89 nin0)
      refine own_callS (pc' := 1099) (W := 0) (y := (⟨"com/example/ossify/ossify/TornTailDescribePinLaw", "dig", "(Ljava/lang/String;IJII)Z"⟩ : MethodName)) X89 hx hZ hown (own_w hw 262 rfl) (own_w hw 263 rfl) (own_w hw 198 rfl) (own_w hw 264 rfl) (by decide) (con_dg l Z a0 hw t v12 xl r9 (17 : Int32) _ n0 z89 G1 fm hG o89 tb ktb cn _ f95 f96 f97 f98 xl.toInt.natAbs 17 rfl rfl (by decide) (own_dgP hng hus hen (by omega) rfl (by decide) h9 hul)) e89 pd37 [(.ref t), (.int v12), (.long xl), (.int r9), (.int (17 : Int32))] [] rfl rfl rfl (Nat.le_of_eq rfl) (by decide) (by decide) (by rw [hml]; rfl) (hb hby at_1096) (by decide) (by decide) rfl ?_
      intro v94 T94 L94 X94 q94
      obtain ⟨rfl, M94, K94⟩ := q94
      obtain ⟨h94, e94⟩ : ∃ z, z = T94.heap := ⟨_, rfl⟩
      rw [← e94] at K94 
      have e94 := e94.symm
      have o94 : own_Old Z n0 h94 := o89.keep K94 all0
      have kz94 := Nat.le_trans kz89 K94.1
      have z94 : n0 ≤ h94.size := Nat.le_trans z89 K94.1
      have N94 := Fr.app N89 M94
      show own_WP _ _ _ _ _ _ _ (T94.setTop (mkF m 1099 #[.val (.long xl), .second, .val (.int ci), .val (.int c0), .val (.int c1), .val (.int c2), .val (.int nn), .val (.ref seg), .val (.ref t), .val (.int r9), .val (.int ng), .val (.int dd), .val (.int (1 : Int32)), .val (.int s13), .val (.int (1 : Int32)), .val (.int v1), .val (.int (1 : Int32)), .val (.int (1 : Int32)), .val (.int v12), .unset] [(.int (1 : Int32))]))
      refine own_if_eq (pt := 1121) (pf := 1102) X94 hx (hb hby at_1099) rfl (by decide) rfl (fun hc1099 => absurd hc1099 (by decide)) (fun hc1099 => ?_)
      refine own_aload (pc' := 1104) X94 hx (hb hby at_1102) rfl rfl rfl ?_
      refine own_iload (pc' := 1106) X94 hx (hb hby at_1104) rfl rfl ?_
      refine own_lloadN (pc' := 1107) X94 hx (hb hby at_1106) rfl rfl ?_
      refine own_iload (pc' := 1109) X94 hx (hb hby at_1107) rfl rfl ?_
      refine own_bipush (pc' := 1111) X94 hx (18 : Int32) (hb hby at_1109) rfl rfl ?_
      have f100 := (f95.keep K94)
      have f101 := (f96.keep K94 nin0)
      have f102 := (f97.keep K94 nin0)
      have f103 := (f98.keep K94 nin0)
      refine own_callS (pc' := 1114) (W := 0) (y := (⟨"com/example/ossify/ossify/TornTailDescribePinLaw", "dig", "(Ljava/lang/String;IJII)Z"⟩ : MethodName)) X94 hx hZ hown (own_w hw 262 rfl) (own_w hw 263 rfl) (own_w hw 198 rfl) (own_w hw 264 rfl) (by decide) (con_dg l Z a0 hw t v12 xl r9 (18 : Int32) _ n0 z94 G1 fm hG o94 tb ktb cn _ f100 f101 f102 f103 xl.toInt.natAbs 18 rfl rfl (by decide) (own_dgP hng hus hen (by omega) rfl (by decide) h9 hul)) e94 pd37 [(.ref t), (.int v12), (.long xl), (.int r9), (.int (18 : Int32))] [] rfl rfl rfl (Nat.le_of_eq rfl) (by decide) (by decide) (by rw [hml]; rfl) (hb hby at_1111) (by decide) (by decide) rfl ?_
      intro v99 T99 L99 X99 q99
      obtain ⟨rfl, M99, K99⟩ := q99
      obtain ⟨h99, e99⟩ : ∃ z, z = T99.heap := ⟨_, rfl⟩
      rw [← e99] at K99 
      have e99 := e99.symm
      have kz99 := Nat.le_trans kz94 K99.1
      have N99 := Fr.app N94 M99
      show own_WP _ _ _ _ _ _ _ (T99.setTop (mkF m 1114 #[.val (.long xl), .second, .val (.int ci), .val (.int c0), .val (.int c1), .val (.int c2), .val (.int nn), .val (.ref seg), .val (.ref t), .val (.int r9), .val (.int ng), .val (.int dd), .val (.int (1 : Int32)), .val (.int s13), .val (.int (1 : Int32)), .val (.int v1), .val (.int (1 : Int32)), .val (.int (1 : Int32)), .val (.int v12), .unset] [(.int (1 : Int32))]))
      refine own_if_eq (pt := 1121) (pf := 1117) X99 hx (hb hby at_1114) rfl (by decide) rfl (fun hc1114 => absurd hc1114 (by decide)) (fun hc1114 => ?_)
      refine own_iconst (pc' := 1118) X99 hx (1 : Int32) (hb hby at_1117) rfl rfl ?_
      refine own_goto (pc' := 1122) X99 hx (hb hby at_1118) (by decide) rfl ?_
      refine own_istore (pc' := 1124) (l' := #[.val (.long xl), .second, .val (.int ci), .val (.int c0), .val (.int c1), .val (.int c2), .val (.int nn), .val (.ref seg), .val (.ref t), .val (.int r9), .val (.int ng), .val (.int dd), .val (.int (1 : Int32)), .val (.int s13), .val (.int (1 : Int32)), .val (.int v1), .val (.int (1 : Int32)), .val (.int (1 : Int32)), .val (.int v12), .val (.int (1 : Int32))]) X99 hx (hb hby at_1122) rfl rfl rfl ?_
      refine own_iload (pc' := 1126) X99 hx (hb hby at_1124) rfl rfl ?_
      refine own_if_eq (pt := 1153) (pf := 1129) X99 hx (hb hby at_1126) rfl (by decide) rfl (fun hc1126 => absurd hc1126 (by decide)) (fun hc1126 => ?_)
      refine own_iload (pc' := 1131) X99 hx (hb hby at_1129) rfl rfl ?_
      refine own_if_eq (pt := 1153) (pf := 1134) X99 hx (hb hby at_1131) rfl (by decide) rfl (fun hc1131 => absurd hc1131 (by decide)) (fun hc1131 => ?_)
      refine own_iload (pc' := 1136) X99 hx (hb hby at_1134) rfl rfl ?_
      refine own_if_eq (pt := 1153) (pf := 1139) X99 hx (hb hby at_1136) rfl (by decide) rfl (fun hc1136 => absurd hc1136 (by decide)) (fun hc1136 => ?_)
      refine own_iload (pc' := 1141) X99 hx (hb hby at_1139) rfl rfl ?_
      refine own_if_eq (pt := 1153) (pf := 1144) X99 hx (hb hby at_1141) rfl (by decide) rfl (fun hc1141 => absurd hc1141 (by decide)) (fun hc1141 => ?_)
      refine own_iload (pc' := 1146) X99 hx (hb hby at_1144) rfl rfl ?_
      refine own_if_eq (pt := 1153) (pf := 1149) X99 hx (hb hby at_1146) rfl (by decide) rfl (fun hc1146 => absurd hc1146 (by decide)) (fun hc1146 => ?_)
      refine own_iconst (pc' := 1150) X99 hx (1 : Int32) (hb hby at_1149) rfl rfl ?_
      refine own_goto (pc' := 1154) X99 hx (hb hby at_1150) (by decide) rfl ?_
      refine own_retN X99 hx (own_FW hS (by rw [e99]; exact kz99)) hlk (t := .boolean) (by decide) hret (hb hby at_1154) (by decide) (by decide) ?_
      exact ⟨rfl, N99⟩
theorem pd38 : parseMethodDescriptor "([C)V" = some ⟨[(.array .char)], none⟩ := by decide +kernel
theorem pd39 : parseMethodDescriptor "(Ljava/lang/Object;)Z" = some ⟨[(.object "java/lang/Object")], some .boolean⟩ := by decide +kernel
set_option maxRecDepth 65536 in
set_option maxHeartbeats 8000000 in
theorem lawC {p : Program} {l : Launch} {e : Env} {s : State} {m : MethodId} {args : Array Value} {below : List Frame} {meth : Method} {c : Code} {Z : State} {a0 : Array Value} (hw : ∀ d ∈ tables_1, d.before a0 Z = true) (hx : p.tables.exec = Jvm.exec) (hby : c.code = code) (hml : c.maxLocals = 20) (hret : meth.sig.returnType = some .boolean) (hlk : meth.locks = false) (G1 : Int32) (fm : Value) (hG : own_G Z G1 fm) (hEL : EW Z a0 consts_1) (n0 : Nat) (vm0 : Vm) (k0 : Nat) (T0 : State) (hh : Heap) (lc : List Loc) (hown : vm0.findClass "com/example/ossify/ossify/TornTailDescribePinLaw" = some m.cls) (hZ : Z.Warmed39 vm0) (hS : s.Since vm0 k0) (kz0 : k0 ≤ hh.size) (X0 : Stand p l e ({ frames := 10, cells := 96, slots := 8576, locals := 224 } : Room) (s.setVm vm0) m args below meth c T0 lc 38 2900) (e0 : T0.heap = hh) (N0 : Fr n0 lc) (O0 : own_Old Z n0 hh) (z0 : n0 ≤ hh.size) (H0 : CHv Z consts_1 vm0 hh) (xl : Int64) (ci c0 c1 c2 nn : Int32) (seg t : Addr) (tb : Addr) (ktb : ClassId) (cn : Int32) (us : List Value) (hE : Exa Z hh t "java/lang/String") (hC : Fld Z hh t "java/lang/String" "coder" "B" (.int (0 : Int32))) (hV : Fld Z hh t "java/lang/String" "value" "[B" (.ref tb)) (hA : Arv Z hh tb ktb .byte cn us (.int (0 : Int32))) (ws : List Value) (kk : Nat) (ng : Int32) (hkk : own_dgs xl.toInt.natAbs kk) (hngx : (xl.toInt < 0 ∧ ng = 1) ∨ (¬ xl.toInt < 0 ∧ ng = 0)) (hcn : cn.toInt = 42 + (kk : Int) + ng.toInt + nn.toInt) (hus : us = [.int (114 : Int32), .int (101 : Int32), .int (109 : Int32), .int (111 : Int32), .int (118 : Int32), .int (101 : Int32), .int (100 : Int32), .int (32 : Int32), .int (116 : Int32), .int (111 : Int32), .int (114 : Int32), .int (110 : Int32), .int (32 : Int32), .int (116 : Int32), .int (97 : Int32), .int (105 : Int32), .int (108 : Int32), .int (32 : Int32), .int (111 : Int32), .int (102 : Int32), .int (32 : Int32)] ++ (own_num xl.toInt.natAbs kk ng ++ ([.int (32 : Int32), .int (98 : Int32), .int (121 : Int32), .int (116 : Int32), .int (101 : Int32), .int (115 : Int32), .int (32 : Int32), .int (102 : Int32), .int (114 : Int32), .int (111 : Int32), .int (109 : Int32), .int (32 : Int32)] ++ ([.int (115 : Int32), .int (101 : Int32), .int (103 : Int32), .int (109 : Int32), .int (101 : Int32), .int (110 : Int32), .int (116 : Int32), .int (115 : Int32)] ++ ([.int (47 : Int32)] ++ ws))))) (hrw : (nn = 0 ∧ ws = []) ∨ (nn = 1 ∧ ws = [.int (own_by c0)]) ∨ (nn = 2 ∧ ws = [.int (own_by c0), .int (own_by c1)]) ∨ (nn = 3 ∧ ws = [.int (own_by c0), .int (own_by c1), .int (own_by c2)])) (hch0 : own_ch (own_by c0) = c0) (hch1 : own_ch (own_by c1) = c1) (hch2 : own_ch (own_by c2) = c2) (r9 dd : Int32) (h9 : r9.toInt = (kk : Int)) (hdd : dd.toInt = (kk : Int) + ng.toInt) :
    own_WP p e below (ReturnedEndW s) (fun v h L => v = some (.int 1) ∧ Fr n0 L) 96 8576 (T0.setTop (mkF m 431 #[.val (.long xl), .second, .val (.int ci), .val (.int c0), .val (.int c1), .val (.int c2), .val (.int nn), .val (.ref seg), .val (.ref t), .val (.int r9), .val (.int ng), .val (.int dd), .val (.int (1 : Int32)), .unset, .unset, .unset, .unset, .unset, .unset, .unset] [])) := by
  have hwS := own_wS hw
  have hng : ng = 0 ∨ ng = 1 := hngx.elim (fun q => Or.inr q.2) (fun q => Or.inl q.2)
  have hngt : ng.toInt = 0 ∨ ng.toInt = 1 := hng.elim (fun q => Or.inl (by rw [q]; rfl)) (fun q => Or.inr (by rw [q]; rfl))
  have hk19 := own_dgs_le hkk (by have := rng64 xl; omega)
  have hk1 := hkk.1
  have hnnn : 0 ≤ nn.toInt ∧ nn.toInt ≤ 3 ∧ (ws.length : Int) = nn.toInt := by rcases hrw with ⟨q1, q2⟩ | ⟨q1, q2⟩ | ⟨q1, q2⟩ | ⟨q1, q2⟩ <;> rw [q1, q2] <;> exact ⟨by decide, by decide, rfl⟩
  have hnl : (own_num xl.toInt.natAbs kk ng).length = kk + ng.toNatClampNeg := own_num_len hng
  have hnq := own_nat (x := ng) (by omega)
  have hul : cn.toInt = (us.length : Int) := by rw [hus, List.length_append, List.length_append, List.length_append, List.length_append, List.length_append, hnl]; simp only [List.length_cons, List.length_nil]; omega
  have hus2 : us = ([.int (114 : Int32), .int (101 : Int32), .int (109 : Int32), .int (111 : Int32), .int (118 : Int32), .int (101 : Int32), .int (100 : Int32), .int (32 : Int32), .int (116 : Int32), .int (111 : Int32), .int (114 : Int32), .int (110 : Int32), .int (32 : Int32), .int (116 : Int32), .int (97 : Int32), .int (105 : Int32), .int (108 : Int32), .int (32 : Int32), .int (111 : Int32), .int (102 : Int32), .int (32 : Int32)] ++ own_num xl.toInt.natAbs kk ng) ++ ([.int (32 : Int32), .int (98 : Int32), .int (121 : Int32), .int (116 : Int32), .int (101 : Int32), .int (115 : Int32), .int (32 : Int32), .int (102 : Int32), .int (114 : Int32), .int (111 : Int32), .int (109 : Int32), .int (32 : Int32), .int (115 : Int32), .int (101 : Int32), .int (103 : Int32), .int (109 : Int32), .int (101 : Int32), .int (110 : Int32), .int (116 : Int32), .int (115 : Int32), .int (47 : Int32)] ++ ws) := by rw [hus]; simp
  have hpl : (([.int (114 : Int32), .int (101 : Int32), .int (109 : Int32), .int (111 : Int32), .int (118 : Int32), .int (101 : Int32), .int (100 : Int32), .int (32 : Int32), .int (116 : Int32), .int (111 : Int32), .int (114 : Int32), .int (110 : Int32), .int (32 : Int32), .int (116 : Int32), .int (97 : Int32), .int (105 : Int32), .int (108 : Int32), .int (32 : Int32), .int (111 : Int32), .int (102 : Int32), .int (32 : Int32)] ++ own_num xl.toInt.natAbs kk ng : List Value).length : Int) = 21 + (kk : Int) + ng.toInt := by rw [List.length_append, hnl]; simp only [List.length_cons, List.length_nil]; omega
  refine own_bipush (pc' := 433) X0 hx (21 : Int32) (hb hby at_431) rfl rfl ?_
  refine own_iload (pc' := 435) X0 hx (hb hby at_433) rfl rfl ?_
  refine own_iadd (pc' := 436) X0 hx (hb hby at_435) rfl ?_
  obtain ⟨v1, hv1⟩ : ∃ z : Int32, z = ((21 : Int32) + dd) := ⟨_, rfl⟩
  refine own_istore (pc' := 438) (l' := #[.val (.long xl), .second, .val (.int ci), .val (.int c0), .val (.int c1), .val (.int c2), .val (.int nn), .val (.ref seg), .val (.ref t), .val (.int r9), .val (.int ng), .val (.int dd), .val (.int (1 : Int32)), .val (.int v1), .unset, .unset, .unset, .unset, .unset, .unset]) X0 hx (hb hby at_436) hv1 rfl rfl ?_
  have hs13 : v1.toInt = 21 + (kk : Int) + ng.toInt := by rw [own_add hv1 (by decide) (by omega)]; have e1 : (21 : Int32).toInt = 21 := rfl; omega
  refine own_new (pc' := 441) X0 hx hZ hown (own_w hw 0 rfl) (own_w hw 1 rfl) (own_w hw 2 rfl) e0 (hb hby at_438) (by decide) (by decide) rfl ?_
  intro T2 h2 b2 g2 X2 e2 E2 A2 D2
  have ne_t_b2 : t ≠ b2 := Nat.ne_of_lt (Nat.lt_of_lt_of_le hE.lt (Nat.le_of_eq g2.symm))
  have ne_tb_b2 : tb ≠ b2 := Nat.ne_of_lt (Nat.lt_of_lt_of_le hA.lt (Nat.le_of_eq g2.symm))
  have g_b2 : n0 ≤ b2 := Nat.le_trans z0 (Nat.le_of_eq g2.symm)
  have o2 : own_Old Z n0 h2 := O0.ext E2
  have H2 := CHv.ext E2 H0
  have S2_b2 := Safe.ext (x := b2) E2 H0 (Safe.new (Nat.le_of_eq g2.symm))
  have kz2 := Nat.le_trans kz0 E2.1
  have z2 : n0 ≤ h2.size := Nat.le_trans z0 E2.1
  have F2_value : Fld Z h2 b2 "java/lang/String" "value" "[B" .null := D2 (Or.inr (own_w hw 16 rfl)) (ty := (.array .byte)) (by decide +kernel)
  have F2_coder : Fld Z h2 b2 "java/lang/String" "coder" "B" (.int (0 : Int32)) := D2 (Or.inr (own_w hw 17 rfl)) (ty := .byte) (by decide)
  refine own_dup (pc' := 442) X2 hx (hb hby at_441) rfl rfl ?_
  refine own_bipush (pc' := 444) X2 hx (21 : Int32) (hb hby at_442) rfl rfl ?_
  refine own_newP (pc' := 446) (cap := 21) X2 hx hZ (own_w hw 3 rfl) e2 (hb hby at_444) (by decide) (by decide) (by decide) (by decide) (by decide) rfl ?_
  intro T3 h3 k3 b3 g3 X3 e3 E3 A3
  have ne_b2_b3 : b2 ≠ b3 := Nat.ne_of_lt (Nat.lt_of_lt_of_le A2.lt (Nat.le_of_eq g3.symm))
  have ne_b3_b2 := ne_b2_b3.symm
  have f4 := (hE.ext E2)
  have ne_t_b3 : t ≠ b3 := Nat.ne_of_lt (Nat.lt_of_lt_of_le f4.lt (Nat.le_of_eq g3.symm))
  have f5 := (hA.ext E2)
  have ne_tb_b3 : tb ≠ b3 := Nat.ne_of_lt (Nat.lt_of_lt_of_le f5.lt (Nat.le_of_eq g3.symm))
  have g_b3 : n0 ≤ b3 := Nat.le_trans z2 (Nat.le_of_eq g3.symm)
  have o3 : own_Old Z n0 h3 := o2.ext E3
  have H3 := CHv.ext E3 H2
  have S3_b2 := Safe.ext (x := b2) E3 H2 S2_b2
  have S3_b3 := Safe.ext (x := b3) E3 H2 (Safe.new (Nat.le_of_eq g3.symm))
  have kz3 := Nat.le_trans kz2 E3.1
  have z3 : n0 ≤ h3.size := Nat.le_trans z2 E3.1
  have V3 : Arv Z h3 b3 k3 .char (21 : Int32) [(.int (0 : Int32)), (.int (0 : Int32)), (.int (0 : Int32)), (.int (0 : Int32)), (.int (0 : Int32)), (.int (0 : Int32)), (.int (0 : Int32)), (.int (0 : Int32)), (.int (0 : Int32)), (.int (0 : Int32)), (.int (0 : Int32)), (.int (0 : Int32)), (.int (0 : Int32)), (.int (0 : Int32)), (.int (0 : Int32)), (.int (0 : Int32)), (.int (0 : Int32)), (.int (0 : Int32)), (.int (0 : Int32)), (.int (0 : Int32)), (.int (0 : Int32))] (.int (0 : Int32)) := (Arv.new A3 (by decide)).pad (pad_rep [] (.int (0 : Int32)) 21)
  refine own_dup (pc' := 447) X3 hx (hb hby at_446) rfl rfl ?_
  refine own_iconst (pc' := 448) X3 hx (0 : Int32) (hb hby at_447) rfl rfl ?_
  refine own_aload (pc' := 450) X3 hx (hb hby at_448) rfl rfl rfl ?_
  refine own_iload (pc' := 452) X3 hx (hb hby at_450) rfl rfl ?_
  have ht7 := own_sufat (d := .int (0 : Int32)) hus2 (k := 0) (by decide) (i := v1) (z1 := cn) (by omega) hul
  have f8 := (f4.ext E3)
  have f9 := ((hC.ext E2).ext E3)
  have f10 := ((hV.ext E2).ext E3)
  have f11 := (f5.ext E3)
  refine own_callV (pc' := 455) (W := 5) (y := (⟨"java/lang/String", "charAt", "(I)C"⟩ : MethodName)) (z := (⟨"java/lang/String", "charAt", "(I)C"⟩ : MethodName)) X3 hx hZ hown (own_w hw 219 rfl) (own_w hw 220 rfl) (notFace_of_selects (args := #[]) (mvT hZ (own_w hw 222 rfl))) (own_w hw 222 rfl) (own_w hw 221 rfl) (own_w hw 2 rfl) (own_w hw 223 rfl) (by decide) f8 (con_charAt l Z a0 hw t v1 _ n0 z3 G1 fm hG o3 tb ktb cn _ f8 f9 f10 f11 (32 : Int32) ht7.1 ht7.2) e3 pd32 [(.int v1)] [(.int (0 : Int32)), (.ref b3), (.ref b3), (.ref b2), (.ref b2)] rfl rfl rfl (Nat.le_of_eq rfl) (by decide) (by decide) (by rw [hml]; rfl) (hb hby at_452) (by decide) (by decide) rfl ?_
  intro v6 T6 L6 X6 q6
  obtain ⟨r6, rfl, hr6, rfl, e6⟩ := q6
  have M6 := Fr.nil n0
  have N6 := Fr.app N0 M6
  obtain rfl : r6 = (32 : Int32) := by rw [hr6]; decide
  show own_WP _ _ _ _ _ _ _ (T6.setTop (mkF m 455 #[.val (.long xl), .second, .val (.int ci), .val (.int c0), .val (.int c1), .val (.int c2), .val (.int nn), .val (.ref seg), .val (.ref t), .val (.int r9), .val (.int ng), .val (.int dd), .val (.int (1 : Int32)), .val (.int v1), .unset, .unset, .unset, .unset, .unset, .unset] [(.int (32 : Int32)), (.int (0 : Int32)), (.ref b3), (.ref b3), (.ref b2), (.ref b2)]))
  refine own_castore (pc' := 456) X6 hx hZ e6 V3 ⟨by decide, by decide⟩ 0 rfl (Nat.le_of_ble_eq_true rfl) (hb hby at_455) rfl ?_
  intro T12 h12 X12 e12 W12 V12
  have o12 : own_Old Z n0 h12 := o3.wr W12 g_b3
  have H12 := CHv.wr W12 S3_b3 H3
  have S12_b2 := Safe.wr (x := b2) W12 S3_b3 H3 S3_b2
  have S12_b3 := Safe.wr (x := b3) W12 S3_b3 H3 S3_b3
  have kz12 := Nat.le_trans kz3 (Keep.of_wr W12).1
  have z12 : n0 ≤ h12.size := Nat.le_trans z3 (Keep.of_wr W12).1
  have V12 : Arv Z h12 b3 k3 .char (21 : Int32) [(.int (nar .char (32 : Int32))), (.int (0 : Int32)), (.int (0 : Int32)), (.int (0 : Int32)), (.int (0 : Int32)), (.int (0 : Int32)), (.int (0 : Int32)), (.int (0 : Int32)), (.int (0 : Int32)), (.int (0 : Int32)), (.int (0 : Int32)), (.int (0 : Int32)), (.int (0 : Int32)), (.int (0 : Int32)), (.int (0 : Int32)), (.int (0 : Int32)), (.int (0 : Int32)), (.int (0 : Int32)), (.int (0 : Int32)), (.int (0 : Int32)), (.int (0 : Int32))] (.int (0 : Int32)) := V12
  have N12 := Fr.snoc X12 N6 g_b3
  rw [(show nar .char (32 : Int32) = (32 : Int32) by decide)] at V12
  refine own_dup (pc' := 457) X12 hx (hb hby at_456) rfl rfl ?_
  refine own_iconst (pc' := 458) X12 hx (1 : Int32) (hb hby at_457) rfl rfl ?_
  refine own_aload (pc' := 460) X12 hx (hb hby at_458) rfl rfl rfl ?_
  refine own_iload (pc' := 462) X12 hx (hb hby at_460) rfl rfl ?_
  refine own_iconst (pc' := 463) X12 hx (1 : Int32) (hb hby at_462) rfl rfl ?_
  refine own_iadd (pc' := 464) X12 hx (hb hby at_463) rfl ?_
  have ht14 := own_sufat (d := .int (0 : Int32)) hus2 (k := 1) (by decide) (i := (v1 + (1 : Int32))) (z1 := cn) (by have q9 := own_add (z := (v1 + (1 : Int32))) rfl (by omega) (by decide); have e9 : (1 : Int32).toInt = 1 := rfl; omega) hul
  have f15 := (f8.wr W12)
  have f16 := (f9.other W12 (Or.inl ne_t_b3))
  have f17 := (f10.other W12 (Or.inl ne_t_b3))
  have f18 := (f11.other W12 ne_tb_b3)
  refine own_callV (pc' := 467) (W := 5) (y := (⟨"java/lang/String", "charAt", "(I)C"⟩ : MethodName)) (z := (⟨"java/lang/String", "charAt", "(I)C"⟩ : MethodName)) X12 hx hZ hown (own_w hw 219 rfl) (own_w hw 220 rfl) (notFace_of_selects (args := #[]) (mvT hZ (own_w hw 222 rfl))) (own_w hw 222 rfl) (own_w hw 221 rfl) (own_w hw 2 rfl) (own_w hw 223 rfl) (by decide) f15 (con_charAt l Z a0 hw t (v1 + (1 : Int32)) _ n0 z12 G1 fm hG o12 tb ktb cn _ f15 f16 f17 f18 (98 : Int32) ht14.1 ht14.2) e12 pd32 [(.int (v1 + (1 : Int32)))] [(.int (1 : Int32)), (.ref b3), (.ref b3), (.ref b2), (.ref b2)] rfl rfl rfl (Nat.le_of_eq rfl) (by decide) (by decide) (by rw [hml]; rfl) (hb hby at_464) (by decide) (by decide) rfl ?_
  intro v13 T13 L13 X13 q13
  obtain ⟨r13, rfl, hr13, rfl, e13⟩ := q13
  have M13 := Fr.nil n0
  have N13 := Fr.app N12 M13
  obtain rfl : r13 = (98 : Int32) := by rw [hr13]; decide
  show own_WP _ _ _ _ _ _ _ (T13.setTop (mkF m 467 #[.val (.long xl), .second, .val (.int ci), .val (.int c0), .val (.int c1), .val (.int c2), .val (.int nn), .val (.ref seg), .val (.ref t), .val (.int r9), .val (.int ng), .val (.int dd), .val (.int (1 : Int32)), .val (.int v1), .unset, .unset, .unset, .unset, .unset, .unset] [(.int (98 : Int32)), (.int (1 : Int32)), (.ref b3), (.ref b3), (.ref b2), (.ref b2)]))
  refine own_castore (pc' := 468) X13 hx hZ e13 V12 ⟨by decide, by decide⟩ 1 rfl (Nat.le_of_ble_eq_true rfl) (hb hby at_467) rfl ?_
  intro T19 h19 X19 e19 W19 V19
  have o19 : own_Old Z n0 h19 := o12.wr W19 g_b3
  have H19 := CHv.wr W19 S12_b3 H12
  have S19_b2 := Safe.wr (x := b2) W19 S12_b3 H12 S12_b2
  have S19_b3 := Safe.wr (x := b3) W19 S12_b3 H12 S12_b3
  have kz19 := Nat.le_trans kz12 (Keep.of_wr W19).1
  have z19 : n0 ≤ h19.size := Nat.le_trans z12 (Keep.of_wr W19).1
  have V19 : Arv Z h19 b3 k3 .char (21 : Int32) [(.int (32 : Int32)), (.int (nar .char (98 : Int32))), (.int (0 : Int32)), (.int (0 : Int32)), (.int (0 : Int32)), (.int (0 : Int32)), (.int (0 : Int32)), (.int (0 : Int32)), (.int (0 : Int32)), (.int (0 : Int32)), (.int (0 : Int32)), (.int (0 : Int32)), (.int (0 : Int32)), (.int (0 : Int32)), (.int (0 : Int32)), (.int (0 : Int32)), (.int (0 : Int32)), (.int (0 : Int32)), (.int (0 : Int32)), (.int (0 : Int32)), (.int (0 : Int32))] (.int (0 : Int32)) := V19
  have N19 := Fr.snoc X19 N13 g_b3
  rw [(show nar .char (98 : Int32) = (98 : Int32) by decide)] at V19
  refine own_dup (pc' := 469) X19 hx (hb hby at_468) rfl rfl ?_
  refine own_iconst (pc' := 470) X19 hx (2 : Int32) (hb hby at_469) rfl rfl ?_
  refine own_aload (pc' := 472) X19 hx (hb hby at_470) rfl rfl rfl ?_
  refine own_iload (pc' := 474) X19 hx (hb hby at_472) rfl rfl ?_
  refine own_iconst (pc' := 475) X19 hx (2 : Int32) (hb hby at_474) rfl rfl ?_
  refine own_iadd (pc' := 476) X19 hx (hb hby at_475) rfl ?_
  have ht21 := own_sufat (d := .int (0 : Int32)) hus2 (k := 2) (by decide) (i := (v1 + (2 : Int32))) (z1 := cn) (by have q9 := own_add (z := (v1 + (2 : Int32))) rfl (by omega) (by decide); have e9 : (2 : Int32).toInt = 2 := rfl; omega) hul
  have f22 := (f15.wr W19)
  have f23 := (f16.other W19 (Or.inl ne_t_b3))
  have f24 := (f17.other W19 (Or.inl ne_t_b3))
  have f25 := (f18.other W19 ne_tb_b3)
  refine own_callV (pc' := 479) (W := 5) (y := (⟨"java/lang/String", "charAt", "(I)C"⟩ : MethodName)) (z := (⟨"java/lang/String", "charAt", "(I)C"⟩ : MethodName)) X19 hx hZ hown (own_w hw 219 rfl) (own_w hw 220 rfl) (notFace_of_selects (args := #[]) (mvT hZ (own_w hw 222 rfl))) (own_w hw 222 rfl) (own_w hw 221 rfl) (own_w hw 2 rfl) (own_w hw 223 rfl) (by decide) f22 (con_charAt l Z a0 hw t (v1 + (2 : Int32)) _ n0 z19 G1 fm hG o19 tb ktb cn _ f22 f23 f24 f25 (121 : Int32) ht21.1 ht21.2) e19 pd32 [(.int (v1 + (2 : Int32)))] [(.int (2 : Int32)), (.ref b3), (.ref b3), (.ref b2), (.ref b2)] rfl rfl rfl (Nat.le_of_eq rfl) (by decide) (by decide) (by rw [hml]; rfl) (hb hby at_476) (by decide) (by decide) rfl ?_
  intro v20 T20 L20 X20 q20
  obtain ⟨r20, rfl, hr20, rfl, e20⟩ := q20
  have M20 := Fr.nil n0
  have N20 := Fr.app N19 M20
  obtain rfl : r20 = (121 : Int32) := by rw [hr20]; decide
  show own_WP _ _ _ _ _ _ _ (T20.setTop (mkF m 479 #[.val (.long xl), .second, .val (.int ci), .val (.int c0), .val (.int c1), .val (.int c2), .val (.int nn), .val (.ref seg), .val (.ref t), .val (.int r9), .val (.int ng), .val (.int dd), .val (.int (1 : Int32)), .val (.int v1), .unset, .unset, .unset, .unset, .unset, .unset] [(.int (121 : Int32)), (.int (2 : Int32)), (.ref b3), (.ref b3), (.ref b2), (.ref b2)]))
  refine own_castore (pc' := 480) X20 hx hZ e20 V19 ⟨by decide, by decide⟩ 2 rfl (Nat.le_of_ble_eq_true rfl) (hb hby at_479) rfl ?_
  intro T26 h26 X26 e26 W26 V26
  have o26 : own_Old Z n0 h26 := o19.wr W26 g_b3
  have H26 := CHv.wr W26 S19_b3 H19
  have S26_b2 := Safe.wr (x := b2) W26 S19_b3 H19 S19_b2
  have S26_b3 := Safe.wr (x := b3) W26 S19_b3 H19 S19_b3
  have kz26 := Nat.le_trans kz19 (Keep.of_wr W26).1
  have z26 : n0 ≤ h26.size := Nat.le_trans z19 (Keep.of_wr W26).1
  have V26 : Arv Z h26 b3 k3 .char (21 : Int32) [(.int (32 : Int32)), (.int (98 : Int32)), (.int (nar .char (121 : Int32))), (.int (0 : Int32)), (.int (0 : Int32)), (.int (0 : Int32)), (.int (0 : Int32)), (.int (0 : Int32)), (.int (0 : Int32)), (.int (0 : Int32)), (.int (0 : Int32)), (.int (0 : Int32)), (.int (0 : Int32)), (.int (0 : Int32)), (.int (0 : Int32)), (.int (0 : Int32)), (.int (0 : Int32)), (.int (0 : Int32)), (.int (0 : Int32)), (.int (0 : Int32)), (.int (0 : Int32))] (.int (0 : Int32)) := V26
  have N26 := Fr.snoc X26 N20 g_b3
  rw [(show nar .char (121 : Int32) = (121 : Int32) by decide)] at V26
  refine own_dup (pc' := 481) X26 hx (hb hby at_480) rfl rfl ?_
  refine own_iconst (pc' := 482) X26 hx (3 : Int32) (hb hby at_481) rfl rfl ?_
  refine own_aload (pc' := 484) X26 hx (hb hby at_482) rfl rfl rfl ?_
  refine own_iload (pc' := 486) X26 hx (hb hby at_484) rfl rfl ?_
  refine own_iconst (pc' := 487) X26 hx (3 : Int32) (hb hby at_486) rfl rfl ?_
  refine own_iadd (pc' := 488) X26 hx (hb hby at_487) rfl ?_
  have ht28 := own_sufat (d := .int (0 : Int32)) hus2 (k := 3) (by decide) (i := (v1 + (3 : Int32))) (z1 := cn) (by have q9 := own_add (z := (v1 + (3 : Int32))) rfl (by omega) (by decide); have e9 : (3 : Int32).toInt = 3 := rfl; omega) hul
  have f29 := (f22.wr W26)
  have f30 := (f23.other W26 (Or.inl ne_t_b3))
  have f31 := (f24.other W26 (Or.inl ne_t_b3))
  have f32 := (f25.other W26 ne_tb_b3)
  refine own_callV (pc' := 491) (W := 5) (y := (⟨"java/lang/String", "charAt", "(I)C"⟩ : MethodName)) (z := (⟨"java/lang/String", "charAt", "(I)C"⟩ : MethodName)) X26 hx hZ hown (own_w hw 219 rfl) (own_w hw 220 rfl) (notFace_of_selects (args := #[]) (mvT hZ (own_w hw 222 rfl))) (own_w hw 222 rfl) (own_w hw 221 rfl) (own_w hw 2 rfl) (own_w hw 223 rfl) (by decide) f29 (con_charAt l Z a0 hw t (v1 + (3 : Int32)) _ n0 z26 G1 fm hG o26 tb ktb cn _ f29 f30 f31 f32 (116 : Int32) ht28.1 ht28.2) e26 pd32 [(.int (v1 + (3 : Int32)))] [(.int (3 : Int32)), (.ref b3), (.ref b3), (.ref b2), (.ref b2)] rfl rfl rfl (Nat.le_of_eq rfl) (by decide) (by decide) (by rw [hml]; rfl) (hb hby at_488) (by decide) (by decide) rfl ?_
  intro v27 T27 L27 X27 q27
  obtain ⟨r27, rfl, hr27, rfl, e27⟩ := q27
  have M27 := Fr.nil n0
  have N27 := Fr.app N26 M27
  obtain rfl : r27 = (116 : Int32) := by rw [hr27]; decide
  show own_WP _ _ _ _ _ _ _ (T27.setTop (mkF m 491 #[.val (.long xl), .second, .val (.int ci), .val (.int c0), .val (.int c1), .val (.int c2), .val (.int nn), .val (.ref seg), .val (.ref t), .val (.int r9), .val (.int ng), .val (.int dd), .val (.int (1 : Int32)), .val (.int v1), .unset, .unset, .unset, .unset, .unset, .unset] [(.int (116 : Int32)), (.int (3 : Int32)), (.ref b3), (.ref b3), (.ref b2), (.ref b2)]))
  refine own_castore (pc' := 492) X27 hx hZ e27 V26 ⟨by decide, by decide⟩ 3 rfl (Nat.le_of_ble_eq_true rfl) (hb hby at_491) rfl ?_
  intro T33 h33 X33 e33 W33 V33
  have o33 : own_Old Z n0 h33 := o26.wr W33 g_b3
  have H33 := CHv.wr W33 S26_b3 H26
  have S33_b2 := Safe.wr (x := b2) W33 S26_b3 H26 S26_b2
  have S33_b3 := Safe.wr (x := b3) W33 S26_b3 H26 S26_b3
  have kz33 := Nat.le_trans kz26 (Keep.of_wr W33).1
  have z33 : n0 ≤ h33.size := Nat.le_trans z26 (Keep.of_wr W33).1
  have V33 : Arv Z h33 b3 k3 .char (21 : Int32) [(.int (32 : Int32)), (.int (98 : Int32)), (.int (121 : Int32)), (.int (nar .char (116 : Int32))), (.int (0 : Int32)), (.int (0 : Int32)), (.int (0 : Int32)), (.int (0 : Int32)), (.int (0 : Int32)), (.int (0 : Int32)), (.int (0 : Int32)), (.int (0 : Int32)), (.int (0 : Int32)), (.int (0 : Int32)), (.int (0 : Int32)), (.int (0 : Int32)), (.int (0 : Int32)), (.int (0 : Int32)), (.int (0 : Int32)), (.int (0 : Int32)), (.int (0 : Int32))] (.int (0 : Int32)) := V33
  have N33 := Fr.snoc X33 N27 g_b3
  rw [(show nar .char (116 : Int32) = (116 : Int32) by decide)] at V33
  refine own_dup (pc' := 493) X33 hx (hb hby at_492) rfl rfl ?_
  refine own_iconst (pc' := 494) X33 hx (4 : Int32) (hb hby at_493) rfl rfl ?_
  refine own_aload (pc' := 496) X33 hx (hb hby at_494) rfl rfl rfl ?_
  refine own_iload (pc' := 498) X33 hx (hb hby at_496) rfl rfl ?_
  refine own_iconst (pc' := 499) X33 hx (4 : Int32) (hb hby at_498) rfl rfl ?_
  refine own_iadd (pc' := 500) X33 hx (hb hby at_499) rfl ?_
  have ht35 := own_sufat (d := .int (0 : Int32)) hus2 (k := 4) (by decide) (i := (v1 + (4 : Int32))) (z1 := cn) (by have q9 := own_add (z := (v1 + (4 : Int32))) rfl (by omega) (by decide); have e9 : (4 : Int32).toInt = 4 := rfl; omega) hul
  have f36 := (f29.wr W33)
  have f37 := (f30.other W33 (Or.inl ne_t_b3))
  have f38 := (f31.other W33 (Or.inl ne_t_b3))
  have f39 := (f32.other W33 ne_tb_b3)
  refine own_callV (pc' := 503) (W := 5) (y := (⟨"java/lang/String", "charAt", "(I)C"⟩ : MethodName)) (z := (⟨"java/lang/String", "charAt", "(I)C"⟩ : MethodName)) X33 hx hZ hown (own_w hw 219 rfl) (own_w hw 220 rfl) (notFace_of_selects (args := #[]) (mvT hZ (own_w hw 222 rfl))) (own_w hw 222 rfl) (own_w hw 221 rfl) (own_w hw 2 rfl) (own_w hw 223 rfl) (by decide) f36 (con_charAt l Z a0 hw t (v1 + (4 : Int32)) _ n0 z33 G1 fm hG o33 tb ktb cn _ f36 f37 f38 f39 (101 : Int32) ht35.1 ht35.2) e33 pd32 [(.int (v1 + (4 : Int32)))] [(.int (4 : Int32)), (.ref b3), (.ref b3), (.ref b2), (.ref b2)] rfl rfl rfl (Nat.le_of_eq rfl) (by decide) (by decide) (by rw [hml]; rfl) (hb hby at_500) (by decide) (by decide) rfl ?_
  intro v34 T34 L34 X34 q34
  obtain ⟨r34, rfl, hr34, rfl, e34⟩ := q34
  have M34 := Fr.nil n0
  have N34 := Fr.app N33 M34
  obtain rfl : r34 = (101 : Int32) := by rw [hr34]; decide
  show own_WP _ _ _ _ _ _ _ (T34.setTop (mkF m 503 #[.val (.long xl), .second, .val (.int ci), .val (.int c0), .val (.int c1), .val (.int c2), .val (.int nn), .val (.ref seg), .val (.ref t), .val (.int r9), .val (.int ng), .val (.int dd), .val (.int (1 : Int32)), .val (.int v1), .unset, .unset, .unset, .unset, .unset, .unset] [(.int (101 : Int32)), (.int (4 : Int32)), (.ref b3), (.ref b3), (.ref b2), (.ref b2)]))
  refine own_castore (pc' := 504) X34 hx hZ e34 V33 ⟨by decide, by decide⟩ 4 rfl (Nat.le_of_ble_eq_true rfl) (hb hby at_503) rfl ?_
  intro T40 h40 X40 e40 W40 V40
  have o40 : own_Old Z n0 h40 := o33.wr W40 g_b3
  have H40 := CHv.wr W40 S33_b3 H33
  have S40_b2 := Safe.wr (x := b2) W40 S33_b3 H33 S33_b2
  have S40_b3 := Safe.wr (x := b3) W40 S33_b3 H33 S33_b3
  have kz40 := Nat.le_trans kz33 (Keep.of_wr W40).1
  have z40 : n0 ≤ h40.size := Nat.le_trans z33 (Keep.of_wr W40).1
  have V40 : Arv Z h40 b3 k3 .char (21 : Int32) [(.int (32 : Int32)), (.int (98 : Int32)), (.int (121 : Int32)), (.int (116 : Int32)), (.int (nar .char (101 : Int32))), (.int (0 : Int32)), (.int (0 : Int32)), (.int (0 : Int32)), (.int (0 : Int32)), (.int (0 : Int32)), (.int (0 : Int32)), (.int (0 : Int32)), (.int (0 : Int32)), (.int (0 : Int32)), (.int (0 : Int32)), (.int (0 : Int32)), (.int (0 : Int32)), (.int (0 : Int32)), (.int (0 : Int32)), (.int (0 : Int32)), (.int (0 : Int32))] (.int (0 : Int32)) := V40
  have N40 := Fr.snoc X40 N34 g_b3
  rw [(show nar .char (101 : Int32) = (101 : Int32) by decide)] at V40
  refine own_dup (pc' := 505) X40 hx (hb hby at_504) rfl rfl ?_
  refine own_iconst (pc' := 506) X40 hx (5 : Int32) (hb hby at_505) rfl rfl ?_
  refine own_aload (pc' := 508) X40 hx (hb hby at_506) rfl rfl rfl ?_
  refine own_iload (pc' := 510) X40 hx (hb hby at_508) rfl rfl ?_
  refine own_iconst (pc' := 511) X40 hx (5 : Int32) (hb hby at_510) rfl rfl ?_
  refine own_iadd (pc' := 512) X40 hx (hb hby at_511) rfl ?_
  have ht42 := own_sufat (d := .int (0 : Int32)) hus2 (k := 5) (by decide) (i := (v1 + (5 : Int32))) (z1 := cn) (by have q9 := own_add (z := (v1 + (5 : Int32))) rfl (by omega) (by decide); have e9 : (5 : Int32).toInt = 5 := rfl; omega) hul
  have f43 := (f36.wr W40)
  have f44 := (f37.other W40 (Or.inl ne_t_b3))
  have f45 := (f38.other W40 (Or.inl ne_t_b3))
  have f46 := (f39.other W40 ne_tb_b3)
  refine own_callV (pc' := 515) (W := 5) (y := (⟨"java/lang/String", "charAt", "(I)C"⟩ : MethodName)) (z := (⟨"java/lang/String", "charAt", "(I)C"⟩ : MethodName)) X40 hx hZ hown (own_w hw 219 rfl) (own_w hw 220 rfl) (notFace_of_selects (args := #[]) (mvT hZ (own_w hw 222 rfl))) (own_w hw 222 rfl) (own_w hw 221 rfl) (own_w hw 2 rfl) (own_w hw 223 rfl) (by decide) f43 (con_charAt l Z a0 hw t (v1 + (5 : Int32)) _ n0 z40 G1 fm hG o40 tb ktb cn _ f43 f44 f45 f46 (115 : Int32) ht42.1 ht42.2) e40 pd32 [(.int (v1 + (5 : Int32)))] [(.int (5 : Int32)), (.ref b3), (.ref b3), (.ref b2), (.ref b2)] rfl rfl rfl (Nat.le_of_eq rfl) (by decide) (by decide) (by rw [hml]; rfl) (hb hby at_512) (by decide) (by decide) rfl ?_
  intro v41 T41 L41 X41 q41
  obtain ⟨r41, rfl, hr41, rfl, e41⟩ := q41
  have M41 := Fr.nil n0
  have N41 := Fr.app N40 M41
  obtain rfl : r41 = (115 : Int32) := by rw [hr41]; decide
  show own_WP _ _ _ _ _ _ _ (T41.setTop (mkF m 515 #[.val (.long xl), .second, .val (.int ci), .val (.int c0), .val (.int c1), .val (.int c2), .val (.int nn), .val (.ref seg), .val (.ref t), .val (.int r9), .val (.int ng), .val (.int dd), .val (.int (1 : Int32)), .val (.int v1), .unset, .unset, .unset, .unset, .unset, .unset] [(.int (115 : Int32)), (.int (5 : Int32)), (.ref b3), (.ref b3), (.ref b2), (.ref b2)]))
  refine own_castore (pc' := 516) X41 hx hZ e41 V40 ⟨by decide, by decide⟩ 5 rfl (Nat.le_of_ble_eq_true rfl) (hb hby at_515) rfl ?_
  intro T47 h47 X47 e47 W47 V47
  have o47 : own_Old Z n0 h47 := o40.wr W47 g_b3
  have H47 := CHv.wr W47 S40_b3 H40
  have S47_b2 := Safe.wr (x := b2) W47 S40_b3 H40 S40_b2
  have S47_b3 := Safe.wr (x := b3) W47 S40_b3 H40 S40_b3
  have kz47 := Nat.le_trans kz40 (Keep.of_wr W47).1
  have z47 : n0 ≤ h47.size := Nat.le_trans z40 (Keep.of_wr W47).1
  have V47 : Arv Z h47 b3 k3 .char (21 : Int32) [(.int (32 : Int32)), (.int (98 : Int32)), (.int (121 : Int32)), (.int (116 : Int32)), (.int (101 : Int32)), (.int (nar .char (115 : Int32))), (.int (0 : Int32)), (.int (0 : Int32)), (.int (0 : Int32)), (.int (0 : Int32)), (.int (0 : Int32)), (.int (0 : Int32)), (.int (0 : Int32)), (.int (0 : Int32)), (.int (0 : Int32)), (.int (0 : Int32)), (.int (0 : Int32)), (.int (0 : Int32)), (.int (0 : Int32)), (.int (0 : Int32)), (.int (0 : Int32))] (.int (0 : Int32)) := V47
  have N47 := Fr.snoc X47 N41 g_b3
  rw [(show nar .char (115 : Int32) = (115 : Int32) by decide)] at V47
  refine own_dup (pc' := 517) X47 hx (hb hby at_516) rfl rfl ?_
  refine own_bipush (pc' := 519) X47 hx (6 : Int32) (hb hby at_517) rfl rfl ?_
  refine own_aload (pc' := 521) X47 hx (hb hby at_519) rfl rfl rfl ?_
  refine own_iload (pc' := 523) X47 hx (hb hby at_521) rfl rfl ?_
  refine own_bipush (pc' := 525) X47 hx (6 : Int32) (hb hby at_523) rfl rfl ?_
  refine own_iadd (pc' := 526) X47 hx (hb hby at_525) rfl ?_
  have ht49 := own_sufat (d := .int (0 : Int32)) hus2 (k := 6) (by decide) (i := (v1 + (6 : Int32))) (z1 := cn) (by have q9 := own_add (z := (v1 + (6 : Int32))) rfl (by omega) (by decide); have e9 : (6 : Int32).toInt = 6 := rfl; omega) hul
  have f50 := (f43.wr W47)
  have f51 := (f44.other W47 (Or.inl ne_t_b3))
  have f52 := (f45.other W47 (Or.inl ne_t_b3))
  have f53 := (f46.other W47 ne_tb_b3)
  refine own_callV (pc' := 529) (W := 5) (y := (⟨"java/lang/String", "charAt", "(I)C"⟩ : MethodName)) (z := (⟨"java/lang/String", "charAt", "(I)C"⟩ : MethodName)) X47 hx hZ hown (own_w hw 219 rfl) (own_w hw 220 rfl) (notFace_of_selects (args := #[]) (mvT hZ (own_w hw 222 rfl))) (own_w hw 222 rfl) (own_w hw 221 rfl) (own_w hw 2 rfl) (own_w hw 223 rfl) (by decide) f50 (con_charAt l Z a0 hw t (v1 + (6 : Int32)) _ n0 z47 G1 fm hG o47 tb ktb cn _ f50 f51 f52 f53 (32 : Int32) ht49.1 ht49.2) e47 pd32 [(.int (v1 + (6 : Int32)))] [(.int (6 : Int32)), (.ref b3), (.ref b3), (.ref b2), (.ref b2)] rfl rfl rfl (Nat.le_of_eq rfl) (by decide) (by decide) (by rw [hml]; rfl) (hb hby at_526) (by decide) (by decide) rfl ?_
  intro v48 T48 L48 X48 q48
  obtain ⟨r48, rfl, hr48, rfl, e48⟩ := q48
  have M48 := Fr.nil n0
  have N48 := Fr.app N47 M48
  obtain rfl : r48 = (32 : Int32) := by rw [hr48]; decide
  show own_WP _ _ _ _ _ _ _ (T48.setTop (mkF m 529 #[.val (.long xl), .second, .val (.int ci), .val (.int c0), .val (.int c1), .val (.int c2), .val (.int nn), .val (.ref seg), .val (.ref t), .val (.int r9), .val (.int ng), .val (.int dd), .val (.int (1 : Int32)), .val (.int v1), .unset, .unset, .unset, .unset, .unset, .unset] [(.int (32 : Int32)), (.int (6 : Int32)), (.ref b3), (.ref b3), (.ref b2), (.ref b2)]))
  refine own_castore (pc' := 530) X48 hx hZ e48 V47 ⟨by decide, by decide⟩ 6 rfl (Nat.le_of_ble_eq_true rfl) (hb hby at_529) rfl ?_
  intro T54 h54 X54 e54 W54 V54
  have o54 : own_Old Z n0 h54 := o47.wr W54 g_b3
  have H54 := CHv.wr W54 S47_b3 H47
  have S54_b2 := Safe.wr (x := b2) W54 S47_b3 H47 S47_b2
  have S54_b3 := Safe.wr (x := b3) W54 S47_b3 H47 S47_b3
  have kz54 := Nat.le_trans kz47 (Keep.of_wr W54).1
  have z54 : n0 ≤ h54.size := Nat.le_trans z47 (Keep.of_wr W54).1
  have V54 : Arv Z h54 b3 k3 .char (21 : Int32) [(.int (32 : Int32)), (.int (98 : Int32)), (.int (121 : Int32)), (.int (116 : Int32)), (.int (101 : Int32)), (.int (115 : Int32)), (.int (nar .char (32 : Int32))), (.int (0 : Int32)), (.int (0 : Int32)), (.int (0 : Int32)), (.int (0 : Int32)), (.int (0 : Int32)), (.int (0 : Int32)), (.int (0 : Int32)), (.int (0 : Int32)), (.int (0 : Int32)), (.int (0 : Int32)), (.int (0 : Int32)), (.int (0 : Int32)), (.int (0 : Int32)), (.int (0 : Int32))] (.int (0 : Int32)) := V54
  have N54 := Fr.snoc X54 N48 g_b3
  rw [(show nar .char (32 : Int32) = (32 : Int32) by decide)] at V54
  refine own_dup (pc' := 531) X54 hx (hb hby at_530) rfl rfl ?_
  refine own_bipush (pc' := 533) X54 hx (7 : Int32) (hb hby at_531) rfl rfl ?_
  refine own_aload (pc' := 535) X54 hx (hb hby at_533) rfl rfl rfl ?_
  refine own_iload (pc' := 537) X54 hx (hb hby at_535) rfl rfl ?_
  refine own_bipush (pc' := 539) X54 hx (7 : Int32) (hb hby at_537) rfl rfl ?_
  refine own_iadd (pc' := 540) X54 hx (hb hby at_539) rfl ?_
  have ht56 := own_sufat (d := .int (0 : Int32)) hus2 (k := 7) (by decide) (i := (v1 + (7 : Int32))) (z1 := cn) (by have q9 := own_add (z := (v1 + (7 : Int32))) rfl (by omega) (by decide); have e9 : (7 : Int32).toInt = 7 := rfl; omega) hul
  have f57 := (f50.wr W54)
  have f58 := (f51.other W54 (Or.inl ne_t_b3))
  have f59 := (f52.other W54 (Or.inl ne_t_b3))
  have f60 := (f53.other W54 ne_tb_b3)
  refine own_callV (pc' := 543) (W := 5) (y := (⟨"java/lang/String", "charAt", "(I)C"⟩ : MethodName)) (z := (⟨"java/lang/String", "charAt", "(I)C"⟩ : MethodName)) X54 hx hZ hown (own_w hw 219 rfl) (own_w hw 220 rfl) (notFace_of_selects (args := #[]) (mvT hZ (own_w hw 222 rfl))) (own_w hw 222 rfl) (own_w hw 221 rfl) (own_w hw 2 rfl) (own_w hw 223 rfl) (by decide) f57 (con_charAt l Z a0 hw t (v1 + (7 : Int32)) _ n0 z54 G1 fm hG o54 tb ktb cn _ f57 f58 f59 f60 (102 : Int32) ht56.1 ht56.2) e54 pd32 [(.int (v1 + (7 : Int32)))] [(.int (7 : Int32)), (.ref b3), (.ref b3), (.ref b2), (.ref b2)] rfl rfl rfl (Nat.le_of_eq rfl) (by decide) (by decide) (by rw [hml]; rfl) (hb hby at_540) (by decide) (by decide) rfl ?_
  intro v55 T55 L55 X55 q55
  obtain ⟨r55, rfl, hr55, rfl, e55⟩ := q55
  have M55 := Fr.nil n0
  have N55 := Fr.app N54 M55
  obtain rfl : r55 = (102 : Int32) := by rw [hr55]; decide
  show own_WP _ _ _ _ _ _ _ (T55.setTop (mkF m 543 #[.val (.long xl), .second, .val (.int ci), .val (.int c0), .val (.int c1), .val (.int c2), .val (.int nn), .val (.ref seg), .val (.ref t), .val (.int r9), .val (.int ng), .val (.int dd), .val (.int (1 : Int32)), .val (.int v1), .unset, .unset, .unset, .unset, .unset, .unset] [(.int (102 : Int32)), (.int (7 : Int32)), (.ref b3), (.ref b3), (.ref b2), (.ref b2)]))
  refine own_castore (pc' := 544) X55 hx hZ e55 V54 ⟨by decide, by decide⟩ 7 rfl (Nat.le_of_ble_eq_true rfl) (hb hby at_543) rfl ?_
  intro T61 h61 X61 e61 W61 V61
  have o61 : own_Old Z n0 h61 := o54.wr W61 g_b3
  have H61 := CHv.wr W61 S54_b3 H54
  have S61_b2 := Safe.wr (x := b2) W61 S54_b3 H54 S54_b2
  have S61_b3 := Safe.wr (x := b3) W61 S54_b3 H54 S54_b3
  have kz61 := Nat.le_trans kz54 (Keep.of_wr W61).1
  have z61 : n0 ≤ h61.size := Nat.le_trans z54 (Keep.of_wr W61).1
  have V61 : Arv Z h61 b3 k3 .char (21 : Int32) [(.int (32 : Int32)), (.int (98 : Int32)), (.int (121 : Int32)), (.int (116 : Int32)), (.int (101 : Int32)), (.int (115 : Int32)), (.int (32 : Int32)), (.int (nar .char (102 : Int32))), (.int (0 : Int32)), (.int (0 : Int32)), (.int (0 : Int32)), (.int (0 : Int32)), (.int (0 : Int32)), (.int (0 : Int32)), (.int (0 : Int32)), (.int (0 : Int32)), (.int (0 : Int32)), (.int (0 : Int32)), (.int (0 : Int32)), (.int (0 : Int32)), (.int (0 : Int32))] (.int (0 : Int32)) := V61
  have N61 := Fr.snoc X61 N55 g_b3
  rw [(show nar .char (102 : Int32) = (102 : Int32) by decide)] at V61
  refine own_dup (pc' := 545) X61 hx (hb hby at_544) rfl rfl ?_
  refine own_bipush (pc' := 547) X61 hx (8 : Int32) (hb hby at_545) rfl rfl ?_
  refine own_aload (pc' := 549) X61 hx (hb hby at_547) rfl rfl rfl ?_
  refine own_iload (pc' := 551) X61 hx (hb hby at_549) rfl rfl ?_
  refine own_bipush (pc' := 553) X61 hx (8 : Int32) (hb hby at_551) rfl rfl ?_
  refine own_iadd (pc' := 554) X61 hx (hb hby at_553) rfl ?_
  have ht63 := own_sufat (d := .int (0 : Int32)) hus2 (k := 8) (by decide) (i := (v1 + (8 : Int32))) (z1 := cn) (by have q9 := own_add (z := (v1 + (8 : Int32))) rfl (by omega) (by decide); have e9 : (8 : Int32).toInt = 8 := rfl; omega) hul
  have f64 := (f57.wr W61)
  have f65 := (f58.other W61 (Or.inl ne_t_b3))
  have f66 := (f59.other W61 (Or.inl ne_t_b3))
  have f67 := (f60.other W61 ne_tb_b3)
  refine own_callV (pc' := 557) (W := 5) (y := (⟨"java/lang/String", "charAt", "(I)C"⟩ : MethodName)) (z := (⟨"java/lang/String", "charAt", "(I)C"⟩ : MethodName)) X61 hx hZ hown (own_w hw 219 rfl) (own_w hw 220 rfl) (notFace_of_selects (args := #[]) (mvT hZ (own_w hw 222 rfl))) (own_w hw 222 rfl) (own_w hw 221 rfl) (own_w hw 2 rfl) (own_w hw 223 rfl) (by decide) f64 (con_charAt l Z a0 hw t (v1 + (8 : Int32)) _ n0 z61 G1 fm hG o61 tb ktb cn _ f64 f65 f66 f67 (114 : Int32) ht63.1 ht63.2) e61 pd32 [(.int (v1 + (8 : Int32)))] [(.int (8 : Int32)), (.ref b3), (.ref b3), (.ref b2), (.ref b2)] rfl rfl rfl (Nat.le_of_eq rfl) (by decide) (by decide) (by rw [hml]; rfl) (hb hby at_554) (by decide) (by decide) rfl ?_
  intro v62 T62 L62 X62 q62
  obtain ⟨r62, rfl, hr62, rfl, e62⟩ := q62
  have M62 := Fr.nil n0
  have N62 := Fr.app N61 M62
  obtain rfl : r62 = (114 : Int32) := by rw [hr62]; decide
  show own_WP _ _ _ _ _ _ _ (T62.setTop (mkF m 557 #[.val (.long xl), .second, .val (.int ci), .val (.int c0), .val (.int c1), .val (.int c2), .val (.int nn), .val (.ref seg), .val (.ref t), .val (.int r9), .val (.int ng), .val (.int dd), .val (.int (1 : Int32)), .val (.int v1), .unset, .unset, .unset, .unset, .unset, .unset] [(.int (114 : Int32)), (.int (8 : Int32)), (.ref b3), (.ref b3), (.ref b2), (.ref b2)]))
  refine own_castore (pc' := 558) X62 hx hZ e62 V61 ⟨by decide, by decide⟩ 8 rfl (Nat.le_of_ble_eq_true rfl) (hb hby at_557) rfl ?_
  intro T68 h68 X68 e68 W68 V68
  have o68 : own_Old Z n0 h68 := o61.wr W68 g_b3
  have H68 := CHv.wr W68 S61_b3 H61
  have S68_b2 := Safe.wr (x := b2) W68 S61_b3 H61 S61_b2
  have S68_b3 := Safe.wr (x := b3) W68 S61_b3 H61 S61_b3
  have kz68 := Nat.le_trans kz61 (Keep.of_wr W68).1
  have z68 : n0 ≤ h68.size := Nat.le_trans z61 (Keep.of_wr W68).1
  have V68 : Arv Z h68 b3 k3 .char (21 : Int32) [(.int (32 : Int32)), (.int (98 : Int32)), (.int (121 : Int32)), (.int (116 : Int32)), (.int (101 : Int32)), (.int (115 : Int32)), (.int (32 : Int32)), (.int (102 : Int32)), (.int (nar .char (114 : Int32))), (.int (0 : Int32)), (.int (0 : Int32)), (.int (0 : Int32)), (.int (0 : Int32)), (.int (0 : Int32)), (.int (0 : Int32)), (.int (0 : Int32)), (.int (0 : Int32)), (.int (0 : Int32)), (.int (0 : Int32)), (.int (0 : Int32)), (.int (0 : Int32))] (.int (0 : Int32)) := V68
  have N68 := Fr.snoc X68 N62 g_b3
  rw [(show nar .char (114 : Int32) = (114 : Int32) by decide)] at V68
  refine own_dup (pc' := 559) X68 hx (hb hby at_558) rfl rfl ?_
  refine own_bipush (pc' := 561) X68 hx (9 : Int32) (hb hby at_559) rfl rfl ?_
  refine own_aload (pc' := 563) X68 hx (hb hby at_561) rfl rfl rfl ?_
  refine own_iload (pc' := 565) X68 hx (hb hby at_563) rfl rfl ?_
  refine own_bipush (pc' := 567) X68 hx (9 : Int32) (hb hby at_565) rfl rfl ?_
  refine own_iadd (pc' := 568) X68 hx (hb hby at_567) rfl ?_
  have ht70 := own_sufat (d := .int (0 : Int32)) hus2 (k := 9) (by decide) (i := (v1 + (9 : Int32))) (z1 := cn) (by have q9 := own_add (z := (v1 + (9 : Int32))) rfl (by omega) (by decide); have e9 : (9 : Int32).toInt = 9 := rfl; omega) hul
  have f71 := (f64.wr W68)
  have f72 := (f65.other W68 (Or.inl ne_t_b3))
  have f73 := (f66.other W68 (Or.inl ne_t_b3))
  have f74 := (f67.other W68 ne_tb_b3)
  refine own_callV (pc' := 571) (W := 5) (y := (⟨"java/lang/String", "charAt", "(I)C"⟩ : MethodName)) (z := (⟨"java/lang/String", "charAt", "(I)C"⟩ : MethodName)) X68 hx hZ hown (own_w hw 219 rfl) (own_w hw 220 rfl) (notFace_of_selects (args := #[]) (mvT hZ (own_w hw 222 rfl))) (own_w hw 222 rfl) (own_w hw 221 rfl) (own_w hw 2 rfl) (own_w hw 223 rfl) (by decide) f71 (con_charAt l Z a0 hw t (v1 + (9 : Int32)) _ n0 z68 G1 fm hG o68 tb ktb cn _ f71 f72 f73 f74 (111 : Int32) ht70.1 ht70.2) e68 pd32 [(.int (v1 + (9 : Int32)))] [(.int (9 : Int32)), (.ref b3), (.ref b3), (.ref b2), (.ref b2)] rfl rfl rfl (Nat.le_of_eq rfl) (by decide) (by decide) (by rw [hml]; rfl) (hb hby at_568) (by decide) (by decide) rfl ?_
  intro v69 T69 L69 X69 q69
  obtain ⟨r69, rfl, hr69, rfl, e69⟩ := q69
  have M69 := Fr.nil n0
  have N69 := Fr.app N68 M69
  obtain rfl : r69 = (111 : Int32) := by rw [hr69]; decide
  show own_WP _ _ _ _ _ _ _ (T69.setTop (mkF m 571 #[.val (.long xl), .second, .val (.int ci), .val (.int c0), .val (.int c1), .val (.int c2), .val (.int nn), .val (.ref seg), .val (.ref t), .val (.int r9), .val (.int ng), .val (.int dd), .val (.int (1 : Int32)), .val (.int v1), .unset, .unset, .unset, .unset, .unset, .unset] [(.int (111 : Int32)), (.int (9 : Int32)), (.ref b3), (.ref b3), (.ref b2), (.ref b2)]))
  refine own_castore (pc' := 572) X69 hx hZ e69 V68 ⟨by decide, by decide⟩ 9 rfl (Nat.le_of_ble_eq_true rfl) (hb hby at_571) rfl ?_
  intro T75 h75 X75 e75 W75 V75
  have o75 : own_Old Z n0 h75 := o68.wr W75 g_b3
  have H75 := CHv.wr W75 S68_b3 H68
  have S75_b2 := Safe.wr (x := b2) W75 S68_b3 H68 S68_b2
  have S75_b3 := Safe.wr (x := b3) W75 S68_b3 H68 S68_b3
  have kz75 := Nat.le_trans kz68 (Keep.of_wr W75).1
  have z75 : n0 ≤ h75.size := Nat.le_trans z68 (Keep.of_wr W75).1
  have V75 : Arv Z h75 b3 k3 .char (21 : Int32) [(.int (32 : Int32)), (.int (98 : Int32)), (.int (121 : Int32)), (.int (116 : Int32)), (.int (101 : Int32)), (.int (115 : Int32)), (.int (32 : Int32)), (.int (102 : Int32)), (.int (114 : Int32)), (.int (nar .char (111 : Int32))), (.int (0 : Int32)), (.int (0 : Int32)), (.int (0 : Int32)), (.int (0 : Int32)), (.int (0 : Int32)), (.int (0 : Int32)), (.int (0 : Int32)), (.int (0 : Int32)), (.int (0 : Int32)), (.int (0 : Int32)), (.int (0 : Int32))] (.int (0 : Int32)) := V75
  have N75 := Fr.snoc X75 N69 g_b3
  rw [(show nar .char (111 : Int32) = (111 : Int32) by decide)] at V75
  refine own_dup (pc' := 573) X75 hx (hb hby at_572) rfl rfl ?_
  refine own_bipush (pc' := 575) X75 hx (10 : Int32) (hb hby at_573) rfl rfl ?_
  refine own_aload (pc' := 577) X75 hx (hb hby at_575) rfl rfl rfl ?_
  refine own_iload (pc' := 579) X75 hx (hb hby at_577) rfl rfl ?_
  refine own_bipush (pc' := 581) X75 hx (10 : Int32) (hb hby at_579) rfl rfl ?_
  refine own_iadd (pc' := 582) X75 hx (hb hby at_581) rfl ?_
  have ht77 := own_sufat (d := .int (0 : Int32)) hus2 (k := 10) (by decide) (i := (v1 + (10 : Int32))) (z1 := cn) (by have q9 := own_add (z := (v1 + (10 : Int32))) rfl (by omega) (by decide); have e9 : (10 : Int32).toInt = 10 := rfl; omega) hul
  have f78 := (f71.wr W75)
  have f79 := (f72.other W75 (Or.inl ne_t_b3))
  have f80 := (f73.other W75 (Or.inl ne_t_b3))
  have f81 := (f74.other W75 ne_tb_b3)
  refine own_callV (pc' := 585) (W := 5) (y := (⟨"java/lang/String", "charAt", "(I)C"⟩ : MethodName)) (z := (⟨"java/lang/String", "charAt", "(I)C"⟩ : MethodName)) X75 hx hZ hown (own_w hw 219 rfl) (own_w hw 220 rfl) (notFace_of_selects (args := #[]) (mvT hZ (own_w hw 222 rfl))) (own_w hw 222 rfl) (own_w hw 221 rfl) (own_w hw 2 rfl) (own_w hw 223 rfl) (by decide) f78 (con_charAt l Z a0 hw t (v1 + (10 : Int32)) _ n0 z75 G1 fm hG o75 tb ktb cn _ f78 f79 f80 f81 (109 : Int32) ht77.1 ht77.2) e75 pd32 [(.int (v1 + (10 : Int32)))] [(.int (10 : Int32)), (.ref b3), (.ref b3), (.ref b2), (.ref b2)] rfl rfl rfl (Nat.le_of_eq rfl) (by decide) (by decide) (by rw [hml]; rfl) (hb hby at_582) (by decide) (by decide) rfl ?_
  intro v76 T76 L76 X76 q76
  obtain ⟨r76, rfl, hr76, rfl, e76⟩ := q76
  have M76 := Fr.nil n0
  have N76 := Fr.app N75 M76
  obtain rfl : r76 = (109 : Int32) := by rw [hr76]; decide
  show own_WP _ _ _ _ _ _ _ (T76.setTop (mkF m 585 #[.val (.long xl), .second, .val (.int ci), .val (.int c0), .val (.int c1), .val (.int c2), .val (.int nn), .val (.ref seg), .val (.ref t), .val (.int r9), .val (.int ng), .val (.int dd), .val (.int (1 : Int32)), .val (.int v1), .unset, .unset, .unset, .unset, .unset, .unset] [(.int (109 : Int32)), (.int (10 : Int32)), (.ref b3), (.ref b3), (.ref b2), (.ref b2)]))
  refine own_castore (pc' := 586) X76 hx hZ e76 V75 ⟨by decide, by decide⟩ 10 rfl (Nat.le_of_ble_eq_true rfl) (hb hby at_585) rfl ?_
  intro T82 h82 X82 e82 W82 V82
  have o82 : own_Old Z n0 h82 := o75.wr W82 g_b3
  have H82 := CHv.wr W82 S75_b3 H75
  have S82_b2 := Safe.wr (x := b2) W82 S75_b3 H75 S75_b2
  have S82_b3 := Safe.wr (x := b3) W82 S75_b3 H75 S75_b3
  have kz82 := Nat.le_trans kz75 (Keep.of_wr W82).1
  have z82 : n0 ≤ h82.size := Nat.le_trans z75 (Keep.of_wr W82).1
  have V82 : Arv Z h82 b3 k3 .char (21 : Int32) [(.int (32 : Int32)), (.int (98 : Int32)), (.int (121 : Int32)), (.int (116 : Int32)), (.int (101 : Int32)), (.int (115 : Int32)), (.int (32 : Int32)), (.int (102 : Int32)), (.int (114 : Int32)), (.int (111 : Int32)), (.int (nar .char (109 : Int32))), (.int (0 : Int32)), (.int (0 : Int32)), (.int (0 : Int32)), (.int (0 : Int32)), (.int (0 : Int32)), (.int (0 : Int32)), (.int (0 : Int32)), (.int (0 : Int32)), (.int (0 : Int32)), (.int (0 : Int32))] (.int (0 : Int32)) := V82
  have N82 := Fr.snoc X82 N76 g_b3
  rw [(show nar .char (109 : Int32) = (109 : Int32) by decide)] at V82
  refine own_dup (pc' := 587) X82 hx (hb hby at_586) rfl rfl ?_
  refine own_bipush (pc' := 589) X82 hx (11 : Int32) (hb hby at_587) rfl rfl ?_
  refine own_aload (pc' := 591) X82 hx (hb hby at_589) rfl rfl rfl ?_
  refine own_iload (pc' := 593) X82 hx (hb hby at_591) rfl rfl ?_
  refine own_bipush (pc' := 595) X82 hx (11 : Int32) (hb hby at_593) rfl rfl ?_
  refine own_iadd (pc' := 596) X82 hx (hb hby at_595) rfl ?_
  have ht84 := own_sufat (d := .int (0 : Int32)) hus2 (k := 11) (by decide) (i := (v1 + (11 : Int32))) (z1 := cn) (by have q9 := own_add (z := (v1 + (11 : Int32))) rfl (by omega) (by decide); have e9 : (11 : Int32).toInt = 11 := rfl; omega) hul
  have f85 := (f78.wr W82)
  have f86 := (f79.other W82 (Or.inl ne_t_b3))
  have f87 := (f80.other W82 (Or.inl ne_t_b3))
  have f88 := (f81.other W82 ne_tb_b3)
  refine own_callV (pc' := 599) (W := 5) (y := (⟨"java/lang/String", "charAt", "(I)C"⟩ : MethodName)) (z := (⟨"java/lang/String", "charAt", "(I)C"⟩ : MethodName)) X82 hx hZ hown (own_w hw 219 rfl) (own_w hw 220 rfl) (notFace_of_selects (args := #[]) (mvT hZ (own_w hw 222 rfl))) (own_w hw 222 rfl) (own_w hw 221 rfl) (own_w hw 2 rfl) (own_w hw 223 rfl) (by decide) f85 (con_charAt l Z a0 hw t (v1 + (11 : Int32)) _ n0 z82 G1 fm hG o82 tb ktb cn _ f85 f86 f87 f88 (32 : Int32) ht84.1 ht84.2) e82 pd32 [(.int (v1 + (11 : Int32)))] [(.int (11 : Int32)), (.ref b3), (.ref b3), (.ref b2), (.ref b2)] rfl rfl rfl (Nat.le_of_eq rfl) (by decide) (by decide) (by rw [hml]; rfl) (hb hby at_596) (by decide) (by decide) rfl ?_
  intro v83 T83 L83 X83 q83
  obtain ⟨r83, rfl, hr83, rfl, e83⟩ := q83
  have M83 := Fr.nil n0
  have N83 := Fr.app N82 M83
  obtain rfl : r83 = (32 : Int32) := by rw [hr83]; decide
  show own_WP _ _ _ _ _ _ _ (T83.setTop (mkF m 599 #[.val (.long xl), .second, .val (.int ci), .val (.int c0), .val (.int c1), .val (.int c2), .val (.int nn), .val (.ref seg), .val (.ref t), .val (.int r9), .val (.int ng), .val (.int dd), .val (.int (1 : Int32)), .val (.int v1), .unset, .unset, .unset, .unset, .unset, .unset] [(.int (32 : Int32)), (.int (11 : Int32)), (.ref b3), (.ref b3), (.ref b2), (.ref b2)]))
  refine own_castore (pc' := 600) X83 hx hZ e83 V82 ⟨by decide, by decide⟩ 11 rfl (Nat.le_of_ble_eq_true rfl) (hb hby at_599) rfl ?_
  intro T89 h89 X89 e89 W89 V89
  have o89 : own_Old Z n0 h89 := o82.wr W89 g_b3
  have H89 := CHv.wr W89 S82_b3 H82
  have S89_b2 := Safe.wr (x := b2) W89 S82_b3 H82 S82_b2
  have S89_b3 := Safe.wr (x := b3) W89 S82_b3 H82 S82_b3
  have kz89 := Nat.le_trans kz82 (Keep.of_wr W89).1
  have z89 : n0 ≤ h89.size := Nat.le_trans z82 (Keep.of_wr W89).1
  have V89 : Arv Z h89 b3 k3 .char (21 : Int32) [(.int (32 : Int32)), (.int (98 : Int32)), (.int (121 : Int32)), (.int (116 : Int32)), (.int (101 : Int32)), (.int (115 : Int32)), (.int (32 : Int32)), (.int (102 : Int32)), (.int (114 : Int32)), (.int (111 : Int32)), (.int (109 : Int32)), (.int (nar .char (32 : Int32))), (.int (0 : Int32)), (.int (0 : Int32)), (.int (0 : Int32)), (.int (0 : Int32)), (.int (0 : Int32)), (.int (0 : Int32)), (.int (0 : Int32)), (.int (0 : Int32)), (.int (0 : Int32))] (.int (0 : Int32)) := V89
  have N89 := Fr.snoc X89 N83 g_b3
  rw [(show nar .char (32 : Int32) = (32 : Int32) by decide)] at V89
  refine own_dup (pc' := 601) X89 hx (hb hby at_600) rfl rfl ?_
  refine own_bipush (pc' := 603) X89 hx (12 : Int32) (hb hby at_601) rfl rfl ?_
  refine own_aload (pc' := 605) X89 hx (hb hby at_603) rfl rfl rfl ?_
  refine own_iload (pc' := 607) X89 hx (hb hby at_605) rfl rfl ?_
  refine own_bipush (pc' := 609) X89 hx (12 : Int32) (hb hby at_607) rfl rfl ?_
  refine own_iadd (pc' := 610) X89 hx (hb hby at_609) rfl ?_
  have ht91 := own_sufat (d := .int (0 : Int32)) hus2 (k := 12) (by decide) (i := (v1 + (12 : Int32))) (z1 := cn) (by have q9 := own_add (z := (v1 + (12 : Int32))) rfl (by omega) (by decide); have e9 : (12 : Int32).toInt = 12 := rfl; omega) hul
  have f92 := (f85.wr W89)
  have f93 := (f86.other W89 (Or.inl ne_t_b3))
  have f94 := (f87.other W89 (Or.inl ne_t_b3))
  have f95 := (f88.other W89 ne_tb_b3)
  refine own_callV (pc' := 613) (W := 5) (y := (⟨"java/lang/String", "charAt", "(I)C"⟩ : MethodName)) (z := (⟨"java/lang/String", "charAt", "(I)C"⟩ : MethodName)) X89 hx hZ hown (own_w hw 219 rfl) (own_w hw 220 rfl) (notFace_of_selects (args := #[]) (mvT hZ (own_w hw 222 rfl))) (own_w hw 222 rfl) (own_w hw 221 rfl) (own_w hw 2 rfl) (own_w hw 223 rfl) (by decide) f92 (con_charAt l Z a0 hw t (v1 + (12 : Int32)) _ n0 z89 G1 fm hG o89 tb ktb cn _ f92 f93 f94 f95 (115 : Int32) ht91.1 ht91.2) e89 pd32 [(.int (v1 + (12 : Int32)))] [(.int (12 : Int32)), (.ref b3), (.ref b3), (.ref b2), (.ref b2)] rfl rfl rfl (Nat.le_of_eq rfl) (by decide) (by decide) (by rw [hml]; rfl) (hb hby at_610) (by decide) (by decide) rfl ?_
  intro v90 T90 L90 X90 q90
  obtain ⟨r90, rfl, hr90, rfl, e90⟩ := q90
  have M90 := Fr.nil n0
  have N90 := Fr.app N89 M90
  obtain rfl : r90 = (115 : Int32) := by rw [hr90]; decide
  show own_WP _ _ _ _ _ _ _ (T90.setTop (mkF m 613 #[.val (.long xl), .second, .val (.int ci), .val (.int c0), .val (.int c1), .val (.int c2), .val (.int nn), .val (.ref seg), .val (.ref t), .val (.int r9), .val (.int ng), .val (.int dd), .val (.int (1 : Int32)), .val (.int v1), .unset, .unset, .unset, .unset, .unset, .unset] [(.int (115 : Int32)), (.int (12 : Int32)), (.ref b3), (.ref b3), (.ref b2), (.ref b2)]))
  refine own_castore (pc' := 614) X90 hx hZ e90 V89 ⟨by decide, by decide⟩ 12 rfl (Nat.le_of_ble_eq_true rfl) (hb hby at_613) rfl ?_
  intro T96 h96 X96 e96 W96 V96
  have o96 : own_Old Z n0 h96 := o89.wr W96 g_b3
  have H96 := CHv.wr W96 S89_b3 H89
  have S96_b2 := Safe.wr (x := b2) W96 S89_b3 H89 S89_b2
  have S96_b3 := Safe.wr (x := b3) W96 S89_b3 H89 S89_b3
  have kz96 := Nat.le_trans kz89 (Keep.of_wr W96).1
  have z96 : n0 ≤ h96.size := Nat.le_trans z89 (Keep.of_wr W96).1
  have V96 : Arv Z h96 b3 k3 .char (21 : Int32) [(.int (32 : Int32)), (.int (98 : Int32)), (.int (121 : Int32)), (.int (116 : Int32)), (.int (101 : Int32)), (.int (115 : Int32)), (.int (32 : Int32)), (.int (102 : Int32)), (.int (114 : Int32)), (.int (111 : Int32)), (.int (109 : Int32)), (.int (32 : Int32)), (.int (nar .char (115 : Int32))), (.int (0 : Int32)), (.int (0 : Int32)), (.int (0 : Int32)), (.int (0 : Int32)), (.int (0 : Int32)), (.int (0 : Int32)), (.int (0 : Int32)), (.int (0 : Int32))] (.int (0 : Int32)) := V96
  have N96 := Fr.snoc X96 N90 g_b3
  rw [(show nar .char (115 : Int32) = (115 : Int32) by decide)] at V96
  refine own_dup (pc' := 615) X96 hx (hb hby at_614) rfl rfl ?_
  refine own_bipush (pc' := 617) X96 hx (13 : Int32) (hb hby at_615) rfl rfl ?_
  refine own_aload (pc' := 619) X96 hx (hb hby at_617) rfl rfl rfl ?_
  refine own_iload (pc' := 621) X96 hx (hb hby at_619) rfl rfl ?_
  refine own_bipush (pc' := 623) X96 hx (13 : Int32) (hb hby at_621) rfl rfl ?_
  refine own_iadd (pc' := 624) X96 hx (hb hby at_623) rfl ?_
  have ht98 := own_sufat (d := .int (0 : Int32)) hus2 (k := 13) (by decide) (i := (v1 + (13 : Int32))) (z1 := cn) (by have q9 := own_add (z := (v1 + (13 : Int32))) rfl (by omega) (by decide); have e9 : (13 : Int32).toInt = 13 := rfl; omega) hul
  have f99 := (f92.wr W96)
  have f100 := (f93.other W96 (Or.inl ne_t_b3))
  have f101 := (f94.other W96 (Or.inl ne_t_b3))
  have f102 := (f95.other W96 ne_tb_b3)
  refine own_callV (pc' := 627) (W := 5) (y := (⟨"java/lang/String", "charAt", "(I)C"⟩ : MethodName)) (z := (⟨"java/lang/String", "charAt", "(I)C"⟩ : MethodName)) X96 hx hZ hown (own_w hw 219 rfl) (own_w hw 220 rfl) (notFace_of_selects (args := #[]) (mvT hZ (own_w hw 222 rfl))) (own_w hw 222 rfl) (own_w hw 221 rfl) (own_w hw 2 rfl) (own_w hw 223 rfl) (by decide) f99 (con_charAt l Z a0 hw t (v1 + (13 : Int32)) _ n0 z96 G1 fm hG o96 tb ktb cn _ f99 f100 f101 f102 (101 : Int32) ht98.1 ht98.2) e96 pd32 [(.int (v1 + (13 : Int32)))] [(.int (13 : Int32)), (.ref b3), (.ref b3), (.ref b2), (.ref b2)] rfl rfl rfl (Nat.le_of_eq rfl) (by decide) (by decide) (by rw [hml]; rfl) (hb hby at_624) (by decide) (by decide) rfl ?_
  intro v97 T97 L97 X97 q97
  obtain ⟨r97, rfl, hr97, rfl, e97⟩ := q97
  have M97 := Fr.nil n0
  have N97 := Fr.app N96 M97
  obtain rfl : r97 = (101 : Int32) := by rw [hr97]; decide
  show own_WP _ _ _ _ _ _ _ (T97.setTop (mkF m 627 #[.val (.long xl), .second, .val (.int ci), .val (.int c0), .val (.int c1), .val (.int c2), .val (.int nn), .val (.ref seg), .val (.ref t), .val (.int r9), .val (.int ng), .val (.int dd), .val (.int (1 : Int32)), .val (.int v1), .unset, .unset, .unset, .unset, .unset, .unset] [(.int (101 : Int32)), (.int (13 : Int32)), (.ref b3), (.ref b3), (.ref b2), (.ref b2)]))
  refine own_castore (pc' := 628) X97 hx hZ e97 V96 ⟨by decide, by decide⟩ 13 rfl (Nat.le_of_ble_eq_true rfl) (hb hby at_627) rfl ?_
  intro T103 h103 X103 e103 W103 V103
  have o103 : own_Old Z n0 h103 := o96.wr W103 g_b3
  have H103 := CHv.wr W103 S96_b3 H96
  have S103_b2 := Safe.wr (x := b2) W103 S96_b3 H96 S96_b2
  have S103_b3 := Safe.wr (x := b3) W103 S96_b3 H96 S96_b3
  have kz103 := Nat.le_trans kz96 (Keep.of_wr W103).1
  have z103 : n0 ≤ h103.size := Nat.le_trans z96 (Keep.of_wr W103).1
  have V103 : Arv Z h103 b3 k3 .char (21 : Int32) [(.int (32 : Int32)), (.int (98 : Int32)), (.int (121 : Int32)), (.int (116 : Int32)), (.int (101 : Int32)), (.int (115 : Int32)), (.int (32 : Int32)), (.int (102 : Int32)), (.int (114 : Int32)), (.int (111 : Int32)), (.int (109 : Int32)), (.int (32 : Int32)), (.int (115 : Int32)), (.int (nar .char (101 : Int32))), (.int (0 : Int32)), (.int (0 : Int32)), (.int (0 : Int32)), (.int (0 : Int32)), (.int (0 : Int32)), (.int (0 : Int32)), (.int (0 : Int32))] (.int (0 : Int32)) := V103
  have N103 := Fr.snoc X103 N97 g_b3
  rw [(show nar .char (101 : Int32) = (101 : Int32) by decide)] at V103
  refine own_dup (pc' := 629) X103 hx (hb hby at_628) rfl rfl ?_
  refine own_bipush (pc' := 631) X103 hx (14 : Int32) (hb hby at_629) rfl rfl ?_
  refine own_aload (pc' := 633) X103 hx (hb hby at_631) rfl rfl rfl ?_
  refine own_iload (pc' := 635) X103 hx (hb hby at_633) rfl rfl ?_
  refine own_bipush (pc' := 637) X103 hx (14 : Int32) (hb hby at_635) rfl rfl ?_
  refine own_iadd (pc' := 638) X103 hx (hb hby at_637) rfl ?_
  have ht105 := own_sufat (d := .int (0 : Int32)) hus2 (k := 14) (by decide) (i := (v1 + (14 : Int32))) (z1 := cn) (by have q9 := own_add (z := (v1 + (14 : Int32))) rfl (by omega) (by decide); have e9 : (14 : Int32).toInt = 14 := rfl; omega) hul
  have f106 := (f99.wr W103)
  have f107 := (f100.other W103 (Or.inl ne_t_b3))
  have f108 := (f101.other W103 (Or.inl ne_t_b3))
  have f109 := (f102.other W103 ne_tb_b3)
  refine own_callV (pc' := 641) (W := 5) (y := (⟨"java/lang/String", "charAt", "(I)C"⟩ : MethodName)) (z := (⟨"java/lang/String", "charAt", "(I)C"⟩ : MethodName)) X103 hx hZ hown (own_w hw 219 rfl) (own_w hw 220 rfl) (notFace_of_selects (args := #[]) (mvT hZ (own_w hw 222 rfl))) (own_w hw 222 rfl) (own_w hw 221 rfl) (own_w hw 2 rfl) (own_w hw 223 rfl) (by decide) f106 (con_charAt l Z a0 hw t (v1 + (14 : Int32)) _ n0 z103 G1 fm hG o103 tb ktb cn _ f106 f107 f108 f109 (103 : Int32) ht105.1 ht105.2) e103 pd32 [(.int (v1 + (14 : Int32)))] [(.int (14 : Int32)), (.ref b3), (.ref b3), (.ref b2), (.ref b2)] rfl rfl rfl (Nat.le_of_eq rfl) (by decide) (by decide) (by rw [hml]; rfl) (hb hby at_638) (by decide) (by decide) rfl ?_
  intro v104 T104 L104 X104 q104
  obtain ⟨r104, rfl, hr104, rfl, e104⟩ := q104
  have M104 := Fr.nil n0
  have N104 := Fr.app N103 M104
  obtain rfl : r104 = (103 : Int32) := by rw [hr104]; decide
  show own_WP _ _ _ _ _ _ _ (T104.setTop (mkF m 641 #[.val (.long xl), .second, .val (.int ci), .val (.int c0), .val (.int c1), .val (.int c2), .val (.int nn), .val (.ref seg), .val (.ref t), .val (.int r9), .val (.int ng), .val (.int dd), .val (.int (1 : Int32)), .val (.int v1), .unset, .unset, .unset, .unset, .unset, .unset] [(.int (103 : Int32)), (.int (14 : Int32)), (.ref b3), (.ref b3), (.ref b2), (.ref b2)]))
  refine own_castore (pc' := 642) X104 hx hZ e104 V103 ⟨by decide, by decide⟩ 14 rfl (Nat.le_of_ble_eq_true rfl) (hb hby at_641) rfl ?_
  intro T110 h110 X110 e110 W110 V110
  have o110 : own_Old Z n0 h110 := o103.wr W110 g_b3
  have H110 := CHv.wr W110 S103_b3 H103
  have S110_b2 := Safe.wr (x := b2) W110 S103_b3 H103 S103_b2
  have S110_b3 := Safe.wr (x := b3) W110 S103_b3 H103 S103_b3
  have kz110 := Nat.le_trans kz103 (Keep.of_wr W110).1
  have z110 : n0 ≤ h110.size := Nat.le_trans z103 (Keep.of_wr W110).1
  have V110 : Arv Z h110 b3 k3 .char (21 : Int32) [(.int (32 : Int32)), (.int (98 : Int32)), (.int (121 : Int32)), (.int (116 : Int32)), (.int (101 : Int32)), (.int (115 : Int32)), (.int (32 : Int32)), (.int (102 : Int32)), (.int (114 : Int32)), (.int (111 : Int32)), (.int (109 : Int32)), (.int (32 : Int32)), (.int (115 : Int32)), (.int (101 : Int32)), (.int (nar .char (103 : Int32))), (.int (0 : Int32)), (.int (0 : Int32)), (.int (0 : Int32)), (.int (0 : Int32)), (.int (0 : Int32)), (.int (0 : Int32))] (.int (0 : Int32)) := V110
  have N110 := Fr.snoc X110 N104 g_b3
  rw [(show nar .char (103 : Int32) = (103 : Int32) by decide)] at V110
  refine own_dup (pc' := 643) X110 hx (hb hby at_642) rfl rfl ?_
  refine own_bipush (pc' := 645) X110 hx (15 : Int32) (hb hby at_643) rfl rfl ?_
  refine own_aload (pc' := 647) X110 hx (hb hby at_645) rfl rfl rfl ?_
  refine own_iload (pc' := 649) X110 hx (hb hby at_647) rfl rfl ?_
  refine own_bipush (pc' := 651) X110 hx (15 : Int32) (hb hby at_649) rfl rfl ?_
  refine own_iadd (pc' := 652) X110 hx (hb hby at_651) rfl ?_
  have ht112 := own_sufat (d := .int (0 : Int32)) hus2 (k := 15) (by decide) (i := (v1 + (15 : Int32))) (z1 := cn) (by have q9 := own_add (z := (v1 + (15 : Int32))) rfl (by omega) (by decide); have e9 : (15 : Int32).toInt = 15 := rfl; omega) hul
  have f113 := (f106.wr W110)
  have f114 := (f107.other W110 (Or.inl ne_t_b3))
  have f115 := (f108.other W110 (Or.inl ne_t_b3))
  have f116 := (f109.other W110 ne_tb_b3)
  refine own_callV (pc' := 655) (W := 5) (y := (⟨"java/lang/String", "charAt", "(I)C"⟩ : MethodName)) (z := (⟨"java/lang/String", "charAt", "(I)C"⟩ : MethodName)) X110 hx hZ hown (own_w hw 219 rfl) (own_w hw 220 rfl) (notFace_of_selects (args := #[]) (mvT hZ (own_w hw 222 rfl))) (own_w hw 222 rfl) (own_w hw 221 rfl) (own_w hw 2 rfl) (own_w hw 223 rfl) (by decide) f113 (con_charAt l Z a0 hw t (v1 + (15 : Int32)) _ n0 z110 G1 fm hG o110 tb ktb cn _ f113 f114 f115 f116 (109 : Int32) ht112.1 ht112.2) e110 pd32 [(.int (v1 + (15 : Int32)))] [(.int (15 : Int32)), (.ref b3), (.ref b3), (.ref b2), (.ref b2)] rfl rfl rfl (Nat.le_of_eq rfl) (by decide) (by decide) (by rw [hml]; rfl) (hb hby at_652) (by decide) (by decide) rfl ?_
  intro v111 T111 L111 X111 q111
  obtain ⟨r111, rfl, hr111, rfl, e111⟩ := q111
  have M111 := Fr.nil n0
  have N111 := Fr.app N110 M111
  obtain rfl : r111 = (109 : Int32) := by rw [hr111]; decide
  show own_WP _ _ _ _ _ _ _ (T111.setTop (mkF m 655 #[.val (.long xl), .second, .val (.int ci), .val (.int c0), .val (.int c1), .val (.int c2), .val (.int nn), .val (.ref seg), .val (.ref t), .val (.int r9), .val (.int ng), .val (.int dd), .val (.int (1 : Int32)), .val (.int v1), .unset, .unset, .unset, .unset, .unset, .unset] [(.int (109 : Int32)), (.int (15 : Int32)), (.ref b3), (.ref b3), (.ref b2), (.ref b2)]))
  refine own_castore (pc' := 656) X111 hx hZ e111 V110 ⟨by decide, by decide⟩ 15 rfl (Nat.le_of_ble_eq_true rfl) (hb hby at_655) rfl ?_
  intro T117 h117 X117 e117 W117 V117
  have o117 : own_Old Z n0 h117 := o110.wr W117 g_b3
  have H117 := CHv.wr W117 S110_b3 H110
  have S117_b2 := Safe.wr (x := b2) W117 S110_b3 H110 S110_b2
  have S117_b3 := Safe.wr (x := b3) W117 S110_b3 H110 S110_b3
  have kz117 := Nat.le_trans kz110 (Keep.of_wr W117).1
  have z117 : n0 ≤ h117.size := Nat.le_trans z110 (Keep.of_wr W117).1
  have V117 : Arv Z h117 b3 k3 .char (21 : Int32) [(.int (32 : Int32)), (.int (98 : Int32)), (.int (121 : Int32)), (.int (116 : Int32)), (.int (101 : Int32)), (.int (115 : Int32)), (.int (32 : Int32)), (.int (102 : Int32)), (.int (114 : Int32)), (.int (111 : Int32)), (.int (109 : Int32)), (.int (32 : Int32)), (.int (115 : Int32)), (.int (101 : Int32)), (.int (103 : Int32)), (.int (nar .char (109 : Int32))), (.int (0 : Int32)), (.int (0 : Int32)), (.int (0 : Int32)), (.int (0 : Int32)), (.int (0 : Int32))] (.int (0 : Int32)) := V117
  have N117 := Fr.snoc X117 N111 g_b3
  rw [(show nar .char (109 : Int32) = (109 : Int32) by decide)] at V117
  refine own_dup (pc' := 657) X117 hx (hb hby at_656) rfl rfl ?_
  refine own_bipush (pc' := 659) X117 hx (16 : Int32) (hb hby at_657) rfl rfl ?_
  refine own_aload (pc' := 661) X117 hx (hb hby at_659) rfl rfl rfl ?_
  refine own_iload (pc' := 663) X117 hx (hb hby at_661) rfl rfl ?_
  refine own_bipush (pc' := 665) X117 hx (16 : Int32) (hb hby at_663) rfl rfl ?_
  refine own_iadd (pc' := 666) X117 hx (hb hby at_665) rfl ?_
  have ht119 := own_sufat (d := .int (0 : Int32)) hus2 (k := 16) (by decide) (i := (v1 + (16 : Int32))) (z1 := cn) (by have q9 := own_add (z := (v1 + (16 : Int32))) rfl (by omega) (by decide); have e9 : (16 : Int32).toInt = 16 := rfl; omega) hul
  have f120 := (f113.wr W117)
  have f121 := (f114.other W117 (Or.inl ne_t_b3))
  have f122 := (f115.other W117 (Or.inl ne_t_b3))
  have f123 := (f116.other W117 ne_tb_b3)
  refine own_callV (pc' := 669) (W := 5) (y := (⟨"java/lang/String", "charAt", "(I)C"⟩ : MethodName)) (z := (⟨"java/lang/String", "charAt", "(I)C"⟩ : MethodName)) X117 hx hZ hown (own_w hw 219 rfl) (own_w hw 220 rfl) (notFace_of_selects (args := #[]) (mvT hZ (own_w hw 222 rfl))) (own_w hw 222 rfl) (own_w hw 221 rfl) (own_w hw 2 rfl) (own_w hw 223 rfl) (by decide) f120 (con_charAt l Z a0 hw t (v1 + (16 : Int32)) _ n0 z117 G1 fm hG o117 tb ktb cn _ f120 f121 f122 f123 (101 : Int32) ht119.1 ht119.2) e117 pd32 [(.int (v1 + (16 : Int32)))] [(.int (16 : Int32)), (.ref b3), (.ref b3), (.ref b2), (.ref b2)] rfl rfl rfl (Nat.le_of_eq rfl) (by decide) (by decide) (by rw [hml]; rfl) (hb hby at_666) (by decide) (by decide) rfl ?_
  intro v118 T118 L118 X118 q118
  obtain ⟨r118, rfl, hr118, rfl, e118⟩ := q118
  have M118 := Fr.nil n0
  have N118 := Fr.app N117 M118
  obtain rfl : r118 = (101 : Int32) := by rw [hr118]; decide
  show own_WP _ _ _ _ _ _ _ (T118.setTop (mkF m 669 #[.val (.long xl), .second, .val (.int ci), .val (.int c0), .val (.int c1), .val (.int c2), .val (.int nn), .val (.ref seg), .val (.ref t), .val (.int r9), .val (.int ng), .val (.int dd), .val (.int (1 : Int32)), .val (.int v1), .unset, .unset, .unset, .unset, .unset, .unset] [(.int (101 : Int32)), (.int (16 : Int32)), (.ref b3), (.ref b3), (.ref b2), (.ref b2)]))
  refine own_castore (pc' := 670) X118 hx hZ e118 V117 ⟨by decide, by decide⟩ 16 rfl (Nat.le_of_ble_eq_true rfl) (hb hby at_669) rfl ?_
  intro T124 h124 X124 e124 W124 V124
  have o124 : own_Old Z n0 h124 := o117.wr W124 g_b3
  have H124 := CHv.wr W124 S117_b3 H117
  have S124_b2 := Safe.wr (x := b2) W124 S117_b3 H117 S117_b2
  have S124_b3 := Safe.wr (x := b3) W124 S117_b3 H117 S117_b3
  have kz124 := Nat.le_trans kz117 (Keep.of_wr W124).1
  have z124 : n0 ≤ h124.size := Nat.le_trans z117 (Keep.of_wr W124).1
  have V124 : Arv Z h124 b3 k3 .char (21 : Int32) [(.int (32 : Int32)), (.int (98 : Int32)), (.int (121 : Int32)), (.int (116 : Int32)), (.int (101 : Int32)), (.int (115 : Int32)), (.int (32 : Int32)), (.int (102 : Int32)), (.int (114 : Int32)), (.int (111 : Int32)), (.int (109 : Int32)), (.int (32 : Int32)), (.int (115 : Int32)), (.int (101 : Int32)), (.int (103 : Int32)), (.int (109 : Int32)), (.int (nar .char (101 : Int32))), (.int (0 : Int32)), (.int (0 : Int32)), (.int (0 : Int32)), (.int (0 : Int32))] (.int (0 : Int32)) := V124
  have N124 := Fr.snoc X124 N118 g_b3
  rw [(show nar .char (101 : Int32) = (101 : Int32) by decide)] at V124
  refine own_dup (pc' := 671) X124 hx (hb hby at_670) rfl rfl ?_
  refine own_bipush (pc' := 673) X124 hx (17 : Int32) (hb hby at_671) rfl rfl ?_
  refine own_aload (pc' := 675) X124 hx (hb hby at_673) rfl rfl rfl ?_
  refine own_iload (pc' := 677) X124 hx (hb hby at_675) rfl rfl ?_
  refine own_bipush (pc' := 679) X124 hx (17 : Int32) (hb hby at_677) rfl rfl ?_
  refine own_iadd (pc' := 680) X124 hx (hb hby at_679) rfl ?_
  have ht126 := own_sufat (d := .int (0 : Int32)) hus2 (k := 17) (by decide) (i := (v1 + (17 : Int32))) (z1 := cn) (by have q9 := own_add (z := (v1 + (17 : Int32))) rfl (by omega) (by decide); have e9 : (17 : Int32).toInt = 17 := rfl; omega) hul
  have f127 := (f120.wr W124)
  have f128 := (f121.other W124 (Or.inl ne_t_b3))
  have f129 := (f122.other W124 (Or.inl ne_t_b3))
  have f130 := (f123.other W124 ne_tb_b3)
  refine own_callV (pc' := 683) (W := 5) (y := (⟨"java/lang/String", "charAt", "(I)C"⟩ : MethodName)) (z := (⟨"java/lang/String", "charAt", "(I)C"⟩ : MethodName)) X124 hx hZ hown (own_w hw 219 rfl) (own_w hw 220 rfl) (notFace_of_selects (args := #[]) (mvT hZ (own_w hw 222 rfl))) (own_w hw 222 rfl) (own_w hw 221 rfl) (own_w hw 2 rfl) (own_w hw 223 rfl) (by decide) f127 (con_charAt l Z a0 hw t (v1 + (17 : Int32)) _ n0 z124 G1 fm hG o124 tb ktb cn _ f127 f128 f129 f130 (110 : Int32) ht126.1 ht126.2) e124 pd32 [(.int (v1 + (17 : Int32)))] [(.int (17 : Int32)), (.ref b3), (.ref b3), (.ref b2), (.ref b2)] rfl rfl rfl (Nat.le_of_eq rfl) (by decide) (by decide) (by rw [hml]; rfl) (hb hby at_680) (by decide) (by decide) rfl ?_
  intro v125 T125 L125 X125 q125
  obtain ⟨r125, rfl, hr125, rfl, e125⟩ := q125
  have M125 := Fr.nil n0
  have N125 := Fr.app N124 M125
  obtain rfl : r125 = (110 : Int32) := by rw [hr125]; decide
  show own_WP _ _ _ _ _ _ _ (T125.setTop (mkF m 683 #[.val (.long xl), .second, .val (.int ci), .val (.int c0), .val (.int c1), .val (.int c2), .val (.int nn), .val (.ref seg), .val (.ref t), .val (.int r9), .val (.int ng), .val (.int dd), .val (.int (1 : Int32)), .val (.int v1), .unset, .unset, .unset, .unset, .unset, .unset] [(.int (110 : Int32)), (.int (17 : Int32)), (.ref b3), (.ref b3), (.ref b2), (.ref b2)]))
  refine own_castore (pc' := 684) X125 hx hZ e125 V124 ⟨by decide, by decide⟩ 17 rfl (Nat.le_of_ble_eq_true rfl) (hb hby at_683) rfl ?_
  intro T131 h131 X131 e131 W131 V131
  have o131 : own_Old Z n0 h131 := o124.wr W131 g_b3
  have H131 := CHv.wr W131 S124_b3 H124
  have S131_b2 := Safe.wr (x := b2) W131 S124_b3 H124 S124_b2
  have S131_b3 := Safe.wr (x := b3) W131 S124_b3 H124 S124_b3
  have kz131 := Nat.le_trans kz124 (Keep.of_wr W131).1
  have z131 : n0 ≤ h131.size := Nat.le_trans z124 (Keep.of_wr W131).1
  have V131 : Arv Z h131 b3 k3 .char (21 : Int32) [(.int (32 : Int32)), (.int (98 : Int32)), (.int (121 : Int32)), (.int (116 : Int32)), (.int (101 : Int32)), (.int (115 : Int32)), (.int (32 : Int32)), (.int (102 : Int32)), (.int (114 : Int32)), (.int (111 : Int32)), (.int (109 : Int32)), (.int (32 : Int32)), (.int (115 : Int32)), (.int (101 : Int32)), (.int (103 : Int32)), (.int (109 : Int32)), (.int (101 : Int32)), (.int (nar .char (110 : Int32))), (.int (0 : Int32)), (.int (0 : Int32)), (.int (0 : Int32))] (.int (0 : Int32)) := V131
  have N131 := Fr.snoc X131 N125 g_b3
  rw [(show nar .char (110 : Int32) = (110 : Int32) by decide)] at V131
  refine own_dup (pc' := 685) X131 hx (hb hby at_684) rfl rfl ?_
  refine own_bipush (pc' := 687) X131 hx (18 : Int32) (hb hby at_685) rfl rfl ?_
  refine own_aload (pc' := 689) X131 hx (hb hby at_687) rfl rfl rfl ?_
  refine own_iload (pc' := 691) X131 hx (hb hby at_689) rfl rfl ?_
  refine own_bipush (pc' := 693) X131 hx (18 : Int32) (hb hby at_691) rfl rfl ?_
  refine own_iadd (pc' := 694) X131 hx (hb hby at_693) rfl ?_
  have ht133 := own_sufat (d := .int (0 : Int32)) hus2 (k := 18) (by decide) (i := (v1 + (18 : Int32))) (z1 := cn) (by have q9 := own_add (z := (v1 + (18 : Int32))) rfl (by omega) (by decide); have e9 : (18 : Int32).toInt = 18 := rfl; omega) hul
  have f134 := (f127.wr W131)
  have f135 := (f128.other W131 (Or.inl ne_t_b3))
  have f136 := (f129.other W131 (Or.inl ne_t_b3))
  have f137 := (f130.other W131 ne_tb_b3)
  refine own_callV (pc' := 697) (W := 5) (y := (⟨"java/lang/String", "charAt", "(I)C"⟩ : MethodName)) (z := (⟨"java/lang/String", "charAt", "(I)C"⟩ : MethodName)) X131 hx hZ hown (own_w hw 219 rfl) (own_w hw 220 rfl) (notFace_of_selects (args := #[]) (mvT hZ (own_w hw 222 rfl))) (own_w hw 222 rfl) (own_w hw 221 rfl) (own_w hw 2 rfl) (own_w hw 223 rfl) (by decide) f134 (con_charAt l Z a0 hw t (v1 + (18 : Int32)) _ n0 z131 G1 fm hG o131 tb ktb cn _ f134 f135 f136 f137 (116 : Int32) ht133.1 ht133.2) e131 pd32 [(.int (v1 + (18 : Int32)))] [(.int (18 : Int32)), (.ref b3), (.ref b3), (.ref b2), (.ref b2)] rfl rfl rfl (Nat.le_of_eq rfl) (by decide) (by decide) (by rw [hml]; rfl) (hb hby at_694) (by decide) (by decide) rfl ?_
  intro v132 T132 L132 X132 q132
  obtain ⟨r132, rfl, hr132, rfl, e132⟩ := q132
  have M132 := Fr.nil n0
  have N132 := Fr.app N131 M132
  obtain rfl : r132 = (116 : Int32) := by rw [hr132]; decide
  show own_WP _ _ _ _ _ _ _ (T132.setTop (mkF m 697 #[.val (.long xl), .second, .val (.int ci), .val (.int c0), .val (.int c1), .val (.int c2), .val (.int nn), .val (.ref seg), .val (.ref t), .val (.int r9), .val (.int ng), .val (.int dd), .val (.int (1 : Int32)), .val (.int v1), .unset, .unset, .unset, .unset, .unset, .unset] [(.int (116 : Int32)), (.int (18 : Int32)), (.ref b3), (.ref b3), (.ref b2), (.ref b2)]))
  refine own_castore (pc' := 698) X132 hx hZ e132 V131 ⟨by decide, by decide⟩ 18 rfl (Nat.le_of_ble_eq_true rfl) (hb hby at_697) rfl ?_
  intro T138 h138 X138 e138 W138 V138
  have o138 : own_Old Z n0 h138 := o131.wr W138 g_b3
  have H138 := CHv.wr W138 S131_b3 H131
  have S138_b2 := Safe.wr (x := b2) W138 S131_b3 H131 S131_b2
  have S138_b3 := Safe.wr (x := b3) W138 S131_b3 H131 S131_b3
  have kz138 := Nat.le_trans kz131 (Keep.of_wr W138).1
  have z138 : n0 ≤ h138.size := Nat.le_trans z131 (Keep.of_wr W138).1
  have V138 : Arv Z h138 b3 k3 .char (21 : Int32) [(.int (32 : Int32)), (.int (98 : Int32)), (.int (121 : Int32)), (.int (116 : Int32)), (.int (101 : Int32)), (.int (115 : Int32)), (.int (32 : Int32)), (.int (102 : Int32)), (.int (114 : Int32)), (.int (111 : Int32)), (.int (109 : Int32)), (.int (32 : Int32)), (.int (115 : Int32)), (.int (101 : Int32)), (.int (103 : Int32)), (.int (109 : Int32)), (.int (101 : Int32)), (.int (110 : Int32)), (.int (nar .char (116 : Int32))), (.int (0 : Int32)), (.int (0 : Int32))] (.int (0 : Int32)) := V138
  have N138 := Fr.snoc X138 N132 g_b3
  rw [(show nar .char (116 : Int32) = (116 : Int32) by decide)] at V138
  refine own_dup (pc' := 699) X138 hx (hb hby at_698) rfl rfl ?_
  refine own_bipush (pc' := 701) X138 hx (19 : Int32) (hb hby at_699) rfl rfl ?_
  refine own_aload (pc' := 703) X138 hx (hb hby at_701) rfl rfl rfl ?_
  refine own_iload (pc' := 705) X138 hx (hb hby at_703) rfl rfl ?_
  refine own_bipush (pc' := 707) X138 hx (19 : Int32) (hb hby at_705) rfl rfl ?_
  refine own_iadd (pc' := 708) X138 hx (hb hby at_707) rfl ?_
  have ht140 := own_sufat (d := .int (0 : Int32)) hus2 (k := 19) (by decide) (i := (v1 + (19 : Int32))) (z1 := cn) (by have q9 := own_add (z := (v1 + (19 : Int32))) rfl (by omega) (by decide); have e9 : (19 : Int32).toInt = 19 := rfl; omega) hul
  have f141 := (f134.wr W138)
  have f142 := (f135.other W138 (Or.inl ne_t_b3))
  have f143 := (f136.other W138 (Or.inl ne_t_b3))
  have f144 := (f137.other W138 ne_tb_b3)
  refine own_callV (pc' := 711) (W := 5) (y := (⟨"java/lang/String", "charAt", "(I)C"⟩ : MethodName)) (z := (⟨"java/lang/String", "charAt", "(I)C"⟩ : MethodName)) X138 hx hZ hown (own_w hw 219 rfl) (own_w hw 220 rfl) (notFace_of_selects (args := #[]) (mvT hZ (own_w hw 222 rfl))) (own_w hw 222 rfl) (own_w hw 221 rfl) (own_w hw 2 rfl) (own_w hw 223 rfl) (by decide) f141 (con_charAt l Z a0 hw t (v1 + (19 : Int32)) _ n0 z138 G1 fm hG o138 tb ktb cn _ f141 f142 f143 f144 (115 : Int32) ht140.1 ht140.2) e138 pd32 [(.int (v1 + (19 : Int32)))] [(.int (19 : Int32)), (.ref b3), (.ref b3), (.ref b2), (.ref b2)] rfl rfl rfl (Nat.le_of_eq rfl) (by decide) (by decide) (by rw [hml]; rfl) (hb hby at_708) (by decide) (by decide) rfl ?_
  intro v139 T139 L139 X139 q139
  obtain ⟨r139, rfl, hr139, rfl, e139⟩ := q139
  have M139 := Fr.nil n0
  have N139 := Fr.app N138 M139
  obtain rfl : r139 = (115 : Int32) := by rw [hr139]; decide
  show own_WP _ _ _ _ _ _ _ (T139.setTop (mkF m 711 #[.val (.long xl), .second, .val (.int ci), .val (.int c0), .val (.int c1), .val (.int c2), .val (.int nn), .val (.ref seg), .val (.ref t), .val (.int r9), .val (.int ng), .val (.int dd), .val (.int (1 : Int32)), .val (.int v1), .unset, .unset, .unset, .unset, .unset, .unset] [(.int (115 : Int32)), (.int (19 : Int32)), (.ref b3), (.ref b3), (.ref b2), (.ref b2)]))
  refine own_castore (pc' := 712) X139 hx hZ e139 V138 ⟨by decide, by decide⟩ 19 rfl (Nat.le_of_ble_eq_true rfl) (hb hby at_711) rfl ?_
  intro T145 h145 X145 e145 W145 V145
  have o145 : own_Old Z n0 h145 := o138.wr W145 g_b3
  have H145 := CHv.wr W145 S138_b3 H138
  have S145_b2 := Safe.wr (x := b2) W145 S138_b3 H138 S138_b2
  have S145_b3 := Safe.wr (x := b3) W145 S138_b3 H138 S138_b3
  have kz145 := Nat.le_trans kz138 (Keep.of_wr W145).1
  have z145 : n0 ≤ h145.size := Nat.le_trans z138 (Keep.of_wr W145).1
  have V145 : Arv Z h145 b3 k3 .char (21 : Int32) [(.int (32 : Int32)), (.int (98 : Int32)), (.int (121 : Int32)), (.int (116 : Int32)), (.int (101 : Int32)), (.int (115 : Int32)), (.int (32 : Int32)), (.int (102 : Int32)), (.int (114 : Int32)), (.int (111 : Int32)), (.int (109 : Int32)), (.int (32 : Int32)), (.int (115 : Int32)), (.int (101 : Int32)), (.int (103 : Int32)), (.int (109 : Int32)), (.int (101 : Int32)), (.int (110 : Int32)), (.int (116 : Int32)), (.int (nar .char (115 : Int32))), (.int (0 : Int32))] (.int (0 : Int32)) := V145
  have N145 := Fr.snoc X145 N139 g_b3
  rw [(show nar .char (115 : Int32) = (115 : Int32) by decide)] at V145
  refine own_dup (pc' := 713) X145 hx (hb hby at_712) rfl rfl ?_
  refine own_bipush (pc' := 715) X145 hx (20 : Int32) (hb hby at_713) rfl rfl ?_
  refine own_aload (pc' := 717) X145 hx (hb hby at_715) rfl rfl rfl ?_
  refine own_iload (pc' := 719) X145 hx (hb hby at_717) rfl rfl ?_
  refine own_bipush (pc' := 721) X145 hx (20 : Int32) (hb hby at_719) rfl rfl ?_
  refine own_iadd (pc' := 722) X145 hx (hb hby at_721) rfl ?_
  have ht147 := own_sufat (d := .int (0 : Int32)) hus2 (k := 20) (by decide) (i := (v1 + (20 : Int32))) (z1 := cn) (by have q9 := own_add (z := (v1 + (20 : Int32))) rfl (by omega) (by decide); have e9 : (20 : Int32).toInt = 20 := rfl; omega) hul
  have f148 := (f141.wr W145)
  have f149 := (f142.other W145 (Or.inl ne_t_b3))
  have f150 := (f143.other W145 (Or.inl ne_t_b3))
  have f151 := (f144.other W145 ne_tb_b3)
  refine own_callV (pc' := 725) (W := 5) (y := (⟨"java/lang/String", "charAt", "(I)C"⟩ : MethodName)) (z := (⟨"java/lang/String", "charAt", "(I)C"⟩ : MethodName)) X145 hx hZ hown (own_w hw 219 rfl) (own_w hw 220 rfl) (notFace_of_selects (args := #[]) (mvT hZ (own_w hw 222 rfl))) (own_w hw 222 rfl) (own_w hw 221 rfl) (own_w hw 2 rfl) (own_w hw 223 rfl) (by decide) f148 (con_charAt l Z a0 hw t (v1 + (20 : Int32)) _ n0 z145 G1 fm hG o145 tb ktb cn _ f148 f149 f150 f151 (47 : Int32) ht147.1 ht147.2) e145 pd32 [(.int (v1 + (20 : Int32)))] [(.int (20 : Int32)), (.ref b3), (.ref b3), (.ref b2), (.ref b2)] rfl rfl rfl (Nat.le_of_eq rfl) (by decide) (by decide) (by rw [hml]; rfl) (hb hby at_722) (by decide) (by decide) rfl ?_
  intro v146 T146 L146 X146 q146
  obtain ⟨r146, rfl, hr146, rfl, e146⟩ := q146
  have M146 := Fr.nil n0
  have N146 := Fr.app N145 M146
  obtain rfl : r146 = (47 : Int32) := by rw [hr146]; decide
  show own_WP _ _ _ _ _ _ _ (T146.setTop (mkF m 725 #[.val (.long xl), .second, .val (.int ci), .val (.int c0), .val (.int c1), .val (.int c2), .val (.int nn), .val (.ref seg), .val (.ref t), .val (.int r9), .val (.int ng), .val (.int dd), .val (.int (1 : Int32)), .val (.int v1), .unset, .unset, .unset, .unset, .unset, .unset] [(.int (47 : Int32)), (.int (20 : Int32)), (.ref b3), (.ref b3), (.ref b2), (.ref b2)]))
  refine own_castore (pc' := 726) X146 hx hZ e146 V145 ⟨by decide, by decide⟩ 20 rfl (Nat.le_of_ble_eq_true rfl) (hb hby at_725) rfl ?_
  intro T152 h152 X152 e152 W152 V152
  have o152 : own_Old Z n0 h152 := o145.wr W152 g_b3
  have H152 := CHv.wr W152 S145_b3 H145
  have S152_b2 := Safe.wr (x := b2) W152 S145_b3 H145 S145_b2
  have kz152 := Nat.le_trans kz145 (Keep.of_wr W152).1
  have z152 : n0 ≤ h152.size := Nat.le_trans z145 (Keep.of_wr W152).1
  have V152 : Arv Z h152 b3 k3 .char (21 : Int32) [(.int (32 : Int32)), (.int (98 : Int32)), (.int (121 : Int32)), (.int (116 : Int32)), (.int (101 : Int32)), (.int (115 : Int32)), (.int (32 : Int32)), (.int (102 : Int32)), (.int (114 : Int32)), (.int (111 : Int32)), (.int (109 : Int32)), (.int (32 : Int32)), (.int (115 : Int32)), (.int (101 : Int32)), (.int (103 : Int32)), (.int (109 : Int32)), (.int (101 : Int32)), (.int (110 : Int32)), (.int (116 : Int32)), (.int (115 : Int32)), (.int (nar .char (47 : Int32)))] (.int (0 : Int32)) := V152
  have N152 := Fr.snoc X152 N146 g_b3
  rw [(show nar .char (47 : Int32) = (47 : Int32) by decide)] at V152
  have f154 := ((((((((((((((((((((((A2.ext E3).wr W12).wr W19).wr W26).wr W33).wr W40).wr W47).wr W54).wr W61).wr W68).wr W75).wr W82).wr W89).wr W96).wr W103).wr W110).wr W117).wr W124).wr W131).wr W138).wr W145).wr W152)
  have f155 := ((((((((((((((((((((((F2_coder.ext E3).other W12 (Or.inl ne_b2_b3)).other W19 (Or.inl ne_b2_b3)).other W26 (Or.inl ne_b2_b3)).other W33 (Or.inl ne_b2_b3)).other W40 (Or.inl ne_b2_b3)).other W47 (Or.inl ne_b2_b3)).other W54 (Or.inl ne_b2_b3)).other W61 (Or.inl ne_b2_b3)).other W68 (Or.inl ne_b2_b3)).other W75 (Or.inl ne_b2_b3)).other W82 (Or.inl ne_b2_b3)).other W89 (Or.inl ne_b2_b3)).other W96 (Or.inl ne_b2_b3)).other W103 (Or.inl ne_b2_b3)).other W110 (Or.inl ne_b2_b3)).other W117 (Or.inl ne_b2_b3)).other W124 (Or.inl ne_b2_b3)).other W131 (Or.inl ne_b2_b3)).other W138 (Or.inl ne_b2_b3)).other W145 (Or.inl ne_b2_b3)).other W152 (Or.inl ne_b2_b3))
  have f156 := ((((((((((((((((((((((F2_value.ext E3).other W12 (Or.inl ne_b2_b3)).other W19 (Or.inl ne_b2_b3)).other W26 (Or.inl ne_b2_b3)).other W33 (Or.inl ne_b2_b3)).other W40 (Or.inl ne_b2_b3)).other W47 (Or.inl ne_b2_b3)).other W54 (Or.inl ne_b2_b3)).other W61 (Or.inl ne_b2_b3)).other W68 (Or.inl ne_b2_b3)).other W75 (Or.inl ne_b2_b3)).other W82 (Or.inl ne_b2_b3)).other W89 (Or.inl ne_b2_b3)).other W96 (Or.inl ne_b2_b3)).other W103 (Or.inl ne_b2_b3)).other W110 (Or.inl ne_b2_b3)).other W117 (Or.inl ne_b2_b3)).other W124 (Or.inl ne_b2_b3)).other W131 (Or.inl ne_b2_b3)).other W138 (Or.inl ne_b2_b3)).other W145 (Or.inl ne_b2_b3)).other W152 (Or.inl ne_b2_b3))
  refine own_callN (pc' := 729) (W := 1) (y := (⟨"java/lang/String", "<init>", "([C)V"⟩ : MethodName)) X152 hx hZ rfl hown (own_w hw 4 rfl) (own_w hw 5 rfl) (own_w hw 2 rfl) (own_w hw 6 rfl) (by decide) (con_n1 l Z a0 hw b2 b3  _ n0 z152 G1 fm hG o152 _ (21 : Int32) [(32 : Int32), (98 : Int32), (121 : Int32), (116 : Int32), (101 : Int32), (115 : Int32), (32 : Int32), (102 : Int32), (114 : Int32), (111 : Int32), (109 : Int32), (32 : Int32), (115 : Int32), (101 : Int32), (103 : Int32), (109 : Int32), (101 : Int32), (110 : Int32), (116 : Int32), (115 : Int32), (47 : Int32)] V152 rfl ⟨by decide, by decide⟩ (by decide) _ _ f154 f155 f156 g_b2 ne_b2_b3 ne_b3_b2) e152 pd38 b2 [(.ref b3)] [(.ref b2)] rfl rfl rfl (Nat.le_of_eq rfl) (by decide) (by decide) (by rw [hml]; rfl) (hb hby at_726) (by decide) (by decide) rfl ?_
  intro v153 T153 L153 X153 q153
  obtain ⟨c153, k153, rfl, M153, K153, s153, E153q, F153a, F153b, V153⟩ := q153
  have f157 := (f148.wr W152)
  have f158 := (f151.other W152 ne_tb_b3)
  obtain ⟨h153, e153⟩ : ∃ z, z = T153.heap := ⟨_, rfl⟩
  rw [← e153] at K153 E153q F153a F153b V153
  have e153 := e153.symm
  have o153 : own_Old Z n0 h153 := o152.keep K153 (allS g_b2 all0)
  have H153 := CHv.keep K153 (allS S152_b2 all0) H152
  have kz153 := Nat.le_trans kz152 K153.1
  have z153 : n0 ≤ h153.size := Nat.le_trans z152 K153.1
  have N153 := Fr.app N152 M153
  show own_WP _ _ _ _ _ _ _ (T153.setTop (mkF m 729 #[.val (.long xl), .second, .val (.int ci), .val (.int c0), .val (.int c1), .val (.int c2), .val (.int nn), .val (.ref seg), .val (.ref t), .val (.int r9), .val (.int ng), .val (.int dd), .val (.int (1 : Int32)), .val (.int v1), .unset, .unset, .unset, .unset, .unset, .unset] [(.ref b2)]))
  have Vb159 := V153
  rw [own_bsE (by decide)] at Vb159
  refine own_ldcH (pc' := 731) (nn := 84) (z := (21 : Int32)) (vs := [.int (32 : Int32), .int (98 : Int32), .int (121 : Int32), .int (116 : Int32), .int (101 : Int32), .int (115 : Int32), .int (32 : Int32), .int (102 : Int32), .int (114 : Int32), .int (111 : Int32), .int (109 : Int32), .int (32 : Int32), .int (115 : Int32), .int (101 : Int32), .int (103 : Int32), .int (109 : Int32), .int (101 : Int32), .int (110 : Int32), .int (116 : Int32), .int (115 : Int32), .int (47 : Int32)]) X153 hx hZ hown (own_w hw 261 rfl) hwS e153 hS kz153 hEL (by decide +kernel) H153 ⟨by decide +kernel, by decide +kernel⟩ (by decide) rfl (hb hby at_729) (by decide +kernel) (by decide) (by decide) (by decide) rfl ?_
  intro la160 T160 h160 kq160 lb160 lk160 X160 e160 E160 hS kz160 hZ hown Eq160 Fc160 Fv160 V160 CR160 Lt160 sf160
  have H160 := CR160.1
  have o160 : own_Old Z n0 h160 := o153.ext E160
  have z160 : n0 ≤ h160.size := Nat.le_trans z153 E160.1
  show own_WP _ _ _ _ _ _ _ (T160.setTop (mkF m 731 #[.val (.long xl), .second, .val (.int ci), .val (.int c0), .val (.int c1), .val (.int c2), .val (.int nn), .val (.ref seg), .val (.ref t), .val (.int r9), .val (.int ng), .val (.int dd), .val (.int (1 : Int32)), .val (.int v1), .unset, .unset, .unset, .unset, .unset, .unset] [(.ref la160), (.ref b2)]))
  have f162 := (E153q.ext E160)
  have f163 := (F153a.ext E160)
  have f164 := (F153b.ext E160)
  have f165 := (Vb159.ext E160)
  refine own_callV (pc' := 734) (W := 0) (y := (⟨"java/lang/String", "equals", "(Ljava/lang/Object;)Z"⟩ : MethodName)) (z := (⟨"java/lang/String", "equals", "(Ljava/lang/Object;)Z"⟩ : MethodName)) X160 hx hZ hown (own_w hw 252 rfl) (own_w hw 253 rfl) (notFace_of_selects (args := #[]) (mvT hZ (own_w hw 255 rfl))) (own_w hw 255 rfl) (own_w hw 254 rfl) (own_w hw 2 rfl) (own_w hw 256 rfl) (by decide) f162 (con_seq l Z a0 hw b2 la160 _ n0 z160 G1 fm hG o160 c153 k153 (21 : Int32) [(32 : Int32), (98 : Int32), (121 : Int32), (116 : Int32), (101 : Int32), (115 : Int32), (32 : Int32), (102 : Int32), (114 : Int32), (111 : Int32), (109 : Int32), (32 : Int32), (115 : Int32), (101 : Int32), (103 : Int32), (109 : Int32), (101 : Int32), (110 : Int32), (116 : Int32), (115 : Int32), (47 : Int32)] rfl (by decide) f162 f163 f164 f165 lb160 lk160 Eq160 Fc160 Fv160 V160) e160 pd39 [(.ref la160)] [] rfl rfl rfl (Nat.le_of_eq rfl) (by decide) (by decide) (by rw [hml]; rfl) (hb hby at_731) (by decide) (by decide) rfl ?_
  intro v161 T161 L161 X161 q161
  obtain ⟨r161, rfl, hr161, rfl, e161⟩ := q161
  subst hr161
  have M161 := Fr.nil n0
  have N161 := Fr.app N153 M161
  show own_WP _ _ _ _ _ _ _ (T161.setTop (mkF m 734 #[.val (.long xl), .second, .val (.int ci), .val (.int c0), .val (.int c1), .val (.int c2), .val (.int nn), .val (.ref seg), .val (.ref t), .val (.int r9), .val (.int ng), .val (.int dd), .val (.int (1 : Int32)), .val (.int v1), .unset, .unset, .unset, .unset, .unset, .unset] [(.int (1 : Int32))]))
  refine own_istore (pc' := 736) (l' := #[.val (.long xl), .second, .val (.int ci), .val (.int c0), .val (.int c1), .val (.int c2), .val (.int nn), .val (.ref seg), .val (.ref t), .val (.int r9), .val (.int ng), .val (.int dd), .val (.int (1 : Int32)), .val (.int v1), .val (.int (1 : Int32)), .unset, .unset, .unset, .unset, .unset]) X161 hx (hb hby at_734) rfl rfl rfl ?_
  have f166 := ((f157.keep K153).ext E160)
  have f167 := (((f149.other W152 (Or.inl ne_t_b3)).keep K153 (ninS ne_t_b2 nin0)).ext E160)
  have f168 := (((f150.other W152 (Or.inl ne_t_b3)).keep K153 (ninS ne_t_b2 nin0)).ext E160)
  have f169 := ((f158.keep K153 (ninS ne_tb_b2 nin0)).ext E160)
  exact lawD hw hx hby hml hret hlk G1 fm hG hEL n0 _ _ _ _ _ hown hZ hS kz160 (X161.more (by decide) (by decide)) e161 N161 o160 z160 H160 xl ci c0 c1 c2 nn seg t tb ktb cn us f166 f167 f168 f169 ws kk ng hkk hngx hcn hus hrw hch0 hch1 hch2 r9 dd h9 hdd v1
set_option maxRecDepth 65536 in
set_option maxHeartbeats 8000000 in
theorem lawB {p : Program} {l : Launch} {e : Env} {s : State} {m : MethodId} {args : Array Value} {below : List Frame} {meth : Method} {c : Code} {Z : State} {a0 : Array Value} (hw : ∀ d ∈ tables_1, d.before a0 Z = true) (hx : p.tables.exec = Jvm.exec) (hby : c.code = code) (hml : c.maxLocals = 20) (hret : meth.sig.returnType = some .boolean) (hlk : meth.locks = false) (G1 : Int32) (fm : Value) (hG : own_G Z G1 fm) (hEL : EW Z a0 consts_1) (n0 : Nat) (vm0 : Vm) (k0 : Nat) (T0 : State) (hh : Heap) (lc : List Loc) (hown : vm0.findClass "com/example/ossify/ossify/TornTailDescribePinLaw" = some m.cls) (hZ : Z.Warmed39 vm0) (hS : s.Since vm0 k0) (kz0 : k0 ≤ hh.size) (X0 : Stand p l e ({ frames := 10, cells := 96, slots := 8576, locals := 224 } : Room) (s.setVm vm0) m args below meth c T0 lc 32 2700) (e0 : T0.heap = hh) (N0 : Fr n0 lc) (O0 : own_Old Z n0 hh) (z0 : n0 ≤ hh.size) (H0 : CHv Z consts_1 vm0 hh) (xl : Int64) (ci c0 c1 c2 nn : Int32) (seg t : Addr) (tb : Addr) (ktb : ClassId) (cn : Int32) (us : List Value) (hE : Exa Z hh t "java/lang/String") (hC : Fld Z hh t "java/lang/String" "coder" "B" (.int (0 : Int32))) (hV : Fld Z hh t "java/lang/String" "value" "[B" (.ref tb)) (hA : Arv Z hh tb ktb .byte cn us (.int (0 : Int32))) (ws : List Value) (kk : Nat) (ng : Int32) (hkk : own_dgs xl.toInt.natAbs kk) (hngx : (xl.toInt < 0 ∧ ng = 1) ∨ (¬ xl.toInt < 0 ∧ ng = 0)) (hcn : cn.toInt = 42 + (kk : Int) + ng.toInt + nn.toInt) (hus : us = [.int (114 : Int32), .int (101 : Int32), .int (109 : Int32), .int (111 : Int32), .int (118 : Int32), .int (101 : Int32), .int (100 : Int32), .int (32 : Int32), .int (116 : Int32), .int (111 : Int32), .int (114 : Int32), .int (110 : Int32), .int (32 : Int32), .int (116 : Int32), .int (97 : Int32), .int (105 : Int32), .int (108 : Int32), .int (32 : Int32), .int (111 : Int32), .int (102 : Int32), .int (32 : Int32)] ++ (own_num xl.toInt.natAbs kk ng ++ ([.int (32 : Int32), .int (98 : Int32), .int (121 : Int32), .int (116 : Int32), .int (101 : Int32), .int (115 : Int32), .int (32 : Int32), .int (102 : Int32), .int (114 : Int32), .int (111 : Int32), .int (109 : Int32), .int (32 : Int32)] ++ ([.int (115 : Int32), .int (101 : Int32), .int (103 : Int32), .int (109 : Int32), .int (101 : Int32), .int (110 : Int32), .int (116 : Int32), .int (115 : Int32)] ++ ([.int (47 : Int32)] ++ ws))))) (hrw : (nn = 0 ∧ ws = []) ∨ (nn = 1 ∧ ws = [.int (own_by c0)]) ∨ (nn = 2 ∧ ws = [.int (own_by c0), .int (own_by c1)]) ∨ (nn = 3 ∧ ws = [.int (own_by c0), .int (own_by c1), .int (own_by c2)])) (hch0 : own_ch (own_by c0) = c0) (hch1 : own_ch (own_by c1) = c1) (hch2 : own_ch (own_by c2) = c2) (r9 dd : Int32) (h9 : r9.toInt = (kk : Int)) (hdd : dd.toInt = (kk : Int) + ng.toInt) :
    own_WP p e below (ReturnedEndW s) (fun v h L => v = some (.int 1) ∧ Fr n0 L) 96 8576 (T0.setTop (mkF m 194 #[.val (.long xl), .second, .val (.int ci), .val (.int c0), .val (.int c1), .val (.int c2), .val (.int nn), .val (.ref seg), .val (.ref t), .val (.int r9), .val (.int ng), .val (.int dd), .unset, .unset, .unset, .unset, .unset, .unset, .unset, .unset] [])) := by
  have hwS := own_wS hw
  have hng : ng = 0 ∨ ng = 1 := hngx.elim (fun q => Or.inr q.2) (fun q => Or.inl q.2)
  have hngt : ng.toInt = 0 ∨ ng.toInt = 1 := hng.elim (fun q => Or.inl (by rw [q]; rfl)) (fun q => Or.inr (by rw [q]; rfl))
  have hk19 := own_dgs_le hkk (by have := rng64 xl; omega)
  have hk1 := hkk.1
  have hnnn : 0 ≤ nn.toInt ∧ nn.toInt ≤ 3 ∧ (ws.length : Int) = nn.toInt := by rcases hrw with ⟨q1, q2⟩ | ⟨q1, q2⟩ | ⟨q1, q2⟩ | ⟨q1, q2⟩ <;> rw [q1, q2] <;> exact ⟨by decide, by decide, rfl⟩
  have hnl : (own_num xl.toInt.natAbs kk ng).length = kk + ng.toNatClampNeg := own_num_len hng
  have hnq := own_nat (x := ng) (by omega)
  have hul : cn.toInt = (us.length : Int) := by rw [hus, List.length_append, List.length_append, List.length_append, List.length_append, List.length_append, hnl]; simp only [List.length_cons, List.length_nil]; omega
  refine own_new (pc' := 197) X0 hx hZ hown (own_w hw 0 rfl) (own_w hw 1 rfl) (own_w hw 2 rfl) e0 (hb hby at_194) (by decide) (by decide) rfl ?_
  intro T1 h1 b1 g1 X1 e1 E1 A1 D1
  have ne_t_b1 : t ≠ b1 := Nat.ne_of_lt (Nat.lt_of_lt_of_le hE.lt (Nat.le_of_eq g1.symm))
  have ne_tb_b1 : tb ≠ b1 := Nat.ne_of_lt (Nat.lt_of_lt_of_le hA.lt (Nat.le_of_eq g1.symm))
  have g_b1 : n0 ≤ b1 := Nat.le_trans z0 (Nat.le_of_eq g1.symm)
  have o1 : own_Old Z n0 h1 := O0.ext E1
  have H1 := CHv.ext E1 H0
  have S1_b1 := Safe.ext (x := b1) E1 H0 (Safe.new (Nat.le_of_eq g1.symm))
  have kz1 := Nat.le_trans kz0 E1.1
  have z1 : n0 ≤ h1.size := Nat.le_trans z0 E1.1
  have F1_value : Fld Z h1 b1 "java/lang/String" "value" "[B" .null := D1 (Or.inr (own_w hw 16 rfl)) (ty := (.array .byte)) (by decide +kernel)
  have F1_coder : Fld Z h1 b1 "java/lang/String" "coder" "B" (.int (0 : Int32)) := D1 (Or.inr (own_w hw 17 rfl)) (ty := .byte) (by decide)
  refine own_dup (pc' := 198) X1 hx (hb hby at_197) rfl rfl ?_
  refine own_bipush (pc' := 200) X1 hx (21 : Int32) (hb hby at_198) rfl rfl ?_
  refine own_newP (pc' := 202) (cap := 21) X1 hx hZ (own_w hw 3 rfl) e1 (hb hby at_200) (by decide) (by decide) (by decide) (by decide) (by decide) rfl ?_
  intro T2 h2 k2 b2 g2 X2 e2 E2 A2
  have ne_b1_b2 : b1 ≠ b2 := Nat.ne_of_lt (Nat.lt_of_lt_of_le A1.lt (Nat.le_of_eq g2.symm))
  have ne_b2_b1 := ne_b1_b2.symm
  have f3 := (hE.ext E1)
  have ne_t_b2 : t ≠ b2 := Nat.ne_of_lt (Nat.lt_of_lt_of_le f3.lt (Nat.le_of_eq g2.symm))
  have f4 := (hA.ext E1)
  have ne_tb_b2 : tb ≠ b2 := Nat.ne_of_lt (Nat.lt_of_lt_of_le f4.lt (Nat.le_of_eq g2.symm))
  have g_b2 : n0 ≤ b2 := Nat.le_trans z1 (Nat.le_of_eq g2.symm)
  have o2 : own_Old Z n0 h2 := o1.ext E2
  have H2 := CHv.ext E2 H1
  have S2_b1 := Safe.ext (x := b1) E2 H1 S1_b1
  have S2_b2 := Safe.ext (x := b2) E2 H1 (Safe.new (Nat.le_of_eq g2.symm))
  have kz2 := Nat.le_trans kz1 E2.1
  have z2 : n0 ≤ h2.size := Nat.le_trans z1 E2.1
  have V2 : Arv Z h2 b2 k2 .char (21 : Int32) [(.int (0 : Int32)), (.int (0 : Int32)), (.int (0 : Int32)), (.int (0 : Int32)), (.int (0 : Int32)), (.int (0 : Int32)), (.int (0 : Int32)), (.int (0 : Int32)), (.int (0 : Int32)), (.int (0 : Int32)), (.int (0 : Int32)), (.int (0 : Int32)), (.int (0 : Int32)), (.int (0 : Int32)), (.int (0 : Int32)), (.int (0 : Int32)), (.int (0 : Int32)), (.int (0 : Int32)), (.int (0 : Int32)), (.int (0 : Int32)), (.int (0 : Int32))] (.int (0 : Int32)) := (Arv.new A2 (by decide)).pad (pad_rep [] (.int (0 : Int32)) 21)
  refine own_dup (pc' := 203) X2 hx (hb hby at_202) rfl rfl ?_
  refine own_iconst (pc' := 204) X2 hx (0 : Int32) (hb hby at_203) rfl rfl ?_
  refine own_aload (pc' := 206) X2 hx (hb hby at_204) rfl rfl rfl ?_
  refine own_iconst (pc' := 207) X2 hx (0 : Int32) (hb hby at_206) rfl rfl ?_
  have f6 := (f3.ext E2)
  have f7 := ((hC.ext E1).ext E2)
  have f8 := ((hV.ext E1).ext E2)
  have f9 := (f4.ext E2)
  refine own_callV (pc' := 210) (W := 5) (y := (⟨"java/lang/String", "charAt", "(I)C"⟩ : MethodName)) (z := (⟨"java/lang/String", "charAt", "(I)C"⟩ : MethodName)) X2 hx hZ hown (own_w hw 219 rfl) (own_w hw 220 rfl) (notFace_of_selects (args := #[]) (mvT hZ (own_w hw 222 rfl))) (own_w hw 222 rfl) (own_w hw 221 rfl) (own_w hw 2 rfl) (own_w hw 223 rfl) (by decide) f6 (con_charAt l Z a0 hw t (0 : Int32) _ n0 z2 G1 fm hG o2 tb ktb cn _ f6 f7 f8 f9 (114 : Int32) ⟨by decide, by rw [Int32.lt_iff_toInt_lt]; show (0 : Int) < _; omega⟩ (by rw [hus]; rfl)) e2 pd32 [(.int (0 : Int32))] [(.int (0 : Int32)), (.ref b2), (.ref b2), (.ref b1), (.ref b1)] rfl rfl rfl (Nat.le_of_eq rfl) (by decide) (by decide) (by rw [hml]; rfl) (hb hby at_207) (by decide) (by decide) rfl ?_
  intro v5 T5 L5 X5 q5
  obtain ⟨r5, rfl, hr5, rfl, e5⟩ := q5
  have M5 := Fr.nil n0
  have N5 := Fr.app N0 M5
  obtain rfl : r5 = (114 : Int32) := by rw [hr5]; decide
  show own_WP _ _ _ _ _ _ _ (T5.setTop (mkF m 210 #[.val (.long xl), .second, .val (.int ci), .val (.int c0), .val (.int c1), .val (.int c2), .val (.int nn), .val (.ref seg), .val (.ref t), .val (.int r9), .val (.int ng), .val (.int dd), .unset, .unset, .unset, .unset, .unset, .unset, .unset, .unset] [(.int (114 : Int32)), (.int (0 : Int32)), (.ref b2), (.ref b2), (.ref b1), (.ref b1)]))
  refine own_castore (pc' := 211) X5 hx hZ e5 V2 ⟨by decide, by decide⟩ 0 rfl (Nat.le_of_ble_eq_true rfl) (hb hby at_210) rfl ?_
  intro T10 h10 X10 e10 W10 V10
  have o10 : own_Old Z n0 h10 := o2.wr W10 g_b2
  have H10 := CHv.wr W10 S2_b2 H2
  have S10_b1 := Safe.wr (x := b1) W10 S2_b2 H2 S2_b1
  have S10_b2 := Safe.wr (x := b2) W10 S2_b2 H2 S2_b2
  have kz10 := Nat.le_trans kz2 (Keep.of_wr W10).1
  have z10 : n0 ≤ h10.size := Nat.le_trans z2 (Keep.of_wr W10).1
  have V10 : Arv Z h10 b2 k2 .char (21 : Int32) [(.int (nar .char (114 : Int32))), (.int (0 : Int32)), (.int (0 : Int32)), (.int (0 : Int32)), (.int (0 : Int32)), (.int (0 : Int32)), (.int (0 : Int32)), (.int (0 : Int32)), (.int (0 : Int32)), (.int (0 : Int32)), (.int (0 : Int32)), (.int (0 : Int32)), (.int (0 : Int32)), (.int (0 : Int32)), (.int (0 : Int32)), (.int (0 : Int32)), (.int (0 : Int32)), (.int (0 : Int32)), (.int (0 : Int32)), (.int (0 : Int32)), (.int (0 : Int32))] (.int (0 : Int32)) := V10
  have N10 := Fr.snoc X10 N5 g_b2
  rw [(show nar .char (114 : Int32) = (114 : Int32) by decide)] at V10
  refine own_dup (pc' := 212) X10 hx (hb hby at_211) rfl rfl ?_
  refine own_iconst (pc' := 213) X10 hx (1 : Int32) (hb hby at_212) rfl rfl ?_
  refine own_aload (pc' := 215) X10 hx (hb hby at_213) rfl rfl rfl ?_
  refine own_iconst (pc' := 216) X10 hx (1 : Int32) (hb hby at_215) rfl rfl ?_
  have f12 := (f6.wr W10)
  have f13 := (f7.other W10 (Or.inl ne_t_b2))
  have f14 := (f8.other W10 (Or.inl ne_t_b2))
  have f15 := (f9.other W10 ne_tb_b2)
  refine own_callV (pc' := 219) (W := 5) (y := (⟨"java/lang/String", "charAt", "(I)C"⟩ : MethodName)) (z := (⟨"java/lang/String", "charAt", "(I)C"⟩ : MethodName)) X10 hx hZ hown (own_w hw 219 rfl) (own_w hw 220 rfl) (notFace_of_selects (args := #[]) (mvT hZ (own_w hw 222 rfl))) (own_w hw 222 rfl) (own_w hw 221 rfl) (own_w hw 2 rfl) (own_w hw 223 rfl) (by decide) f12 (con_charAt l Z a0 hw t (1 : Int32) _ n0 z10 G1 fm hG o10 tb ktb cn _ f12 f13 f14 f15 (101 : Int32) ⟨by decide, by rw [Int32.lt_iff_toInt_lt]; show (1 : Int) < _; omega⟩ (by rw [hus]; rfl)) e10 pd32 [(.int (1 : Int32))] [(.int (1 : Int32)), (.ref b2), (.ref b2), (.ref b1), (.ref b1)] rfl rfl rfl (Nat.le_of_eq rfl) (by decide) (by decide) (by rw [hml]; rfl) (hb hby at_216) (by decide) (by decide) rfl ?_
  intro v11 T11 L11 X11 q11
  obtain ⟨r11, rfl, hr11, rfl, e11⟩ := q11
  have M11 := Fr.nil n0
  have N11 := Fr.app N10 M11
  obtain rfl : r11 = (101 : Int32) := by rw [hr11]; decide
  show own_WP _ _ _ _ _ _ _ (T11.setTop (mkF m 219 #[.val (.long xl), .second, .val (.int ci), .val (.int c0), .val (.int c1), .val (.int c2), .val (.int nn), .val (.ref seg), .val (.ref t), .val (.int r9), .val (.int ng), .val (.int dd), .unset, .unset, .unset, .unset, .unset, .unset, .unset, .unset] [(.int (101 : Int32)), (.int (1 : Int32)), (.ref b2), (.ref b2), (.ref b1), (.ref b1)]))
  refine own_castore (pc' := 220) X11 hx hZ e11 V10 ⟨by decide, by decide⟩ 1 rfl (Nat.le_of_ble_eq_true rfl) (hb hby at_219) rfl ?_
  intro T16 h16 X16 e16 W16 V16
  have o16 : own_Old Z n0 h16 := o10.wr W16 g_b2
  have H16 := CHv.wr W16 S10_b2 H10
  have S16_b1 := Safe.wr (x := b1) W16 S10_b2 H10 S10_b1
  have S16_b2 := Safe.wr (x := b2) W16 S10_b2 H10 S10_b2
  have kz16 := Nat.le_trans kz10 (Keep.of_wr W16).1
  have z16 : n0 ≤ h16.size := Nat.le_trans z10 (Keep.of_wr W16).1
  have V16 : Arv Z h16 b2 k2 .char (21 : Int32) [(.int (114 : Int32)), (.int (nar .char (101 : Int32))), (.int (0 : Int32)), (.int (0 : Int32)), (.int (0 : Int32)), (.int (0 : Int32)), (.int (0 : Int32)), (.int (0 : Int32)), (.int (0 : Int32)), (.int (0 : Int32)), (.int (0 : Int32)), (.int (0 : Int32)), (.int (0 : Int32)), (.int (0 : Int32)), (.int (0 : Int32)), (.int (0 : Int32)), (.int (0 : Int32)), (.int (0 : Int32)), (.int (0 : Int32)), (.int (0 : Int32)), (.int (0 : Int32))] (.int (0 : Int32)) := V16
  have N16 := Fr.snoc X16 N11 g_b2
  rw [(show nar .char (101 : Int32) = (101 : Int32) by decide)] at V16
  refine own_dup (pc' := 221) X16 hx (hb hby at_220) rfl rfl ?_
  refine own_iconst (pc' := 222) X16 hx (2 : Int32) (hb hby at_221) rfl rfl ?_
  refine own_aload (pc' := 224) X16 hx (hb hby at_222) rfl rfl rfl ?_
  refine own_iconst (pc' := 225) X16 hx (2 : Int32) (hb hby at_224) rfl rfl ?_
  have f18 := (f12.wr W16)
  have f19 := (f13.other W16 (Or.inl ne_t_b2))
  have f20 := (f14.other W16 (Or.inl ne_t_b2))
  have f21 := (f15.other W16 ne_tb_b2)
  refine own_callV (pc' := 228) (W := 5) (y := (⟨"java/lang/String", "charAt", "(I)C"⟩ : MethodName)) (z := (⟨"java/lang/String", "charAt", "(I)C"⟩ : MethodName)) X16 hx hZ hown (own_w hw 219 rfl) (own_w hw 220 rfl) (notFace_of_selects (args := #[]) (mvT hZ (own_w hw 222 rfl))) (own_w hw 222 rfl) (own_w hw 221 rfl) (own_w hw 2 rfl) (own_w hw 223 rfl) (by decide) f18 (con_charAt l Z a0 hw t (2 : Int32) _ n0 z16 G1 fm hG o16 tb ktb cn _ f18 f19 f20 f21 (109 : Int32) ⟨by decide, by rw [Int32.lt_iff_toInt_lt]; show (2 : Int) < _; omega⟩ (by rw [hus]; rfl)) e16 pd32 [(.int (2 : Int32))] [(.int (2 : Int32)), (.ref b2), (.ref b2), (.ref b1), (.ref b1)] rfl rfl rfl (Nat.le_of_eq rfl) (by decide) (by decide) (by rw [hml]; rfl) (hb hby at_225) (by decide) (by decide) rfl ?_
  intro v17 T17 L17 X17 q17
  obtain ⟨r17, rfl, hr17, rfl, e17⟩ := q17
  have M17 := Fr.nil n0
  have N17 := Fr.app N16 M17
  obtain rfl : r17 = (109 : Int32) := by rw [hr17]; decide
  show own_WP _ _ _ _ _ _ _ (T17.setTop (mkF m 228 #[.val (.long xl), .second, .val (.int ci), .val (.int c0), .val (.int c1), .val (.int c2), .val (.int nn), .val (.ref seg), .val (.ref t), .val (.int r9), .val (.int ng), .val (.int dd), .unset, .unset, .unset, .unset, .unset, .unset, .unset, .unset] [(.int (109 : Int32)), (.int (2 : Int32)), (.ref b2), (.ref b2), (.ref b1), (.ref b1)]))
  refine own_castore (pc' := 229) X17 hx hZ e17 V16 ⟨by decide, by decide⟩ 2 rfl (Nat.le_of_ble_eq_true rfl) (hb hby at_228) rfl ?_
  intro T22 h22 X22 e22 W22 V22
  have o22 : own_Old Z n0 h22 := o16.wr W22 g_b2
  have H22 := CHv.wr W22 S16_b2 H16
  have S22_b1 := Safe.wr (x := b1) W22 S16_b2 H16 S16_b1
  have S22_b2 := Safe.wr (x := b2) W22 S16_b2 H16 S16_b2
  have kz22 := Nat.le_trans kz16 (Keep.of_wr W22).1
  have z22 : n0 ≤ h22.size := Nat.le_trans z16 (Keep.of_wr W22).1
  have V22 : Arv Z h22 b2 k2 .char (21 : Int32) [(.int (114 : Int32)), (.int (101 : Int32)), (.int (nar .char (109 : Int32))), (.int (0 : Int32)), (.int (0 : Int32)), (.int (0 : Int32)), (.int (0 : Int32)), (.int (0 : Int32)), (.int (0 : Int32)), (.int (0 : Int32)), (.int (0 : Int32)), (.int (0 : Int32)), (.int (0 : Int32)), (.int (0 : Int32)), (.int (0 : Int32)), (.int (0 : Int32)), (.int (0 : Int32)), (.int (0 : Int32)), (.int (0 : Int32)), (.int (0 : Int32)), (.int (0 : Int32))] (.int (0 : Int32)) := V22
  have N22 := Fr.snoc X22 N17 g_b2
  rw [(show nar .char (109 : Int32) = (109 : Int32) by decide)] at V22
  refine own_dup (pc' := 230) X22 hx (hb hby at_229) rfl rfl ?_
  refine own_iconst (pc' := 231) X22 hx (3 : Int32) (hb hby at_230) rfl rfl ?_
  refine own_aload (pc' := 233) X22 hx (hb hby at_231) rfl rfl rfl ?_
  refine own_iconst (pc' := 234) X22 hx (3 : Int32) (hb hby at_233) rfl rfl ?_
  have f24 := (f18.wr W22)
  have f25 := (f19.other W22 (Or.inl ne_t_b2))
  have f26 := (f20.other W22 (Or.inl ne_t_b2))
  have f27 := (f21.other W22 ne_tb_b2)
  refine own_callV (pc' := 237) (W := 5) (y := (⟨"java/lang/String", "charAt", "(I)C"⟩ : MethodName)) (z := (⟨"java/lang/String", "charAt", "(I)C"⟩ : MethodName)) X22 hx hZ hown (own_w hw 219 rfl) (own_w hw 220 rfl) (notFace_of_selects (args := #[]) (mvT hZ (own_w hw 222 rfl))) (own_w hw 222 rfl) (own_w hw 221 rfl) (own_w hw 2 rfl) (own_w hw 223 rfl) (by decide) f24 (con_charAt l Z a0 hw t (3 : Int32) _ n0 z22 G1 fm hG o22 tb ktb cn _ f24 f25 f26 f27 (111 : Int32) ⟨by decide, by rw [Int32.lt_iff_toInt_lt]; show (3 : Int) < _; omega⟩ (by rw [hus]; rfl)) e22 pd32 [(.int (3 : Int32))] [(.int (3 : Int32)), (.ref b2), (.ref b2), (.ref b1), (.ref b1)] rfl rfl rfl (Nat.le_of_eq rfl) (by decide) (by decide) (by rw [hml]; rfl) (hb hby at_234) (by decide) (by decide) rfl ?_
  intro v23 T23 L23 X23 q23
  obtain ⟨r23, rfl, hr23, rfl, e23⟩ := q23
  have M23 := Fr.nil n0
  have N23 := Fr.app N22 M23
  obtain rfl : r23 = (111 : Int32) := by rw [hr23]; decide
  show own_WP _ _ _ _ _ _ _ (T23.setTop (mkF m 237 #[.val (.long xl), .second, .val (.int ci), .val (.int c0), .val (.int c1), .val (.int c2), .val (.int nn), .val (.ref seg), .val (.ref t), .val (.int r9), .val (.int ng), .val (.int dd), .unset, .unset, .unset, .unset, .unset, .unset, .unset, .unset] [(.int (111 : Int32)), (.int (3 : Int32)), (.ref b2), (.ref b2), (.ref b1), (.ref b1)]))
  refine own_castore (pc' := 238) X23 hx hZ e23 V22 ⟨by decide, by decide⟩ 3 rfl (Nat.le_of_ble_eq_true rfl) (hb hby at_237) rfl ?_
  intro T28 h28 X28 e28 W28 V28
  have o28 : own_Old Z n0 h28 := o22.wr W28 g_b2
  have H28 := CHv.wr W28 S22_b2 H22
  have S28_b1 := Safe.wr (x := b1) W28 S22_b2 H22 S22_b1
  have S28_b2 := Safe.wr (x := b2) W28 S22_b2 H22 S22_b2
  have kz28 := Nat.le_trans kz22 (Keep.of_wr W28).1
  have z28 : n0 ≤ h28.size := Nat.le_trans z22 (Keep.of_wr W28).1
  have V28 : Arv Z h28 b2 k2 .char (21 : Int32) [(.int (114 : Int32)), (.int (101 : Int32)), (.int (109 : Int32)), (.int (nar .char (111 : Int32))), (.int (0 : Int32)), (.int (0 : Int32)), (.int (0 : Int32)), (.int (0 : Int32)), (.int (0 : Int32)), (.int (0 : Int32)), (.int (0 : Int32)), (.int (0 : Int32)), (.int (0 : Int32)), (.int (0 : Int32)), (.int (0 : Int32)), (.int (0 : Int32)), (.int (0 : Int32)), (.int (0 : Int32)), (.int (0 : Int32)), (.int (0 : Int32)), (.int (0 : Int32))] (.int (0 : Int32)) := V28
  have N28 := Fr.snoc X28 N23 g_b2
  rw [(show nar .char (111 : Int32) = (111 : Int32) by decide)] at V28
  refine own_dup (pc' := 239) X28 hx (hb hby at_238) rfl rfl ?_
  refine own_iconst (pc' := 240) X28 hx (4 : Int32) (hb hby at_239) rfl rfl ?_
  refine own_aload (pc' := 242) X28 hx (hb hby at_240) rfl rfl rfl ?_
  refine own_iconst (pc' := 243) X28 hx (4 : Int32) (hb hby at_242) rfl rfl ?_
  have f30 := (f24.wr W28)
  have f31 := (f25.other W28 (Or.inl ne_t_b2))
  have f32 := (f26.other W28 (Or.inl ne_t_b2))
  have f33 := (f27.other W28 ne_tb_b2)
  refine own_callV (pc' := 246) (W := 5) (y := (⟨"java/lang/String", "charAt", "(I)C"⟩ : MethodName)) (z := (⟨"java/lang/String", "charAt", "(I)C"⟩ : MethodName)) X28 hx hZ hown (own_w hw 219 rfl) (own_w hw 220 rfl) (notFace_of_selects (args := #[]) (mvT hZ (own_w hw 222 rfl))) (own_w hw 222 rfl) (own_w hw 221 rfl) (own_w hw 2 rfl) (own_w hw 223 rfl) (by decide) f30 (con_charAt l Z a0 hw t (4 : Int32) _ n0 z28 G1 fm hG o28 tb ktb cn _ f30 f31 f32 f33 (118 : Int32) ⟨by decide, by rw [Int32.lt_iff_toInt_lt]; show (4 : Int) < _; omega⟩ (by rw [hus]; rfl)) e28 pd32 [(.int (4 : Int32))] [(.int (4 : Int32)), (.ref b2), (.ref b2), (.ref b1), (.ref b1)] rfl rfl rfl (Nat.le_of_eq rfl) (by decide) (by decide) (by rw [hml]; rfl) (hb hby at_243) (by decide) (by decide) rfl ?_
  intro v29 T29 L29 X29 q29
  obtain ⟨r29, rfl, hr29, rfl, e29⟩ := q29
  have M29 := Fr.nil n0
  have N29 := Fr.app N28 M29
  obtain rfl : r29 = (118 : Int32) := by rw [hr29]; decide
  show own_WP _ _ _ _ _ _ _ (T29.setTop (mkF m 246 #[.val (.long xl), .second, .val (.int ci), .val (.int c0), .val (.int c1), .val (.int c2), .val (.int nn), .val (.ref seg), .val (.ref t), .val (.int r9), .val (.int ng), .val (.int dd), .unset, .unset, .unset, .unset, .unset, .unset, .unset, .unset] [(.int (118 : Int32)), (.int (4 : Int32)), (.ref b2), (.ref b2), (.ref b1), (.ref b1)]))
  refine own_castore (pc' := 247) X29 hx hZ e29 V28 ⟨by decide, by decide⟩ 4 rfl (Nat.le_of_ble_eq_true rfl) (hb hby at_246) rfl ?_
  intro T34 h34 X34 e34 W34 V34
  have o34 : own_Old Z n0 h34 := o28.wr W34 g_b2
  have H34 := CHv.wr W34 S28_b2 H28
  have S34_b1 := Safe.wr (x := b1) W34 S28_b2 H28 S28_b1
  have S34_b2 := Safe.wr (x := b2) W34 S28_b2 H28 S28_b2
  have kz34 := Nat.le_trans kz28 (Keep.of_wr W34).1
  have z34 : n0 ≤ h34.size := Nat.le_trans z28 (Keep.of_wr W34).1
  have V34 : Arv Z h34 b2 k2 .char (21 : Int32) [(.int (114 : Int32)), (.int (101 : Int32)), (.int (109 : Int32)), (.int (111 : Int32)), (.int (nar .char (118 : Int32))), (.int (0 : Int32)), (.int (0 : Int32)), (.int (0 : Int32)), (.int (0 : Int32)), (.int (0 : Int32)), (.int (0 : Int32)), (.int (0 : Int32)), (.int (0 : Int32)), (.int (0 : Int32)), (.int (0 : Int32)), (.int (0 : Int32)), (.int (0 : Int32)), (.int (0 : Int32)), (.int (0 : Int32)), (.int (0 : Int32)), (.int (0 : Int32))] (.int (0 : Int32)) := V34
  have N34 := Fr.snoc X34 N29 g_b2
  rw [(show nar .char (118 : Int32) = (118 : Int32) by decide)] at V34
  refine own_dup (pc' := 248) X34 hx (hb hby at_247) rfl rfl ?_
  refine own_iconst (pc' := 249) X34 hx (5 : Int32) (hb hby at_248) rfl rfl ?_
  refine own_aload (pc' := 251) X34 hx (hb hby at_249) rfl rfl rfl ?_
  refine own_iconst (pc' := 252) X34 hx (5 : Int32) (hb hby at_251) rfl rfl ?_
  have f36 := (f30.wr W34)
  have f37 := (f31.other W34 (Or.inl ne_t_b2))
  have f38 := (f32.other W34 (Or.inl ne_t_b2))
  have f39 := (f33.other W34 ne_tb_b2)
  refine own_callV (pc' := 255) (W := 5) (y := (⟨"java/lang/String", "charAt", "(I)C"⟩ : MethodName)) (z := (⟨"java/lang/String", "charAt", "(I)C"⟩ : MethodName)) X34 hx hZ hown (own_w hw 219 rfl) (own_w hw 220 rfl) (notFace_of_selects (args := #[]) (mvT hZ (own_w hw 222 rfl))) (own_w hw 222 rfl) (own_w hw 221 rfl) (own_w hw 2 rfl) (own_w hw 223 rfl) (by decide) f36 (con_charAt l Z a0 hw t (5 : Int32) _ n0 z34 G1 fm hG o34 tb ktb cn _ f36 f37 f38 f39 (101 : Int32) ⟨by decide, by rw [Int32.lt_iff_toInt_lt]; show (5 : Int) < _; omega⟩ (by rw [hus]; rfl)) e34 pd32 [(.int (5 : Int32))] [(.int (5 : Int32)), (.ref b2), (.ref b2), (.ref b1), (.ref b1)] rfl rfl rfl (Nat.le_of_eq rfl) (by decide) (by decide) (by rw [hml]; rfl) (hb hby at_252) (by decide) (by decide) rfl ?_
  intro v35 T35 L35 X35 q35
  obtain ⟨r35, rfl, hr35, rfl, e35⟩ := q35
  have M35 := Fr.nil n0
  have N35 := Fr.app N34 M35
  obtain rfl : r35 = (101 : Int32) := by rw [hr35]; decide
  show own_WP _ _ _ _ _ _ _ (T35.setTop (mkF m 255 #[.val (.long xl), .second, .val (.int ci), .val (.int c0), .val (.int c1), .val (.int c2), .val (.int nn), .val (.ref seg), .val (.ref t), .val (.int r9), .val (.int ng), .val (.int dd), .unset, .unset, .unset, .unset, .unset, .unset, .unset, .unset] [(.int (101 : Int32)), (.int (5 : Int32)), (.ref b2), (.ref b2), (.ref b1), (.ref b1)]))
  refine own_castore (pc' := 256) X35 hx hZ e35 V34 ⟨by decide, by decide⟩ 5 rfl (Nat.le_of_ble_eq_true rfl) (hb hby at_255) rfl ?_
  intro T40 h40 X40 e40 W40 V40
  have o40 : own_Old Z n0 h40 := o34.wr W40 g_b2
  have H40 := CHv.wr W40 S34_b2 H34
  have S40_b1 := Safe.wr (x := b1) W40 S34_b2 H34 S34_b1
  have S40_b2 := Safe.wr (x := b2) W40 S34_b2 H34 S34_b2
  have kz40 := Nat.le_trans kz34 (Keep.of_wr W40).1
  have z40 : n0 ≤ h40.size := Nat.le_trans z34 (Keep.of_wr W40).1
  have V40 : Arv Z h40 b2 k2 .char (21 : Int32) [(.int (114 : Int32)), (.int (101 : Int32)), (.int (109 : Int32)), (.int (111 : Int32)), (.int (118 : Int32)), (.int (nar .char (101 : Int32))), (.int (0 : Int32)), (.int (0 : Int32)), (.int (0 : Int32)), (.int (0 : Int32)), (.int (0 : Int32)), (.int (0 : Int32)), (.int (0 : Int32)), (.int (0 : Int32)), (.int (0 : Int32)), (.int (0 : Int32)), (.int (0 : Int32)), (.int (0 : Int32)), (.int (0 : Int32)), (.int (0 : Int32)), (.int (0 : Int32))] (.int (0 : Int32)) := V40
  have N40 := Fr.snoc X40 N35 g_b2
  rw [(show nar .char (101 : Int32) = (101 : Int32) by decide)] at V40
  refine own_dup (pc' := 257) X40 hx (hb hby at_256) rfl rfl ?_
  refine own_bipush (pc' := 259) X40 hx (6 : Int32) (hb hby at_257) rfl rfl ?_
  refine own_aload (pc' := 261) X40 hx (hb hby at_259) rfl rfl rfl ?_
  refine own_bipush (pc' := 263) X40 hx (6 : Int32) (hb hby at_261) rfl rfl ?_
  have f42 := (f36.wr W40)
  have f43 := (f37.other W40 (Or.inl ne_t_b2))
  have f44 := (f38.other W40 (Or.inl ne_t_b2))
  have f45 := (f39.other W40 ne_tb_b2)
  refine own_callV (pc' := 266) (W := 5) (y := (⟨"java/lang/String", "charAt", "(I)C"⟩ : MethodName)) (z := (⟨"java/lang/String", "charAt", "(I)C"⟩ : MethodName)) X40 hx hZ hown (own_w hw 219 rfl) (own_w hw 220 rfl) (notFace_of_selects (args := #[]) (mvT hZ (own_w hw 222 rfl))) (own_w hw 222 rfl) (own_w hw 221 rfl) (own_w hw 2 rfl) (own_w hw 223 rfl) (by decide) f42 (con_charAt l Z a0 hw t (6 : Int32) _ n0 z40 G1 fm hG o40 tb ktb cn _ f42 f43 f44 f45 (100 : Int32) ⟨by decide, by rw [Int32.lt_iff_toInt_lt]; show (6 : Int) < _; omega⟩ (by rw [hus]; rfl)) e40 pd32 [(.int (6 : Int32))] [(.int (6 : Int32)), (.ref b2), (.ref b2), (.ref b1), (.ref b1)] rfl rfl rfl (Nat.le_of_eq rfl) (by decide) (by decide) (by rw [hml]; rfl) (hb hby at_263) (by decide) (by decide) rfl ?_
  intro v41 T41 L41 X41 q41
  obtain ⟨r41, rfl, hr41, rfl, e41⟩ := q41
  have M41 := Fr.nil n0
  have N41 := Fr.app N40 M41
  obtain rfl : r41 = (100 : Int32) := by rw [hr41]; decide
  show own_WP _ _ _ _ _ _ _ (T41.setTop (mkF m 266 #[.val (.long xl), .second, .val (.int ci), .val (.int c0), .val (.int c1), .val (.int c2), .val (.int nn), .val (.ref seg), .val (.ref t), .val (.int r9), .val (.int ng), .val (.int dd), .unset, .unset, .unset, .unset, .unset, .unset, .unset, .unset] [(.int (100 : Int32)), (.int (6 : Int32)), (.ref b2), (.ref b2), (.ref b1), (.ref b1)]))
  refine own_castore (pc' := 267) X41 hx hZ e41 V40 ⟨by decide, by decide⟩ 6 rfl (Nat.le_of_ble_eq_true rfl) (hb hby at_266) rfl ?_
  intro T46 h46 X46 e46 W46 V46
  have o46 : own_Old Z n0 h46 := o40.wr W46 g_b2
  have H46 := CHv.wr W46 S40_b2 H40
  have S46_b1 := Safe.wr (x := b1) W46 S40_b2 H40 S40_b1
  have S46_b2 := Safe.wr (x := b2) W46 S40_b2 H40 S40_b2
  have kz46 := Nat.le_trans kz40 (Keep.of_wr W46).1
  have z46 : n0 ≤ h46.size := Nat.le_trans z40 (Keep.of_wr W46).1
  have V46 : Arv Z h46 b2 k2 .char (21 : Int32) [(.int (114 : Int32)), (.int (101 : Int32)), (.int (109 : Int32)), (.int (111 : Int32)), (.int (118 : Int32)), (.int (101 : Int32)), (.int (nar .char (100 : Int32))), (.int (0 : Int32)), (.int (0 : Int32)), (.int (0 : Int32)), (.int (0 : Int32)), (.int (0 : Int32)), (.int (0 : Int32)), (.int (0 : Int32)), (.int (0 : Int32)), (.int (0 : Int32)), (.int (0 : Int32)), (.int (0 : Int32)), (.int (0 : Int32)), (.int (0 : Int32)), (.int (0 : Int32))] (.int (0 : Int32)) := V46
  have N46 := Fr.snoc X46 N41 g_b2
  rw [(show nar .char (100 : Int32) = (100 : Int32) by decide)] at V46
  refine own_dup (pc' := 268) X46 hx (hb hby at_267) rfl rfl ?_
  refine own_bipush (pc' := 270) X46 hx (7 : Int32) (hb hby at_268) rfl rfl ?_
  refine own_aload (pc' := 272) X46 hx (hb hby at_270) rfl rfl rfl ?_
  refine own_bipush (pc' := 274) X46 hx (7 : Int32) (hb hby at_272) rfl rfl ?_
  have f48 := (f42.wr W46)
  have f49 := (f43.other W46 (Or.inl ne_t_b2))
  have f50 := (f44.other W46 (Or.inl ne_t_b2))
  have f51 := (f45.other W46 ne_tb_b2)
  refine own_callV (pc' := 277) (W := 5) (y := (⟨"java/lang/String", "charAt", "(I)C"⟩ : MethodName)) (z := (⟨"java/lang/String", "charAt", "(I)C"⟩ : MethodName)) X46 hx hZ hown (own_w hw 219 rfl) (own_w hw 220 rfl) (notFace_of_selects (args := #[]) (mvT hZ (own_w hw 222 rfl))) (own_w hw 222 rfl) (own_w hw 221 rfl) (own_w hw 2 rfl) (own_w hw 223 rfl) (by decide) f48 (con_charAt l Z a0 hw t (7 : Int32) _ n0 z46 G1 fm hG o46 tb ktb cn _ f48 f49 f50 f51 (32 : Int32) ⟨by decide, by rw [Int32.lt_iff_toInt_lt]; show (7 : Int) < _; omega⟩ (by rw [hus]; rfl)) e46 pd32 [(.int (7 : Int32))] [(.int (7 : Int32)), (.ref b2), (.ref b2), (.ref b1), (.ref b1)] rfl rfl rfl (Nat.le_of_eq rfl) (by decide) (by decide) (by rw [hml]; rfl) (hb hby at_274) (by decide) (by decide) rfl ?_
  intro v47 T47 L47 X47 q47
  obtain ⟨r47, rfl, hr47, rfl, e47⟩ := q47
  have M47 := Fr.nil n0
  have N47 := Fr.app N46 M47
  obtain rfl : r47 = (32 : Int32) := by rw [hr47]; decide
  show own_WP _ _ _ _ _ _ _ (T47.setTop (mkF m 277 #[.val (.long xl), .second, .val (.int ci), .val (.int c0), .val (.int c1), .val (.int c2), .val (.int nn), .val (.ref seg), .val (.ref t), .val (.int r9), .val (.int ng), .val (.int dd), .unset, .unset, .unset, .unset, .unset, .unset, .unset, .unset] [(.int (32 : Int32)), (.int (7 : Int32)), (.ref b2), (.ref b2), (.ref b1), (.ref b1)]))
  refine own_castore (pc' := 278) X47 hx hZ e47 V46 ⟨by decide, by decide⟩ 7 rfl (Nat.le_of_ble_eq_true rfl) (hb hby at_277) rfl ?_
  intro T52 h52 X52 e52 W52 V52
  have o52 : own_Old Z n0 h52 := o46.wr W52 g_b2
  have H52 := CHv.wr W52 S46_b2 H46
  have S52_b1 := Safe.wr (x := b1) W52 S46_b2 H46 S46_b1
  have S52_b2 := Safe.wr (x := b2) W52 S46_b2 H46 S46_b2
  have kz52 := Nat.le_trans kz46 (Keep.of_wr W52).1
  have z52 : n0 ≤ h52.size := Nat.le_trans z46 (Keep.of_wr W52).1
  have V52 : Arv Z h52 b2 k2 .char (21 : Int32) [(.int (114 : Int32)), (.int (101 : Int32)), (.int (109 : Int32)), (.int (111 : Int32)), (.int (118 : Int32)), (.int (101 : Int32)), (.int (100 : Int32)), (.int (nar .char (32 : Int32))), (.int (0 : Int32)), (.int (0 : Int32)), (.int (0 : Int32)), (.int (0 : Int32)), (.int (0 : Int32)), (.int (0 : Int32)), (.int (0 : Int32)), (.int (0 : Int32)), (.int (0 : Int32)), (.int (0 : Int32)), (.int (0 : Int32)), (.int (0 : Int32)), (.int (0 : Int32))] (.int (0 : Int32)) := V52
  have N52 := Fr.snoc X52 N47 g_b2
  rw [(show nar .char (32 : Int32) = (32 : Int32) by decide)] at V52
  refine own_dup (pc' := 279) X52 hx (hb hby at_278) rfl rfl ?_
  refine own_bipush (pc' := 281) X52 hx (8 : Int32) (hb hby at_279) rfl rfl ?_
  refine own_aload (pc' := 283) X52 hx (hb hby at_281) rfl rfl rfl ?_
  refine own_bipush (pc' := 285) X52 hx (8 : Int32) (hb hby at_283) rfl rfl ?_
  have f54 := (f48.wr W52)
  have f55 := (f49.other W52 (Or.inl ne_t_b2))
  have f56 := (f50.other W52 (Or.inl ne_t_b2))
  have f57 := (f51.other W52 ne_tb_b2)
  refine own_callV (pc' := 288) (W := 5) (y := (⟨"java/lang/String", "charAt", "(I)C"⟩ : MethodName)) (z := (⟨"java/lang/String", "charAt", "(I)C"⟩ : MethodName)) X52 hx hZ hown (own_w hw 219 rfl) (own_w hw 220 rfl) (notFace_of_selects (args := #[]) (mvT hZ (own_w hw 222 rfl))) (own_w hw 222 rfl) (own_w hw 221 rfl) (own_w hw 2 rfl) (own_w hw 223 rfl) (by decide) f54 (con_charAt l Z a0 hw t (8 : Int32) _ n0 z52 G1 fm hG o52 tb ktb cn _ f54 f55 f56 f57 (116 : Int32) ⟨by decide, by rw [Int32.lt_iff_toInt_lt]; show (8 : Int) < _; omega⟩ (by rw [hus]; rfl)) e52 pd32 [(.int (8 : Int32))] [(.int (8 : Int32)), (.ref b2), (.ref b2), (.ref b1), (.ref b1)] rfl rfl rfl (Nat.le_of_eq rfl) (by decide) (by decide) (by rw [hml]; rfl) (hb hby at_285) (by decide) (by decide) rfl ?_
  intro v53 T53 L53 X53 q53
  obtain ⟨r53, rfl, hr53, rfl, e53⟩ := q53
  have M53 := Fr.nil n0
  have N53 := Fr.app N52 M53
  obtain rfl : r53 = (116 : Int32) := by rw [hr53]; decide
  show own_WP _ _ _ _ _ _ _ (T53.setTop (mkF m 288 #[.val (.long xl), .second, .val (.int ci), .val (.int c0), .val (.int c1), .val (.int c2), .val (.int nn), .val (.ref seg), .val (.ref t), .val (.int r9), .val (.int ng), .val (.int dd), .unset, .unset, .unset, .unset, .unset, .unset, .unset, .unset] [(.int (116 : Int32)), (.int (8 : Int32)), (.ref b2), (.ref b2), (.ref b1), (.ref b1)]))
  refine own_castore (pc' := 289) X53 hx hZ e53 V52 ⟨by decide, by decide⟩ 8 rfl (Nat.le_of_ble_eq_true rfl) (hb hby at_288) rfl ?_
  intro T58 h58 X58 e58 W58 V58
  have o58 : own_Old Z n0 h58 := o52.wr W58 g_b2
  have H58 := CHv.wr W58 S52_b2 H52
  have S58_b1 := Safe.wr (x := b1) W58 S52_b2 H52 S52_b1
  have S58_b2 := Safe.wr (x := b2) W58 S52_b2 H52 S52_b2
  have kz58 := Nat.le_trans kz52 (Keep.of_wr W58).1
  have z58 : n0 ≤ h58.size := Nat.le_trans z52 (Keep.of_wr W58).1
  have V58 : Arv Z h58 b2 k2 .char (21 : Int32) [(.int (114 : Int32)), (.int (101 : Int32)), (.int (109 : Int32)), (.int (111 : Int32)), (.int (118 : Int32)), (.int (101 : Int32)), (.int (100 : Int32)), (.int (32 : Int32)), (.int (nar .char (116 : Int32))), (.int (0 : Int32)), (.int (0 : Int32)), (.int (0 : Int32)), (.int (0 : Int32)), (.int (0 : Int32)), (.int (0 : Int32)), (.int (0 : Int32)), (.int (0 : Int32)), (.int (0 : Int32)), (.int (0 : Int32)), (.int (0 : Int32)), (.int (0 : Int32))] (.int (0 : Int32)) := V58
  have N58 := Fr.snoc X58 N53 g_b2
  rw [(show nar .char (116 : Int32) = (116 : Int32) by decide)] at V58
  refine own_dup (pc' := 290) X58 hx (hb hby at_289) rfl rfl ?_
  refine own_bipush (pc' := 292) X58 hx (9 : Int32) (hb hby at_290) rfl rfl ?_
  refine own_aload (pc' := 294) X58 hx (hb hby at_292) rfl rfl rfl ?_
  refine own_bipush (pc' := 296) X58 hx (9 : Int32) (hb hby at_294) rfl rfl ?_
  have f60 := (f54.wr W58)
  have f61 := (f55.other W58 (Or.inl ne_t_b2))
  have f62 := (f56.other W58 (Or.inl ne_t_b2))
  have f63 := (f57.other W58 ne_tb_b2)
  refine own_callV (pc' := 299) (W := 5) (y := (⟨"java/lang/String", "charAt", "(I)C"⟩ : MethodName)) (z := (⟨"java/lang/String", "charAt", "(I)C"⟩ : MethodName)) X58 hx hZ hown (own_w hw 219 rfl) (own_w hw 220 rfl) (notFace_of_selects (args := #[]) (mvT hZ (own_w hw 222 rfl))) (own_w hw 222 rfl) (own_w hw 221 rfl) (own_w hw 2 rfl) (own_w hw 223 rfl) (by decide) f60 (con_charAt l Z a0 hw t (9 : Int32) _ n0 z58 G1 fm hG o58 tb ktb cn _ f60 f61 f62 f63 (111 : Int32) ⟨by decide, by rw [Int32.lt_iff_toInt_lt]; show (9 : Int) < _; omega⟩ (by rw [hus]; rfl)) e58 pd32 [(.int (9 : Int32))] [(.int (9 : Int32)), (.ref b2), (.ref b2), (.ref b1), (.ref b1)] rfl rfl rfl (Nat.le_of_eq rfl) (by decide) (by decide) (by rw [hml]; rfl) (hb hby at_296) (by decide) (by decide) rfl ?_
  intro v59 T59 L59 X59 q59
  obtain ⟨r59, rfl, hr59, rfl, e59⟩ := q59
  have M59 := Fr.nil n0
  have N59 := Fr.app N58 M59
  obtain rfl : r59 = (111 : Int32) := by rw [hr59]; decide
  show own_WP _ _ _ _ _ _ _ (T59.setTop (mkF m 299 #[.val (.long xl), .second, .val (.int ci), .val (.int c0), .val (.int c1), .val (.int c2), .val (.int nn), .val (.ref seg), .val (.ref t), .val (.int r9), .val (.int ng), .val (.int dd), .unset, .unset, .unset, .unset, .unset, .unset, .unset, .unset] [(.int (111 : Int32)), (.int (9 : Int32)), (.ref b2), (.ref b2), (.ref b1), (.ref b1)]))
  refine own_castore (pc' := 300) X59 hx hZ e59 V58 ⟨by decide, by decide⟩ 9 rfl (Nat.le_of_ble_eq_true rfl) (hb hby at_299) rfl ?_
  intro T64 h64 X64 e64 W64 V64
  have o64 : own_Old Z n0 h64 := o58.wr W64 g_b2
  have H64 := CHv.wr W64 S58_b2 H58
  have S64_b1 := Safe.wr (x := b1) W64 S58_b2 H58 S58_b1
  have S64_b2 := Safe.wr (x := b2) W64 S58_b2 H58 S58_b2
  have kz64 := Nat.le_trans kz58 (Keep.of_wr W64).1
  have z64 : n0 ≤ h64.size := Nat.le_trans z58 (Keep.of_wr W64).1
  have V64 : Arv Z h64 b2 k2 .char (21 : Int32) [(.int (114 : Int32)), (.int (101 : Int32)), (.int (109 : Int32)), (.int (111 : Int32)), (.int (118 : Int32)), (.int (101 : Int32)), (.int (100 : Int32)), (.int (32 : Int32)), (.int (116 : Int32)), (.int (nar .char (111 : Int32))), (.int (0 : Int32)), (.int (0 : Int32)), (.int (0 : Int32)), (.int (0 : Int32)), (.int (0 : Int32)), (.int (0 : Int32)), (.int (0 : Int32)), (.int (0 : Int32)), (.int (0 : Int32)), (.int (0 : Int32)), (.int (0 : Int32))] (.int (0 : Int32)) := V64
  have N64 := Fr.snoc X64 N59 g_b2
  rw [(show nar .char (111 : Int32) = (111 : Int32) by decide)] at V64
  refine own_dup (pc' := 301) X64 hx (hb hby at_300) rfl rfl ?_
  refine own_bipush (pc' := 303) X64 hx (10 : Int32) (hb hby at_301) rfl rfl ?_
  refine own_aload (pc' := 305) X64 hx (hb hby at_303) rfl rfl rfl ?_
  refine own_bipush (pc' := 307) X64 hx (10 : Int32) (hb hby at_305) rfl rfl ?_
  have f66 := (f60.wr W64)
  have f67 := (f61.other W64 (Or.inl ne_t_b2))
  have f68 := (f62.other W64 (Or.inl ne_t_b2))
  have f69 := (f63.other W64 ne_tb_b2)
  refine own_callV (pc' := 310) (W := 5) (y := (⟨"java/lang/String", "charAt", "(I)C"⟩ : MethodName)) (z := (⟨"java/lang/String", "charAt", "(I)C"⟩ : MethodName)) X64 hx hZ hown (own_w hw 219 rfl) (own_w hw 220 rfl) (notFace_of_selects (args := #[]) (mvT hZ (own_w hw 222 rfl))) (own_w hw 222 rfl) (own_w hw 221 rfl) (own_w hw 2 rfl) (own_w hw 223 rfl) (by decide) f66 (con_charAt l Z a0 hw t (10 : Int32) _ n0 z64 G1 fm hG o64 tb ktb cn _ f66 f67 f68 f69 (114 : Int32) ⟨by decide, by rw [Int32.lt_iff_toInt_lt]; show (10 : Int) < _; omega⟩ (by rw [hus]; rfl)) e64 pd32 [(.int (10 : Int32))] [(.int (10 : Int32)), (.ref b2), (.ref b2), (.ref b1), (.ref b1)] rfl rfl rfl (Nat.le_of_eq rfl) (by decide) (by decide) (by rw [hml]; rfl) (hb hby at_307) (by decide) (by decide) rfl ?_
  intro v65 T65 L65 X65 q65
  obtain ⟨r65, rfl, hr65, rfl, e65⟩ := q65
  have M65 := Fr.nil n0
  have N65 := Fr.app N64 M65
  obtain rfl : r65 = (114 : Int32) := by rw [hr65]; decide
  show own_WP _ _ _ _ _ _ _ (T65.setTop (mkF m 310 #[.val (.long xl), .second, .val (.int ci), .val (.int c0), .val (.int c1), .val (.int c2), .val (.int nn), .val (.ref seg), .val (.ref t), .val (.int r9), .val (.int ng), .val (.int dd), .unset, .unset, .unset, .unset, .unset, .unset, .unset, .unset] [(.int (114 : Int32)), (.int (10 : Int32)), (.ref b2), (.ref b2), (.ref b1), (.ref b1)]))
  refine own_castore (pc' := 311) X65 hx hZ e65 V64 ⟨by decide, by decide⟩ 10 rfl (Nat.le_of_ble_eq_true rfl) (hb hby at_310) rfl ?_
  intro T70 h70 X70 e70 W70 V70
  have o70 : own_Old Z n0 h70 := o64.wr W70 g_b2
  have H70 := CHv.wr W70 S64_b2 H64
  have S70_b1 := Safe.wr (x := b1) W70 S64_b2 H64 S64_b1
  have S70_b2 := Safe.wr (x := b2) W70 S64_b2 H64 S64_b2
  have kz70 := Nat.le_trans kz64 (Keep.of_wr W70).1
  have z70 : n0 ≤ h70.size := Nat.le_trans z64 (Keep.of_wr W70).1
  have V70 : Arv Z h70 b2 k2 .char (21 : Int32) [(.int (114 : Int32)), (.int (101 : Int32)), (.int (109 : Int32)), (.int (111 : Int32)), (.int (118 : Int32)), (.int (101 : Int32)), (.int (100 : Int32)), (.int (32 : Int32)), (.int (116 : Int32)), (.int (111 : Int32)), (.int (nar .char (114 : Int32))), (.int (0 : Int32)), (.int (0 : Int32)), (.int (0 : Int32)), (.int (0 : Int32)), (.int (0 : Int32)), (.int (0 : Int32)), (.int (0 : Int32)), (.int (0 : Int32)), (.int (0 : Int32)), (.int (0 : Int32))] (.int (0 : Int32)) := V70
  have N70 := Fr.snoc X70 N65 g_b2
  rw [(show nar .char (114 : Int32) = (114 : Int32) by decide)] at V70
  refine own_dup (pc' := 312) X70 hx (hb hby at_311) rfl rfl ?_
  refine own_bipush (pc' := 314) X70 hx (11 : Int32) (hb hby at_312) rfl rfl ?_
  refine own_aload (pc' := 316) X70 hx (hb hby at_314) rfl rfl rfl ?_
  refine own_bipush (pc' := 318) X70 hx (11 : Int32) (hb hby at_316) rfl rfl ?_
  have f72 := (f66.wr W70)
  have f73 := (f67.other W70 (Or.inl ne_t_b2))
  have f74 := (f68.other W70 (Or.inl ne_t_b2))
  have f75 := (f69.other W70 ne_tb_b2)
  refine own_callV (pc' := 321) (W := 5) (y := (⟨"java/lang/String", "charAt", "(I)C"⟩ : MethodName)) (z := (⟨"java/lang/String", "charAt", "(I)C"⟩ : MethodName)) X70 hx hZ hown (own_w hw 219 rfl) (own_w hw 220 rfl) (notFace_of_selects (args := #[]) (mvT hZ (own_w hw 222 rfl))) (own_w hw 222 rfl) (own_w hw 221 rfl) (own_w hw 2 rfl) (own_w hw 223 rfl) (by decide) f72 (con_charAt l Z a0 hw t (11 : Int32) _ n0 z70 G1 fm hG o70 tb ktb cn _ f72 f73 f74 f75 (110 : Int32) ⟨by decide, by rw [Int32.lt_iff_toInt_lt]; show (11 : Int) < _; omega⟩ (by rw [hus]; rfl)) e70 pd32 [(.int (11 : Int32))] [(.int (11 : Int32)), (.ref b2), (.ref b2), (.ref b1), (.ref b1)] rfl rfl rfl (Nat.le_of_eq rfl) (by decide) (by decide) (by rw [hml]; rfl) (hb hby at_318) (by decide) (by decide) rfl ?_
  intro v71 T71 L71 X71 q71
  obtain ⟨r71, rfl, hr71, rfl, e71⟩ := q71
  have M71 := Fr.nil n0
  have N71 := Fr.app N70 M71
  obtain rfl : r71 = (110 : Int32) := by rw [hr71]; decide
  show own_WP _ _ _ _ _ _ _ (T71.setTop (mkF m 321 #[.val (.long xl), .second, .val (.int ci), .val (.int c0), .val (.int c1), .val (.int c2), .val (.int nn), .val (.ref seg), .val (.ref t), .val (.int r9), .val (.int ng), .val (.int dd), .unset, .unset, .unset, .unset, .unset, .unset, .unset, .unset] [(.int (110 : Int32)), (.int (11 : Int32)), (.ref b2), (.ref b2), (.ref b1), (.ref b1)]))
  refine own_castore (pc' := 322) X71 hx hZ e71 V70 ⟨by decide, by decide⟩ 11 rfl (Nat.le_of_ble_eq_true rfl) (hb hby at_321) rfl ?_
  intro T76 h76 X76 e76 W76 V76
  have o76 : own_Old Z n0 h76 := o70.wr W76 g_b2
  have H76 := CHv.wr W76 S70_b2 H70
  have S76_b1 := Safe.wr (x := b1) W76 S70_b2 H70 S70_b1
  have S76_b2 := Safe.wr (x := b2) W76 S70_b2 H70 S70_b2
  have kz76 := Nat.le_trans kz70 (Keep.of_wr W76).1
  have z76 : n0 ≤ h76.size := Nat.le_trans z70 (Keep.of_wr W76).1
  have V76 : Arv Z h76 b2 k2 .char (21 : Int32) [(.int (114 : Int32)), (.int (101 : Int32)), (.int (109 : Int32)), (.int (111 : Int32)), (.int (118 : Int32)), (.int (101 : Int32)), (.int (100 : Int32)), (.int (32 : Int32)), (.int (116 : Int32)), (.int (111 : Int32)), (.int (114 : Int32)), (.int (nar .char (110 : Int32))), (.int (0 : Int32)), (.int (0 : Int32)), (.int (0 : Int32)), (.int (0 : Int32)), (.int (0 : Int32)), (.int (0 : Int32)), (.int (0 : Int32)), (.int (0 : Int32)), (.int (0 : Int32))] (.int (0 : Int32)) := V76
  have N76 := Fr.snoc X76 N71 g_b2
  rw [(show nar .char (110 : Int32) = (110 : Int32) by decide)] at V76
  refine own_dup (pc' := 323) X76 hx (hb hby at_322) rfl rfl ?_
  refine own_bipush (pc' := 325) X76 hx (12 : Int32) (hb hby at_323) rfl rfl ?_
  refine own_aload (pc' := 327) X76 hx (hb hby at_325) rfl rfl rfl ?_
  refine own_bipush (pc' := 329) X76 hx (12 : Int32) (hb hby at_327) rfl rfl ?_
  have f78 := (f72.wr W76)
  have f79 := (f73.other W76 (Or.inl ne_t_b2))
  have f80 := (f74.other W76 (Or.inl ne_t_b2))
  have f81 := (f75.other W76 ne_tb_b2)
  refine own_callV (pc' := 332) (W := 5) (y := (⟨"java/lang/String", "charAt", "(I)C"⟩ : MethodName)) (z := (⟨"java/lang/String", "charAt", "(I)C"⟩ : MethodName)) X76 hx hZ hown (own_w hw 219 rfl) (own_w hw 220 rfl) (notFace_of_selects (args := #[]) (mvT hZ (own_w hw 222 rfl))) (own_w hw 222 rfl) (own_w hw 221 rfl) (own_w hw 2 rfl) (own_w hw 223 rfl) (by decide) f78 (con_charAt l Z a0 hw t (12 : Int32) _ n0 z76 G1 fm hG o76 tb ktb cn _ f78 f79 f80 f81 (32 : Int32) ⟨by decide, by rw [Int32.lt_iff_toInt_lt]; show (12 : Int) < _; omega⟩ (by rw [hus]; rfl)) e76 pd32 [(.int (12 : Int32))] [(.int (12 : Int32)), (.ref b2), (.ref b2), (.ref b1), (.ref b1)] rfl rfl rfl (Nat.le_of_eq rfl) (by decide) (by decide) (by rw [hml]; rfl) (hb hby at_329) (by decide) (by decide) rfl ?_
  intro v77 T77 L77 X77 q77
  obtain ⟨r77, rfl, hr77, rfl, e77⟩ := q77
  have M77 := Fr.nil n0
  have N77 := Fr.app N76 M77
  obtain rfl : r77 = (32 : Int32) := by rw [hr77]; decide
  show own_WP _ _ _ _ _ _ _ (T77.setTop (mkF m 332 #[.val (.long xl), .second, .val (.int ci), .val (.int c0), .val (.int c1), .val (.int c2), .val (.int nn), .val (.ref seg), .val (.ref t), .val (.int r9), .val (.int ng), .val (.int dd), .unset, .unset, .unset, .unset, .unset, .unset, .unset, .unset] [(.int (32 : Int32)), (.int (12 : Int32)), (.ref b2), (.ref b2), (.ref b1), (.ref b1)]))
  refine own_castore (pc' := 333) X77 hx hZ e77 V76 ⟨by decide, by decide⟩ 12 rfl (Nat.le_of_ble_eq_true rfl) (hb hby at_332) rfl ?_
  intro T82 h82 X82 e82 W82 V82
  have o82 : own_Old Z n0 h82 := o76.wr W82 g_b2
  have H82 := CHv.wr W82 S76_b2 H76
  have S82_b1 := Safe.wr (x := b1) W82 S76_b2 H76 S76_b1
  have S82_b2 := Safe.wr (x := b2) W82 S76_b2 H76 S76_b2
  have kz82 := Nat.le_trans kz76 (Keep.of_wr W82).1
  have z82 : n0 ≤ h82.size := Nat.le_trans z76 (Keep.of_wr W82).1
  have V82 : Arv Z h82 b2 k2 .char (21 : Int32) [(.int (114 : Int32)), (.int (101 : Int32)), (.int (109 : Int32)), (.int (111 : Int32)), (.int (118 : Int32)), (.int (101 : Int32)), (.int (100 : Int32)), (.int (32 : Int32)), (.int (116 : Int32)), (.int (111 : Int32)), (.int (114 : Int32)), (.int (110 : Int32)), (.int (nar .char (32 : Int32))), (.int (0 : Int32)), (.int (0 : Int32)), (.int (0 : Int32)), (.int (0 : Int32)), (.int (0 : Int32)), (.int (0 : Int32)), (.int (0 : Int32)), (.int (0 : Int32))] (.int (0 : Int32)) := V82
  have N82 := Fr.snoc X82 N77 g_b2
  rw [(show nar .char (32 : Int32) = (32 : Int32) by decide)] at V82
  refine own_dup (pc' := 334) X82 hx (hb hby at_333) rfl rfl ?_
  refine own_bipush (pc' := 336) X82 hx (13 : Int32) (hb hby at_334) rfl rfl ?_
  refine own_aload (pc' := 338) X82 hx (hb hby at_336) rfl rfl rfl ?_
  refine own_bipush (pc' := 340) X82 hx (13 : Int32) (hb hby at_338) rfl rfl ?_
  have f84 := (f78.wr W82)
  have f85 := (f79.other W82 (Or.inl ne_t_b2))
  have f86 := (f80.other W82 (Or.inl ne_t_b2))
  have f87 := (f81.other W82 ne_tb_b2)
  refine own_callV (pc' := 343) (W := 5) (y := (⟨"java/lang/String", "charAt", "(I)C"⟩ : MethodName)) (z := (⟨"java/lang/String", "charAt", "(I)C"⟩ : MethodName)) X82 hx hZ hown (own_w hw 219 rfl) (own_w hw 220 rfl) (notFace_of_selects (args := #[]) (mvT hZ (own_w hw 222 rfl))) (own_w hw 222 rfl) (own_w hw 221 rfl) (own_w hw 2 rfl) (own_w hw 223 rfl) (by decide) f84 (con_charAt l Z a0 hw t (13 : Int32) _ n0 z82 G1 fm hG o82 tb ktb cn _ f84 f85 f86 f87 (116 : Int32) ⟨by decide, by rw [Int32.lt_iff_toInt_lt]; show (13 : Int) < _; omega⟩ (by rw [hus]; rfl)) e82 pd32 [(.int (13 : Int32))] [(.int (13 : Int32)), (.ref b2), (.ref b2), (.ref b1), (.ref b1)] rfl rfl rfl (Nat.le_of_eq rfl) (by decide) (by decide) (by rw [hml]; rfl) (hb hby at_340) (by decide) (by decide) rfl ?_
  intro v83 T83 L83 X83 q83
  obtain ⟨r83, rfl, hr83, rfl, e83⟩ := q83
  have M83 := Fr.nil n0
  have N83 := Fr.app N82 M83
  obtain rfl : r83 = (116 : Int32) := by rw [hr83]; decide
  show own_WP _ _ _ _ _ _ _ (T83.setTop (mkF m 343 #[.val (.long xl), .second, .val (.int ci), .val (.int c0), .val (.int c1), .val (.int c2), .val (.int nn), .val (.ref seg), .val (.ref t), .val (.int r9), .val (.int ng), .val (.int dd), .unset, .unset, .unset, .unset, .unset, .unset, .unset, .unset] [(.int (116 : Int32)), (.int (13 : Int32)), (.ref b2), (.ref b2), (.ref b1), (.ref b1)]))
  refine own_castore (pc' := 344) X83 hx hZ e83 V82 ⟨by decide, by decide⟩ 13 rfl (Nat.le_of_ble_eq_true rfl) (hb hby at_343) rfl ?_
  intro T88 h88 X88 e88 W88 V88
  have o88 : own_Old Z n0 h88 := o82.wr W88 g_b2
  have H88 := CHv.wr W88 S82_b2 H82
  have S88_b1 := Safe.wr (x := b1) W88 S82_b2 H82 S82_b1
  have S88_b2 := Safe.wr (x := b2) W88 S82_b2 H82 S82_b2
  have kz88 := Nat.le_trans kz82 (Keep.of_wr W88).1
  have z88 : n0 ≤ h88.size := Nat.le_trans z82 (Keep.of_wr W88).1
  have V88 : Arv Z h88 b2 k2 .char (21 : Int32) [(.int (114 : Int32)), (.int (101 : Int32)), (.int (109 : Int32)), (.int (111 : Int32)), (.int (118 : Int32)), (.int (101 : Int32)), (.int (100 : Int32)), (.int (32 : Int32)), (.int (116 : Int32)), (.int (111 : Int32)), (.int (114 : Int32)), (.int (110 : Int32)), (.int (32 : Int32)), (.int (nar .char (116 : Int32))), (.int (0 : Int32)), (.int (0 : Int32)), (.int (0 : Int32)), (.int (0 : Int32)), (.int (0 : Int32)), (.int (0 : Int32)), (.int (0 : Int32))] (.int (0 : Int32)) := V88
  have N88 := Fr.snoc X88 N83 g_b2
  rw [(show nar .char (116 : Int32) = (116 : Int32) by decide)] at V88
  refine own_dup (pc' := 345) X88 hx (hb hby at_344) rfl rfl ?_
  refine own_bipush (pc' := 347) X88 hx (14 : Int32) (hb hby at_345) rfl rfl ?_
  refine own_aload (pc' := 349) X88 hx (hb hby at_347) rfl rfl rfl ?_
  refine own_bipush (pc' := 351) X88 hx (14 : Int32) (hb hby at_349) rfl rfl ?_
  have f90 := (f84.wr W88)
  have f91 := (f85.other W88 (Or.inl ne_t_b2))
  have f92 := (f86.other W88 (Or.inl ne_t_b2))
  have f93 := (f87.other W88 ne_tb_b2)
  refine own_callV (pc' := 354) (W := 5) (y := (⟨"java/lang/String", "charAt", "(I)C"⟩ : MethodName)) (z := (⟨"java/lang/String", "charAt", "(I)C"⟩ : MethodName)) X88 hx hZ hown (own_w hw 219 rfl) (own_w hw 220 rfl) (notFace_of_selects (args := #[]) (mvT hZ (own_w hw 222 rfl))) (own_w hw 222 rfl) (own_w hw 221 rfl) (own_w hw 2 rfl) (own_w hw 223 rfl) (by decide) f90 (con_charAt l Z a0 hw t (14 : Int32) _ n0 z88 G1 fm hG o88 tb ktb cn _ f90 f91 f92 f93 (97 : Int32) ⟨by decide, by rw [Int32.lt_iff_toInt_lt]; show (14 : Int) < _; omega⟩ (by rw [hus]; rfl)) e88 pd32 [(.int (14 : Int32))] [(.int (14 : Int32)), (.ref b2), (.ref b2), (.ref b1), (.ref b1)] rfl rfl rfl (Nat.le_of_eq rfl) (by decide) (by decide) (by rw [hml]; rfl) (hb hby at_351) (by decide) (by decide) rfl ?_
  intro v89 T89 L89 X89 q89
  obtain ⟨r89, rfl, hr89, rfl, e89⟩ := q89
  have M89 := Fr.nil n0
  have N89 := Fr.app N88 M89
  obtain rfl : r89 = (97 : Int32) := by rw [hr89]; decide
  show own_WP _ _ _ _ _ _ _ (T89.setTop (mkF m 354 #[.val (.long xl), .second, .val (.int ci), .val (.int c0), .val (.int c1), .val (.int c2), .val (.int nn), .val (.ref seg), .val (.ref t), .val (.int r9), .val (.int ng), .val (.int dd), .unset, .unset, .unset, .unset, .unset, .unset, .unset, .unset] [(.int (97 : Int32)), (.int (14 : Int32)), (.ref b2), (.ref b2), (.ref b1), (.ref b1)]))
  refine own_castore (pc' := 355) X89 hx hZ e89 V88 ⟨by decide, by decide⟩ 14 rfl (Nat.le_of_ble_eq_true rfl) (hb hby at_354) rfl ?_
  intro T94 h94 X94 e94 W94 V94
  have o94 : own_Old Z n0 h94 := o88.wr W94 g_b2
  have H94 := CHv.wr W94 S88_b2 H88
  have S94_b1 := Safe.wr (x := b1) W94 S88_b2 H88 S88_b1
  have S94_b2 := Safe.wr (x := b2) W94 S88_b2 H88 S88_b2
  have kz94 := Nat.le_trans kz88 (Keep.of_wr W94).1
  have z94 : n0 ≤ h94.size := Nat.le_trans z88 (Keep.of_wr W94).1
  have V94 : Arv Z h94 b2 k2 .char (21 : Int32) [(.int (114 : Int32)), (.int (101 : Int32)), (.int (109 : Int32)), (.int (111 : Int32)), (.int (118 : Int32)), (.int (101 : Int32)), (.int (100 : Int32)), (.int (32 : Int32)), (.int (116 : Int32)), (.int (111 : Int32)), (.int (114 : Int32)), (.int (110 : Int32)), (.int (32 : Int32)), (.int (116 : Int32)), (.int (nar .char (97 : Int32))), (.int (0 : Int32)), (.int (0 : Int32)), (.int (0 : Int32)), (.int (0 : Int32)), (.int (0 : Int32)), (.int (0 : Int32))] (.int (0 : Int32)) := V94
  have N94 := Fr.snoc X94 N89 g_b2
  rw [(show nar .char (97 : Int32) = (97 : Int32) by decide)] at V94
  refine own_dup (pc' := 356) X94 hx (hb hby at_355) rfl rfl ?_
  refine own_bipush (pc' := 358) X94 hx (15 : Int32) (hb hby at_356) rfl rfl ?_
  refine own_aload (pc' := 360) X94 hx (hb hby at_358) rfl rfl rfl ?_
  refine own_bipush (pc' := 362) X94 hx (15 : Int32) (hb hby at_360) rfl rfl ?_
  have f96 := (f90.wr W94)
  have f97 := (f91.other W94 (Or.inl ne_t_b2))
  have f98 := (f92.other W94 (Or.inl ne_t_b2))
  have f99 := (f93.other W94 ne_tb_b2)
  refine own_callV (pc' := 365) (W := 5) (y := (⟨"java/lang/String", "charAt", "(I)C"⟩ : MethodName)) (z := (⟨"java/lang/String", "charAt", "(I)C"⟩ : MethodName)) X94 hx hZ hown (own_w hw 219 rfl) (own_w hw 220 rfl) (notFace_of_selects (args := #[]) (mvT hZ (own_w hw 222 rfl))) (own_w hw 222 rfl) (own_w hw 221 rfl) (own_w hw 2 rfl) (own_w hw 223 rfl) (by decide) f96 (con_charAt l Z a0 hw t (15 : Int32) _ n0 z94 G1 fm hG o94 tb ktb cn _ f96 f97 f98 f99 (105 : Int32) ⟨by decide, by rw [Int32.lt_iff_toInt_lt]; show (15 : Int) < _; omega⟩ (by rw [hus]; rfl)) e94 pd32 [(.int (15 : Int32))] [(.int (15 : Int32)), (.ref b2), (.ref b2), (.ref b1), (.ref b1)] rfl rfl rfl (Nat.le_of_eq rfl) (by decide) (by decide) (by rw [hml]; rfl) (hb hby at_362) (by decide) (by decide) rfl ?_
  intro v95 T95 L95 X95 q95
  obtain ⟨r95, rfl, hr95, rfl, e95⟩ := q95
  have M95 := Fr.nil n0
  have N95 := Fr.app N94 M95
  obtain rfl : r95 = (105 : Int32) := by rw [hr95]; decide
  show own_WP _ _ _ _ _ _ _ (T95.setTop (mkF m 365 #[.val (.long xl), .second, .val (.int ci), .val (.int c0), .val (.int c1), .val (.int c2), .val (.int nn), .val (.ref seg), .val (.ref t), .val (.int r9), .val (.int ng), .val (.int dd), .unset, .unset, .unset, .unset, .unset, .unset, .unset, .unset] [(.int (105 : Int32)), (.int (15 : Int32)), (.ref b2), (.ref b2), (.ref b1), (.ref b1)]))
  refine own_castore (pc' := 366) X95 hx hZ e95 V94 ⟨by decide, by decide⟩ 15 rfl (Nat.le_of_ble_eq_true rfl) (hb hby at_365) rfl ?_
  intro T100 h100 X100 e100 W100 V100
  have o100 : own_Old Z n0 h100 := o94.wr W100 g_b2
  have H100 := CHv.wr W100 S94_b2 H94
  have S100_b1 := Safe.wr (x := b1) W100 S94_b2 H94 S94_b1
  have S100_b2 := Safe.wr (x := b2) W100 S94_b2 H94 S94_b2
  have kz100 := Nat.le_trans kz94 (Keep.of_wr W100).1
  have z100 : n0 ≤ h100.size := Nat.le_trans z94 (Keep.of_wr W100).1
  have V100 : Arv Z h100 b2 k2 .char (21 : Int32) [(.int (114 : Int32)), (.int (101 : Int32)), (.int (109 : Int32)), (.int (111 : Int32)), (.int (118 : Int32)), (.int (101 : Int32)), (.int (100 : Int32)), (.int (32 : Int32)), (.int (116 : Int32)), (.int (111 : Int32)), (.int (114 : Int32)), (.int (110 : Int32)), (.int (32 : Int32)), (.int (116 : Int32)), (.int (97 : Int32)), (.int (nar .char (105 : Int32))), (.int (0 : Int32)), (.int (0 : Int32)), (.int (0 : Int32)), (.int (0 : Int32)), (.int (0 : Int32))] (.int (0 : Int32)) := V100
  have N100 := Fr.snoc X100 N95 g_b2
  rw [(show nar .char (105 : Int32) = (105 : Int32) by decide)] at V100
  refine own_dup (pc' := 367) X100 hx (hb hby at_366) rfl rfl ?_
  refine own_bipush (pc' := 369) X100 hx (16 : Int32) (hb hby at_367) rfl rfl ?_
  refine own_aload (pc' := 371) X100 hx (hb hby at_369) rfl rfl rfl ?_
  refine own_bipush (pc' := 373) X100 hx (16 : Int32) (hb hby at_371) rfl rfl ?_
  have f102 := (f96.wr W100)
  have f103 := (f97.other W100 (Or.inl ne_t_b2))
  have f104 := (f98.other W100 (Or.inl ne_t_b2))
  have f105 := (f99.other W100 ne_tb_b2)
  refine own_callV (pc' := 376) (W := 5) (y := (⟨"java/lang/String", "charAt", "(I)C"⟩ : MethodName)) (z := (⟨"java/lang/String", "charAt", "(I)C"⟩ : MethodName)) X100 hx hZ hown (own_w hw 219 rfl) (own_w hw 220 rfl) (notFace_of_selects (args := #[]) (mvT hZ (own_w hw 222 rfl))) (own_w hw 222 rfl) (own_w hw 221 rfl) (own_w hw 2 rfl) (own_w hw 223 rfl) (by decide) f102 (con_charAt l Z a0 hw t (16 : Int32) _ n0 z100 G1 fm hG o100 tb ktb cn _ f102 f103 f104 f105 (108 : Int32) ⟨by decide, by rw [Int32.lt_iff_toInt_lt]; show (16 : Int) < _; omega⟩ (by rw [hus]; rfl)) e100 pd32 [(.int (16 : Int32))] [(.int (16 : Int32)), (.ref b2), (.ref b2), (.ref b1), (.ref b1)] rfl rfl rfl (Nat.le_of_eq rfl) (by decide) (by decide) (by rw [hml]; rfl) (hb hby at_373) (by decide) (by decide) rfl ?_
  intro v101 T101 L101 X101 q101
  obtain ⟨r101, rfl, hr101, rfl, e101⟩ := q101
  have M101 := Fr.nil n0
  have N101 := Fr.app N100 M101
  obtain rfl : r101 = (108 : Int32) := by rw [hr101]; decide
  show own_WP _ _ _ _ _ _ _ (T101.setTop (mkF m 376 #[.val (.long xl), .second, .val (.int ci), .val (.int c0), .val (.int c1), .val (.int c2), .val (.int nn), .val (.ref seg), .val (.ref t), .val (.int r9), .val (.int ng), .val (.int dd), .unset, .unset, .unset, .unset, .unset, .unset, .unset, .unset] [(.int (108 : Int32)), (.int (16 : Int32)), (.ref b2), (.ref b2), (.ref b1), (.ref b1)]))
  refine own_castore (pc' := 377) X101 hx hZ e101 V100 ⟨by decide, by decide⟩ 16 rfl (Nat.le_of_ble_eq_true rfl) (hb hby at_376) rfl ?_
  intro T106 h106 X106 e106 W106 V106
  have o106 : own_Old Z n0 h106 := o100.wr W106 g_b2
  have H106 := CHv.wr W106 S100_b2 H100
  have S106_b1 := Safe.wr (x := b1) W106 S100_b2 H100 S100_b1
  have S106_b2 := Safe.wr (x := b2) W106 S100_b2 H100 S100_b2
  have kz106 := Nat.le_trans kz100 (Keep.of_wr W106).1
  have z106 : n0 ≤ h106.size := Nat.le_trans z100 (Keep.of_wr W106).1
  have V106 : Arv Z h106 b2 k2 .char (21 : Int32) [(.int (114 : Int32)), (.int (101 : Int32)), (.int (109 : Int32)), (.int (111 : Int32)), (.int (118 : Int32)), (.int (101 : Int32)), (.int (100 : Int32)), (.int (32 : Int32)), (.int (116 : Int32)), (.int (111 : Int32)), (.int (114 : Int32)), (.int (110 : Int32)), (.int (32 : Int32)), (.int (116 : Int32)), (.int (97 : Int32)), (.int (105 : Int32)), (.int (nar .char (108 : Int32))), (.int (0 : Int32)), (.int (0 : Int32)), (.int (0 : Int32)), (.int (0 : Int32))] (.int (0 : Int32)) := V106
  have N106 := Fr.snoc X106 N101 g_b2
  rw [(show nar .char (108 : Int32) = (108 : Int32) by decide)] at V106
  refine own_dup (pc' := 378) X106 hx (hb hby at_377) rfl rfl ?_
  refine own_bipush (pc' := 380) X106 hx (17 : Int32) (hb hby at_378) rfl rfl ?_
  refine own_aload (pc' := 382) X106 hx (hb hby at_380) rfl rfl rfl ?_
  refine own_bipush (pc' := 384) X106 hx (17 : Int32) (hb hby at_382) rfl rfl ?_
  have f108 := (f102.wr W106)
  have f109 := (f103.other W106 (Or.inl ne_t_b2))
  have f110 := (f104.other W106 (Or.inl ne_t_b2))
  have f111 := (f105.other W106 ne_tb_b2)
  refine own_callV (pc' := 387) (W := 5) (y := (⟨"java/lang/String", "charAt", "(I)C"⟩ : MethodName)) (z := (⟨"java/lang/String", "charAt", "(I)C"⟩ : MethodName)) X106 hx hZ hown (own_w hw 219 rfl) (own_w hw 220 rfl) (notFace_of_selects (args := #[]) (mvT hZ (own_w hw 222 rfl))) (own_w hw 222 rfl) (own_w hw 221 rfl) (own_w hw 2 rfl) (own_w hw 223 rfl) (by decide) f108 (con_charAt l Z a0 hw t (17 : Int32) _ n0 z106 G1 fm hG o106 tb ktb cn _ f108 f109 f110 f111 (32 : Int32) ⟨by decide, by rw [Int32.lt_iff_toInt_lt]; show (17 : Int) < _; omega⟩ (by rw [hus]; rfl)) e106 pd32 [(.int (17 : Int32))] [(.int (17 : Int32)), (.ref b2), (.ref b2), (.ref b1), (.ref b1)] rfl rfl rfl (Nat.le_of_eq rfl) (by decide) (by decide) (by rw [hml]; rfl) (hb hby at_384) (by decide) (by decide) rfl ?_
  intro v107 T107 L107 X107 q107
  obtain ⟨r107, rfl, hr107, rfl, e107⟩ := q107
  have M107 := Fr.nil n0
  have N107 := Fr.app N106 M107
  obtain rfl : r107 = (32 : Int32) := by rw [hr107]; decide
  show own_WP _ _ _ _ _ _ _ (T107.setTop (mkF m 387 #[.val (.long xl), .second, .val (.int ci), .val (.int c0), .val (.int c1), .val (.int c2), .val (.int nn), .val (.ref seg), .val (.ref t), .val (.int r9), .val (.int ng), .val (.int dd), .unset, .unset, .unset, .unset, .unset, .unset, .unset, .unset] [(.int (32 : Int32)), (.int (17 : Int32)), (.ref b2), (.ref b2), (.ref b1), (.ref b1)]))
  refine own_castore (pc' := 388) X107 hx hZ e107 V106 ⟨by decide, by decide⟩ 17 rfl (Nat.le_of_ble_eq_true rfl) (hb hby at_387) rfl ?_
  intro T112 h112 X112 e112 W112 V112
  have o112 : own_Old Z n0 h112 := o106.wr W112 g_b2
  have H112 := CHv.wr W112 S106_b2 H106
  have S112_b1 := Safe.wr (x := b1) W112 S106_b2 H106 S106_b1
  have S112_b2 := Safe.wr (x := b2) W112 S106_b2 H106 S106_b2
  have kz112 := Nat.le_trans kz106 (Keep.of_wr W112).1
  have z112 : n0 ≤ h112.size := Nat.le_trans z106 (Keep.of_wr W112).1
  have V112 : Arv Z h112 b2 k2 .char (21 : Int32) [(.int (114 : Int32)), (.int (101 : Int32)), (.int (109 : Int32)), (.int (111 : Int32)), (.int (118 : Int32)), (.int (101 : Int32)), (.int (100 : Int32)), (.int (32 : Int32)), (.int (116 : Int32)), (.int (111 : Int32)), (.int (114 : Int32)), (.int (110 : Int32)), (.int (32 : Int32)), (.int (116 : Int32)), (.int (97 : Int32)), (.int (105 : Int32)), (.int (108 : Int32)), (.int (nar .char (32 : Int32))), (.int (0 : Int32)), (.int (0 : Int32)), (.int (0 : Int32))] (.int (0 : Int32)) := V112
  have N112 := Fr.snoc X112 N107 g_b2
  rw [(show nar .char (32 : Int32) = (32 : Int32) by decide)] at V112
  refine own_dup (pc' := 389) X112 hx (hb hby at_388) rfl rfl ?_
  refine own_bipush (pc' := 391) X112 hx (18 : Int32) (hb hby at_389) rfl rfl ?_
  refine own_aload (pc' := 393) X112 hx (hb hby at_391) rfl rfl rfl ?_
  refine own_bipush (pc' := 395) X112 hx (18 : Int32) (hb hby at_393) rfl rfl ?_
  have f114 := (f108.wr W112)
  have f115 := (f109.other W112 (Or.inl ne_t_b2))
  have f116 := (f110.other W112 (Or.inl ne_t_b2))
  have f117 := (f111.other W112 ne_tb_b2)
  refine own_callV (pc' := 398) (W := 5) (y := (⟨"java/lang/String", "charAt", "(I)C"⟩ : MethodName)) (z := (⟨"java/lang/String", "charAt", "(I)C"⟩ : MethodName)) X112 hx hZ hown (own_w hw 219 rfl) (own_w hw 220 rfl) (notFace_of_selects (args := #[]) (mvT hZ (own_w hw 222 rfl))) (own_w hw 222 rfl) (own_w hw 221 rfl) (own_w hw 2 rfl) (own_w hw 223 rfl) (by decide) f114 (con_charAt l Z a0 hw t (18 : Int32) _ n0 z112 G1 fm hG o112 tb ktb cn _ f114 f115 f116 f117 (111 : Int32) ⟨by decide, by rw [Int32.lt_iff_toInt_lt]; show (18 : Int) < _; omega⟩ (by rw [hus]; rfl)) e112 pd32 [(.int (18 : Int32))] [(.int (18 : Int32)), (.ref b2), (.ref b2), (.ref b1), (.ref b1)] rfl rfl rfl (Nat.le_of_eq rfl) (by decide) (by decide) (by rw [hml]; rfl) (hb hby at_395) (by decide) (by decide) rfl ?_
  intro v113 T113 L113 X113 q113
  obtain ⟨r113, rfl, hr113, rfl, e113⟩ := q113
  have M113 := Fr.nil n0
  have N113 := Fr.app N112 M113
  obtain rfl : r113 = (111 : Int32) := by rw [hr113]; decide
  show own_WP _ _ _ _ _ _ _ (T113.setTop (mkF m 398 #[.val (.long xl), .second, .val (.int ci), .val (.int c0), .val (.int c1), .val (.int c2), .val (.int nn), .val (.ref seg), .val (.ref t), .val (.int r9), .val (.int ng), .val (.int dd), .unset, .unset, .unset, .unset, .unset, .unset, .unset, .unset] [(.int (111 : Int32)), (.int (18 : Int32)), (.ref b2), (.ref b2), (.ref b1), (.ref b1)]))
  refine own_castore (pc' := 399) X113 hx hZ e113 V112 ⟨by decide, by decide⟩ 18 rfl (Nat.le_of_ble_eq_true rfl) (hb hby at_398) rfl ?_
  intro T118 h118 X118 e118 W118 V118
  have o118 : own_Old Z n0 h118 := o112.wr W118 g_b2
  have H118 := CHv.wr W118 S112_b2 H112
  have S118_b1 := Safe.wr (x := b1) W118 S112_b2 H112 S112_b1
  have S118_b2 := Safe.wr (x := b2) W118 S112_b2 H112 S112_b2
  have kz118 := Nat.le_trans kz112 (Keep.of_wr W118).1
  have z118 : n0 ≤ h118.size := Nat.le_trans z112 (Keep.of_wr W118).1
  have V118 : Arv Z h118 b2 k2 .char (21 : Int32) [(.int (114 : Int32)), (.int (101 : Int32)), (.int (109 : Int32)), (.int (111 : Int32)), (.int (118 : Int32)), (.int (101 : Int32)), (.int (100 : Int32)), (.int (32 : Int32)), (.int (116 : Int32)), (.int (111 : Int32)), (.int (114 : Int32)), (.int (110 : Int32)), (.int (32 : Int32)), (.int (116 : Int32)), (.int (97 : Int32)), (.int (105 : Int32)), (.int (108 : Int32)), (.int (32 : Int32)), (.int (nar .char (111 : Int32))), (.int (0 : Int32)), (.int (0 : Int32))] (.int (0 : Int32)) := V118
  have N118 := Fr.snoc X118 N113 g_b2
  rw [(show nar .char (111 : Int32) = (111 : Int32) by decide)] at V118
  refine own_dup (pc' := 400) X118 hx (hb hby at_399) rfl rfl ?_
  refine own_bipush (pc' := 402) X118 hx (19 : Int32) (hb hby at_400) rfl rfl ?_
  refine own_aload (pc' := 404) X118 hx (hb hby at_402) rfl rfl rfl ?_
  refine own_bipush (pc' := 406) X118 hx (19 : Int32) (hb hby at_404) rfl rfl ?_
  have f120 := (f114.wr W118)
  have f121 := (f115.other W118 (Or.inl ne_t_b2))
  have f122 := (f116.other W118 (Or.inl ne_t_b2))
  have f123 := (f117.other W118 ne_tb_b2)
  refine own_callV (pc' := 409) (W := 5) (y := (⟨"java/lang/String", "charAt", "(I)C"⟩ : MethodName)) (z := (⟨"java/lang/String", "charAt", "(I)C"⟩ : MethodName)) X118 hx hZ hown (own_w hw 219 rfl) (own_w hw 220 rfl) (notFace_of_selects (args := #[]) (mvT hZ (own_w hw 222 rfl))) (own_w hw 222 rfl) (own_w hw 221 rfl) (own_w hw 2 rfl) (own_w hw 223 rfl) (by decide) f120 (con_charAt l Z a0 hw t (19 : Int32) _ n0 z118 G1 fm hG o118 tb ktb cn _ f120 f121 f122 f123 (102 : Int32) ⟨by decide, by rw [Int32.lt_iff_toInt_lt]; show (19 : Int) < _; omega⟩ (by rw [hus]; rfl)) e118 pd32 [(.int (19 : Int32))] [(.int (19 : Int32)), (.ref b2), (.ref b2), (.ref b1), (.ref b1)] rfl rfl rfl (Nat.le_of_eq rfl) (by decide) (by decide) (by rw [hml]; rfl) (hb hby at_406) (by decide) (by decide) rfl ?_
  intro v119 T119 L119 X119 q119
  obtain ⟨r119, rfl, hr119, rfl, e119⟩ := q119
  have M119 := Fr.nil n0
  have N119 := Fr.app N118 M119
  obtain rfl : r119 = (102 : Int32) := by rw [hr119]; decide
  show own_WP _ _ _ _ _ _ _ (T119.setTop (mkF m 409 #[.val (.long xl), .second, .val (.int ci), .val (.int c0), .val (.int c1), .val (.int c2), .val (.int nn), .val (.ref seg), .val (.ref t), .val (.int r9), .val (.int ng), .val (.int dd), .unset, .unset, .unset, .unset, .unset, .unset, .unset, .unset] [(.int (102 : Int32)), (.int (19 : Int32)), (.ref b2), (.ref b2), (.ref b1), (.ref b1)]))
  refine own_castore (pc' := 410) X119 hx hZ e119 V118 ⟨by decide, by decide⟩ 19 rfl (Nat.le_of_ble_eq_true rfl) (hb hby at_409) rfl ?_
  intro T124 h124 X124 e124 W124 V124
  have o124 : own_Old Z n0 h124 := o118.wr W124 g_b2
  have H124 := CHv.wr W124 S118_b2 H118
  have S124_b1 := Safe.wr (x := b1) W124 S118_b2 H118 S118_b1
  have S124_b2 := Safe.wr (x := b2) W124 S118_b2 H118 S118_b2
  have kz124 := Nat.le_trans kz118 (Keep.of_wr W124).1
  have z124 : n0 ≤ h124.size := Nat.le_trans z118 (Keep.of_wr W124).1
  have V124 : Arv Z h124 b2 k2 .char (21 : Int32) [(.int (114 : Int32)), (.int (101 : Int32)), (.int (109 : Int32)), (.int (111 : Int32)), (.int (118 : Int32)), (.int (101 : Int32)), (.int (100 : Int32)), (.int (32 : Int32)), (.int (116 : Int32)), (.int (111 : Int32)), (.int (114 : Int32)), (.int (110 : Int32)), (.int (32 : Int32)), (.int (116 : Int32)), (.int (97 : Int32)), (.int (105 : Int32)), (.int (108 : Int32)), (.int (32 : Int32)), (.int (111 : Int32)), (.int (nar .char (102 : Int32))), (.int (0 : Int32))] (.int (0 : Int32)) := V124
  have N124 := Fr.snoc X124 N119 g_b2
  rw [(show nar .char (102 : Int32) = (102 : Int32) by decide)] at V124
  refine own_dup (pc' := 411) X124 hx (hb hby at_410) rfl rfl ?_
  refine own_bipush (pc' := 413) X124 hx (20 : Int32) (hb hby at_411) rfl rfl ?_
  refine own_aload (pc' := 415) X124 hx (hb hby at_413) rfl rfl rfl ?_
  refine own_bipush (pc' := 417) X124 hx (20 : Int32) (hb hby at_415) rfl rfl ?_
  have f126 := (f120.wr W124)
  have f127 := (f121.other W124 (Or.inl ne_t_b2))
  have f128 := (f122.other W124 (Or.inl ne_t_b2))
  have f129 := (f123.other W124 ne_tb_b2)
  refine own_callV (pc' := 420) (W := 5) (y := (⟨"java/lang/String", "charAt", "(I)C"⟩ : MethodName)) (z := (⟨"java/lang/String", "charAt", "(I)C"⟩ : MethodName)) X124 hx hZ hown (own_w hw 219 rfl) (own_w hw 220 rfl) (notFace_of_selects (args := #[]) (mvT hZ (own_w hw 222 rfl))) (own_w hw 222 rfl) (own_w hw 221 rfl) (own_w hw 2 rfl) (own_w hw 223 rfl) (by decide) f126 (con_charAt l Z a0 hw t (20 : Int32) _ n0 z124 G1 fm hG o124 tb ktb cn _ f126 f127 f128 f129 (32 : Int32) ⟨by decide, by rw [Int32.lt_iff_toInt_lt]; show (20 : Int) < _; omega⟩ (by rw [hus]; rfl)) e124 pd32 [(.int (20 : Int32))] [(.int (20 : Int32)), (.ref b2), (.ref b2), (.ref b1), (.ref b1)] rfl rfl rfl (Nat.le_of_eq rfl) (by decide) (by decide) (by rw [hml]; rfl) (hb hby at_417) (by decide) (by decide) rfl ?_
  intro v125 T125 L125 X125 q125
  obtain ⟨r125, rfl, hr125, rfl, e125⟩ := q125
  have M125 := Fr.nil n0
  have N125 := Fr.app N124 M125
  obtain rfl : r125 = (32 : Int32) := by rw [hr125]; decide
  show own_WP _ _ _ _ _ _ _ (T125.setTop (mkF m 420 #[.val (.long xl), .second, .val (.int ci), .val (.int c0), .val (.int c1), .val (.int c2), .val (.int nn), .val (.ref seg), .val (.ref t), .val (.int r9), .val (.int ng), .val (.int dd), .unset, .unset, .unset, .unset, .unset, .unset, .unset, .unset] [(.int (32 : Int32)), (.int (20 : Int32)), (.ref b2), (.ref b2), (.ref b1), (.ref b1)]))
  refine own_castore (pc' := 421) X125 hx hZ e125 V124 ⟨by decide, by decide⟩ 20 rfl (Nat.le_of_ble_eq_true rfl) (hb hby at_420) rfl ?_
  intro T130 h130 X130 e130 W130 V130
  have o130 : own_Old Z n0 h130 := o124.wr W130 g_b2
  have H130 := CHv.wr W130 S124_b2 H124
  have S130_b1 := Safe.wr (x := b1) W130 S124_b2 H124 S124_b1
  have kz130 := Nat.le_trans kz124 (Keep.of_wr W130).1
  have z130 : n0 ≤ h130.size := Nat.le_trans z124 (Keep.of_wr W130).1
  have V130 : Arv Z h130 b2 k2 .char (21 : Int32) [(.int (114 : Int32)), (.int (101 : Int32)), (.int (109 : Int32)), (.int (111 : Int32)), (.int (118 : Int32)), (.int (101 : Int32)), (.int (100 : Int32)), (.int (32 : Int32)), (.int (116 : Int32)), (.int (111 : Int32)), (.int (114 : Int32)), (.int (110 : Int32)), (.int (32 : Int32)), (.int (116 : Int32)), (.int (97 : Int32)), (.int (105 : Int32)), (.int (108 : Int32)), (.int (32 : Int32)), (.int (111 : Int32)), (.int (102 : Int32)), (.int (nar .char (32 : Int32)))] (.int (0 : Int32)) := V130
  have N130 := Fr.snoc X130 N125 g_b2
  rw [(show nar .char (32 : Int32) = (32 : Int32) by decide)] at V130
  have f132 := ((((((((((((((((((((((A1.ext E2).wr W10).wr W16).wr W22).wr W28).wr W34).wr W40).wr W46).wr W52).wr W58).wr W64).wr W70).wr W76).wr W82).wr W88).wr W94).wr W100).wr W106).wr W112).wr W118).wr W124).wr W130)
  have f133 := ((((((((((((((((((((((F1_coder.ext E2).other W10 (Or.inl ne_b1_b2)).other W16 (Or.inl ne_b1_b2)).other W22 (Or.inl ne_b1_b2)).other W28 (Or.inl ne_b1_b2)).other W34 (Or.inl ne_b1_b2)).other W40 (Or.inl ne_b1_b2)).other W46 (Or.inl ne_b1_b2)).other W52 (Or.inl ne_b1_b2)).other W58 (Or.inl ne_b1_b2)).other W64 (Or.inl ne_b1_b2)).other W70 (Or.inl ne_b1_b2)).other W76 (Or.inl ne_b1_b2)).other W82 (Or.inl ne_b1_b2)).other W88 (Or.inl ne_b1_b2)).other W94 (Or.inl ne_b1_b2)).other W100 (Or.inl ne_b1_b2)).other W106 (Or.inl ne_b1_b2)).other W112 (Or.inl ne_b1_b2)).other W118 (Or.inl ne_b1_b2)).other W124 (Or.inl ne_b1_b2)).other W130 (Or.inl ne_b1_b2))
  have f134 := ((((((((((((((((((((((F1_value.ext E2).other W10 (Or.inl ne_b1_b2)).other W16 (Or.inl ne_b1_b2)).other W22 (Or.inl ne_b1_b2)).other W28 (Or.inl ne_b1_b2)).other W34 (Or.inl ne_b1_b2)).other W40 (Or.inl ne_b1_b2)).other W46 (Or.inl ne_b1_b2)).other W52 (Or.inl ne_b1_b2)).other W58 (Or.inl ne_b1_b2)).other W64 (Or.inl ne_b1_b2)).other W70 (Or.inl ne_b1_b2)).other W76 (Or.inl ne_b1_b2)).other W82 (Or.inl ne_b1_b2)).other W88 (Or.inl ne_b1_b2)).other W94 (Or.inl ne_b1_b2)).other W100 (Or.inl ne_b1_b2)).other W106 (Or.inl ne_b1_b2)).other W112 (Or.inl ne_b1_b2)).other W118 (Or.inl ne_b1_b2)).other W124 (Or.inl ne_b1_b2)).other W130 (Or.inl ne_b1_b2))
  refine own_callN (pc' := 424) (W := 1) (y := (⟨"java/lang/String", "<init>", "([C)V"⟩ : MethodName)) X130 hx hZ rfl hown (own_w hw 4 rfl) (own_w hw 5 rfl) (own_w hw 2 rfl) (own_w hw 6 rfl) (by decide) (con_n1 l Z a0 hw b1 b2  _ n0 z130 G1 fm hG o130 _ (21 : Int32) [(114 : Int32), (101 : Int32), (109 : Int32), (111 : Int32), (118 : Int32), (101 : Int32), (100 : Int32), (32 : Int32), (116 : Int32), (111 : Int32), (114 : Int32), (110 : Int32), (32 : Int32), (116 : Int32), (97 : Int32), (105 : Int32), (108 : Int32), (32 : Int32), (111 : Int32), (102 : Int32), (32 : Int32)] V130 rfl ⟨by decide, by decide⟩ (by decide) _ _ f132 f133 f134 g_b1 ne_b1_b2 ne_b2_b1) e130 pd38 b1 [(.ref b2)] [(.ref b1)] rfl rfl rfl (Nat.le_of_eq rfl) (by decide) (by decide) (by rw [hml]; rfl) (hb hby at_421) (by decide) (by decide) rfl ?_
  intro v131 T131 L131 X131 q131
  obtain ⟨c131, k131, rfl, M131, K131, s131, E131q, F131a, F131b, V131⟩ := q131
  have f135 := (f126.wr W130)
  have f136 := (f129.other W130 ne_tb_b2)
  obtain ⟨h131, e131⟩ : ∃ z, z = T131.heap := ⟨_, rfl⟩
  rw [← e131] at K131 E131q F131a F131b V131
  have e131 := e131.symm
  have o131 : own_Old Z n0 h131 := o130.keep K131 (allS g_b1 all0)
  have H131 := CHv.keep K131 (allS S130_b1 all0) H130
  have kz131 := Nat.le_trans kz130 K131.1
  have z131 : n0 ≤ h131.size := Nat.le_trans z130 K131.1
  have N131 := Fr.app N130 M131
  show own_WP _ _ _ _ _ _ _ (T131.setTop (mkF m 424 #[.val (.long xl), .second, .val (.int ci), .val (.int c0), .val (.int c1), .val (.int c2), .val (.int nn), .val (.ref seg), .val (.ref t), .val (.int r9), .val (.int ng), .val (.int dd), .unset, .unset, .unset, .unset, .unset, .unset, .unset, .unset] [(.ref b1)]))
  have Vb137 := V131
  rw [own_bsE (by decide)] at Vb137
  refine own_ldcH (pc' := 426) (nn := 84) (z := (21 : Int32)) (vs := [.int (114 : Int32), .int (101 : Int32), .int (109 : Int32), .int (111 : Int32), .int (118 : Int32), .int (101 : Int32), .int (100 : Int32), .int (32 : Int32), .int (116 : Int32), .int (111 : Int32), .int (114 : Int32), .int (110 : Int32), .int (32 : Int32), .int (116 : Int32), .int (97 : Int32), .int (105 : Int32), .int (108 : Int32), .int (32 : Int32), .int (111 : Int32), .int (102 : Int32), .int (32 : Int32)]) X131 hx hZ hown (own_w hw 251 rfl) hwS e131 hS kz131 hEL (by decide +kernel) H131 ⟨by decide +kernel, by decide +kernel⟩ (by decide) rfl (hb hby at_424) (by decide +kernel) (by decide) (by decide) (by decide) rfl ?_
  intro la138 T138 h138 kq138 lb138 lk138 X138 e138 E138 hS kz138 hZ hown Eq138 Fc138 Fv138 V138 CR138 Lt138 sf138
  have H138 := CR138.1
  have o138 : own_Old Z n0 h138 := o131.ext E138
  have z138 : n0 ≤ h138.size := Nat.le_trans z131 E138.1
  show own_WP _ _ _ _ _ _ _ (T138.setTop (mkF m 426 #[.val (.long xl), .second, .val (.int ci), .val (.int c0), .val (.int c1), .val (.int c2), .val (.int nn), .val (.ref seg), .val (.ref t), .val (.int r9), .val (.int ng), .val (.int dd), .unset, .unset, .unset, .unset, .unset, .unset, .unset, .unset] [(.ref la138), (.ref b1)]))
  have f140 := (E131q.ext E138)
  have f141 := (F131a.ext E138)
  have f142 := (F131b.ext E138)
  have f143 := (Vb137.ext E138)
  refine own_callV (pc' := 429) (W := 0) (y := (⟨"java/lang/String", "equals", "(Ljava/lang/Object;)Z"⟩ : MethodName)) (z := (⟨"java/lang/String", "equals", "(Ljava/lang/Object;)Z"⟩ : MethodName)) X138 hx hZ hown (own_w hw 252 rfl) (own_w hw 253 rfl) (notFace_of_selects (args := #[]) (mvT hZ (own_w hw 255 rfl))) (own_w hw 255 rfl) (own_w hw 254 rfl) (own_w hw 2 rfl) (own_w hw 256 rfl) (by decide) f140 (con_seq l Z a0 hw b1 la138 _ n0 z138 G1 fm hG o138 c131 k131 (21 : Int32) [(114 : Int32), (101 : Int32), (109 : Int32), (111 : Int32), (118 : Int32), (101 : Int32), (100 : Int32), (32 : Int32), (116 : Int32), (111 : Int32), (114 : Int32), (110 : Int32), (32 : Int32), (116 : Int32), (97 : Int32), (105 : Int32), (108 : Int32), (32 : Int32), (111 : Int32), (102 : Int32), (32 : Int32)] rfl (by decide) f140 f141 f142 f143 lb138 lk138 Eq138 Fc138 Fv138 V138) e138 pd39 [(.ref la138)] [] rfl rfl rfl (Nat.le_of_eq rfl) (by decide) (by decide) (by rw [hml]; rfl) (hb hby at_426) (by decide) (by decide) rfl ?_
  intro v139 T139 L139 X139 q139
  obtain ⟨r139, rfl, hr139, rfl, e139⟩ := q139
  subst hr139
  have M139 := Fr.nil n0
  have N139 := Fr.app N131 M139
  show own_WP _ _ _ _ _ _ _ (T139.setTop (mkF m 429 #[.val (.long xl), .second, .val (.int ci), .val (.int c0), .val (.int c1), .val (.int c2), .val (.int nn), .val (.ref seg), .val (.ref t), .val (.int r9), .val (.int ng), .val (.int dd), .unset, .unset, .unset, .unset, .unset, .unset, .unset, .unset] [(.int (1 : Int32))]))
  refine own_istore (pc' := 431) (l' := #[.val (.long xl), .second, .val (.int ci), .val (.int c0), .val (.int c1), .val (.int c2), .val (.int nn), .val (.ref seg), .val (.ref t), .val (.int r9), .val (.int ng), .val (.int dd), .val (.int (1 : Int32)), .unset, .unset, .unset, .unset, .unset, .unset, .unset]) X139 hx (hb hby at_429) rfl rfl rfl ?_
  have f144 := ((f135.keep K131).ext E138)
  have f145 := (((f127.other W130 (Or.inl ne_t_b2)).keep K131 (ninS ne_t_b1 nin0)).ext E138)
  have f146 := (((f128.other W130 (Or.inl ne_t_b2)).keep K131 (ninS ne_t_b1 nin0)).ext E138)
  have f147 := ((f136.keep K131 (ninS ne_tb_b1 nin0)).ext E138)
  exact lawC hw hx hby hml hret hlk G1 fm hG hEL n0 _ _ _ _ _ hown hZ hS kz138 (X139.more (by decide) (by decide)) e139 N139 o138 z138 H138 xl ci c0 c1 c2 nn seg t tb ktb cn us f144 f145 f146 f147 ws kk ng hkk hngx hcn hus hrw hch0 hch1 hch2 r9 dd h9 hdd
set_option maxRecDepth 65536 in
set_option maxHeartbeats 8000000 in
theorem lawA {p : Program} {l : Launch} {e : Env} {s : State} {m : MethodId} {args : Array Value} {below : List Frame} {meth : Method} {c : Code} {Z : State} {a0 : Array Value} (hw : ∀ d ∈ tables_1, d.before a0 Z = true) (hx : p.tables.exec = Jvm.exec) (hby : c.code = code) (hml : c.maxLocals = 20) (hret : meth.sig.returnType = some .boolean) (hlk : meth.locks = false) (G1 : Int32) (fm : Value) (hG : own_G Z G1 fm) (hEL : EW Z a0 consts_1) (n0 : Nat) (vm0 : Vm) (k0 : Nat) (T0 : State) (hh : Heap) (lc : List Loc) (hown : vm0.findClass "com/example/ossify/ossify/TornTailDescribePinLaw" = some m.cls) (hZ : Z.Warmed39 vm0) (hS : s.Since vm0 k0) (kz0 : k0 ≤ hh.size) (X0 : Stand p l e ({ frames := 10, cells := 96, slots := 8576, locals := 224 } : Room) (s.setVm vm0) m args below meth c T0 lc 30 2500) (e0 : T0.heap = hh) (N0 : Fr n0 lc) (O0 : own_Old Z n0 hh) (z0 : n0 ≤ hh.size) (H0 : CHv Z consts_1 vm0 hh) (xl : Int64) (ci c0 c1 c2 nn : Int32) (seg t : Addr) (tb : Addr) (ktb : ClassId) (cn : Int32) (us : List Value) (hE : Exa Z hh t "java/lang/String") (hC : Fld Z hh t "java/lang/String" "coder" "B" (.int (0 : Int32))) (hV : Fld Z hh t "java/lang/String" "value" "[B" (.ref tb)) (hA : Arv Z hh tb ktb .byte cn us (.int (0 : Int32))) (ws : List Value) (kk : Nat) (ng : Int32) (hkk : own_dgs xl.toInt.natAbs kk) (hngx : (xl.toInt < 0 ∧ ng = 1) ∨ (¬ xl.toInt < 0 ∧ ng = 0)) (hcn : cn.toInt = 42 + (kk : Int) + ng.toInt + nn.toInt) (hus : us = [.int (114 : Int32), .int (101 : Int32), .int (109 : Int32), .int (111 : Int32), .int (118 : Int32), .int (101 : Int32), .int (100 : Int32), .int (32 : Int32), .int (116 : Int32), .int (111 : Int32), .int (114 : Int32), .int (110 : Int32), .int (32 : Int32), .int (116 : Int32), .int (97 : Int32), .int (105 : Int32), .int (108 : Int32), .int (32 : Int32), .int (111 : Int32), .int (102 : Int32), .int (32 : Int32)] ++ (own_num xl.toInt.natAbs kk ng ++ ([.int (32 : Int32), .int (98 : Int32), .int (121 : Int32), .int (116 : Int32), .int (101 : Int32), .int (115 : Int32), .int (32 : Int32), .int (102 : Int32), .int (114 : Int32), .int (111 : Int32), .int (109 : Int32), .int (32 : Int32)] ++ ([.int (115 : Int32), .int (101 : Int32), .int (103 : Int32), .int (109 : Int32), .int (101 : Int32), .int (110 : Int32), .int (116 : Int32), .int (115 : Int32)] ++ ([.int (47 : Int32)] ++ ws))))) (hrw : (nn = 0 ∧ ws = []) ∨ (nn = 1 ∧ ws = [.int (own_by c0)]) ∨ (nn = 2 ∧ ws = [.int (own_by c0), .int (own_by c1)]) ∨ (nn = 3 ∧ ws = [.int (own_by c0), .int (own_by c1), .int (own_by c2)])) (hch0 : own_ch (own_by c0) = c0) (hch1 : own_ch (own_by c1) = c1) (hch2 : own_ch (own_by c2) = c2) :
    own_WP p e below (ReturnedEndW s) (fun v h L => v = some (.int 1) ∧ Fr n0 L) 96 8576 (T0.setTop (mkF m 143 #[.val (.long xl), .second, .val (.int ci), .val (.int c0), .val (.int c1), .val (.int c2), .val (.int nn), .val (.ref seg), .val (.ref t), .unset, .unset, .unset, .unset, .unset, .unset, .unset, .unset, .unset, .unset, .unset] [])) := by
  have hwS := own_wS hw
  have hng : ng = 0 ∨ ng = 1 := hngx.elim (fun q => Or.inr q.2) (fun q => Or.inl q.2)
  have hngt : ng.toInt = 0 ∨ ng.toInt = 1 := hng.elim (fun q => Or.inl (by rw [q]; rfl)) (fun q => Or.inr (by rw [q]; rfl))
  have hk19 := own_dgs_le hkk (by have := rng64 xl; omega)
  have hk1 := hkk.1
  have hnnn : 0 ≤ nn.toInt ∧ nn.toInt ≤ 3 ∧ (ws.length : Int) = nn.toInt := by rcases hrw with ⟨q1, q2⟩ | ⟨q1, q2⟩ | ⟨q1, q2⟩ | ⟨q1, q2⟩ <;> rw [q1, q2] <;> exact ⟨by decide, by decide, rfl⟩
  refine own_aload (pc' := 145) X0 hx (hb hby at_143) rfl rfl rfl ?_
  refine own_nnY (pc' := 150) X0 hx (hb hby at_145) (by decide) rfl ?_
  refine own_lloadN (pc' := 151) X0 hx (hb hby at_150) rfl rfl ?_
  refine own_callS (pc' := 154) (W := 0) (y := (⟨"com/example/ossify/ossify/TornTailDescribePinLaw", "digitCount", "(J)I"⟩ : MethodName)) X0 hx hZ hown (own_w hw 196 rfl) (own_w hw 197 rfl) (own_w hw 198 rfl) (own_w hw 199 rfl) (by decide) (con_dc l Z a0 hw xl _ kk hkk) e0 pd18 [(.long xl)] [] rfl rfl rfl (Nat.le_of_eq rfl) (by decide) (by decide) (by rw [hml]; rfl) (hb hby at_151) (by decide) (by decide) rfl ?_
  intro v1 T1 L1 X1 q1
  obtain ⟨r1, rfl, hr1, rfl, e1⟩ := q1
  have M1 := Fr.nil n0
  have N1 := Fr.app N0 M1
  show own_WP _ _ _ _ _ _ _ (T1.setTop (mkF m 154 #[.val (.long xl), .second, .val (.int ci), .val (.int c0), .val (.int c1), .val (.int c2), .val (.int nn), .val (.ref seg), .val (.ref t), .unset, .unset, .unset, .unset, .unset, .unset, .unset, .unset, .unset, .unset, .unset] [(.int r1)]))
  refine own_istore (pc' := 156) (l' := #[.val (.long xl), .second, .val (.int ci), .val (.int c0), .val (.int c1), .val (.int c2), .val (.int nn), .val (.ref seg), .val (.ref t), .val (.int r1), .unset, .unset, .unset, .unset, .unset, .unset, .unset, .unset, .unset, .unset]) X1 hx (hb hby at_154) rfl rfl rfl ?_
  refine own_join (fun sg0 : Int32 => sg0 = ng) (fun sg0 => T1.setTop (mkF m 167 #[.val (.long xl), .second, .val (.int ci), .val (.int c0), .val (.int c1), .val (.int c2), .val (.int nn), .val (.ref seg), .val (.ref t), .val (.int r1), .unset, .unset, .unset, .unset, .unset, .unset, .unset, .unset, .unset, .unset] [(.int sg0)])) (fun J167 => ?_) (fun sg0 hsg0 => ?_)
  · skip
    refine own_lloadN (pc' := 157) X1 hx (hb hby at_156) rfl rfl ?_
    refine own_lconst0 (pc' := 158) X1 hx (hb hby at_157) rfl ?_
    refine own_lcmp (pc' := 159) X1 hx (hb hby at_158) rfl ?_
    refine own_ifl_ge (pt := 166) (pf := 162) X1 hx (hb hby at_159) rfl (by decide) rfl (fun hc159 => ?_) (fun hc159 => ?_)
    · skip
      refine own_iconst (pc' := 167) X1 hx (0 : Int32) (hb hby at_166) rfl rfl ?_
      exact J167 (0 : Int32) (by have q := hc159; rw [Int64.lt_iff_toInt_lt] at q; have q : ¬ xl.toInt < 0 := q; exact hngx.elim (fun r => absurd r.1 q) (fun r => r.2.symm))
    · skip
      refine own_iconst (pc' := 163) X1 hx (1 : Int32) (hb hby at_162) rfl rfl ?_
      refine own_goto (pc' := 167) X1 hx (hb hby at_163) (by decide) rfl ?_
      exact J167 (1 : Int32) (by have q := hc159; rw [Int64.lt_iff_toInt_lt] at q; have q : xl.toInt < 0 := q; exact hngx.elim (fun r => r.2.symm) (fun r => absurd q r.1))
  · skip
    show own_WP _ _ _ _ _ _ _ (T1.setTop (mkF m 167 #[.val (.long xl), .second, .val (.int ci), .val (.int c0), .val (.int c1), .val (.int c2), .val (.int nn), .val (.ref seg), .val (.ref t), .val (.int r1), .unset, .unset, .unset, .unset, .unset, .unset, .unset, .unset, .unset, .unset] [(.int sg0)]))
    rw [hsg0]
    show own_WP _ _ _ _ _ _ _ (T1.setTop (mkF m 167 #[.val (.long xl), .second, .val (.int ci), .val (.int c0), .val (.int c1), .val (.int c2), .val (.int nn), .val (.ref seg), .val (.ref t), .val (.int r1), .unset, .unset, .unset, .unset, .unset, .unset, .unset, .unset, .unset, .unset] [(.int ng)]))
    refine own_istore (pc' := 169) (l' := #[.val (.long xl), .second, .val (.int ci), .val (.int c0), .val (.int c1), .val (.int c2), .val (.int nn), .val (.ref seg), .val (.ref t), .val (.int r1), .val (.int ng), .unset, .unset, .unset, .unset, .unset, .unset, .unset, .unset, .unset]) X1 hx (hb hby at_167) rfl rfl rfl ?_
    refine own_iload (pc' := 171) X1 hx (hb hby at_169) rfl rfl ?_
    refine own_iload (pc' := 173) X1 hx (hb hby at_171) rfl rfl ?_
    refine own_iadd (pc' := 174) X1 hx (hb hby at_173) rfl ?_
    obtain ⟨v2, hv2⟩ : ∃ z : Int32, z = (r1 + ng) := ⟨_, rfl⟩
    refine own_istore (pc' := 176) (l' := #[.val (.long xl), .second, .val (.int ci), .val (.int c0), .val (.int c1), .val (.int c2), .val (.int nn), .val (.ref seg), .val (.ref t), .val (.int r1), .val (.int ng), .val (.int v2), .unset, .unset, .unset, .unset, .unset, .unset, .unset, .unset]) X1 hx (hb hby at_174) hv2 rfl rfl ?_
    have hdd : v2.toInt = (kk : Int) + ng.toInt := by rw [own_add hv2 (by omega) (by omega)]; omega
    refine own_aload (pc' := 178) X1 hx (hb hby at_176) rfl rfl rfl ?_
    refine own_callV (pc' := 181) (W := 0) (y := (⟨"java/lang/String", "length", "()I"⟩ : MethodName)) (z := (⟨"java/lang/String", "length", "()I"⟩ : MethodName)) X1 hx hZ hown (own_w hw 218 rfl) (own_w hw 73 rfl) (notFace_of_selects (args := #[]) (mvT hZ (own_w hw 75 rfl))) (own_w hw 75 rfl) (own_w hw 74 rfl) (own_w hw 2 rfl) (own_w hw 76 rfl) (by decide) hE (con_length l Z a0 hw t _ n0 z0 G1 fm hG O0 tb ktb cn _ hE hC hV hA) e1 pd14 [] [] rfl rfl rfl (Nat.le_of_eq rfl) (by decide) (by decide) (by rw [hml]; rfl) (hb hby at_178) (by decide) (by decide) rfl ?_
    intro v3 T3 L3 X3 q3
    obtain ⟨r3, rfl, hr3, rfl, e3⟩ := q3
    have hr3 := hr3.symm
    subst hr3
    have M3 := Fr.nil n0
    have N3 := Fr.app N1 M3
    show own_WP _ _ _ _ _ _ _ (T3.setTop (mkF m 181 #[.val (.long xl), .second, .val (.int ci), .val (.int c0), .val (.int c1), .val (.int c2), .val (.int nn), .val (.ref seg), .val (.ref t), .val (.int r1), .val (.int ng), .val (.int v2), .unset, .unset, .unset, .unset, .unset, .unset, .unset, .unset] [(.int cn)]))
    refine own_bipush (pc' := 183) X3 hx (42 : Int32) (hb hby at_181) rfl rfl ?_
    refine own_iload (pc' := 185) X3 hx (hb hby at_183) rfl rfl ?_
    refine own_iadd (pc' := 186) X3 hx (hb hby at_185) rfl ?_
    refine own_iload (pc' := 188) X3 hx (hb hby at_186) rfl rfl ?_
    refine own_iadd (pc' := 189) X3 hx (hb hby at_188) rfl ?_
    refine own_icmp_eq (pt := 194) (pf := 192) X3 hx (hb hby at_189) rfl (by decide) rfl (fun hc189 => ?_) (fun hc189 => absurd (own_len42 (by omega) (by omega) (by omega)) hc189)
    exact lawB hw hx hby hml hret hlk G1 fm hG hEL n0 _ _ _ _ _ hown hZ hS kz0 (X3.more (by decide) (by decide)) e3 N3 O0 z0 H0 xl ci c0 c1 c2 nn seg t tb ktb cn us hE hC hV hA ws kk ng hkk hngx hcn hus hrw hch0 hch1 hch2 r1 v2 hr1 hdd
theorem pd40 : parseMethodDescriptor "(Ljava/lang/String;J)V" = some ⟨[(.object "java/lang/String"), .long], none⟩ := by decide +kernel
set_option maxRecDepth 65536 in
set_option maxHeartbeats 8000000 in
theorem lawM {p : Program} {l : Launch} {e : Env} {s : State} {m : MethodId} {args : Array Value} {below : List Frame} {meth : Method} {c : Code} {Z : State} {a0 : Array Value} (hw : ∀ d ∈ tables_1, d.before a0 Z = true) (hx : p.tables.exec = Jvm.exec) (hby : c.code = code) (hml : c.maxLocals = 20) (hret : meth.sig.returnType = some .boolean) (hlk : meth.locks = false) (G1 : Int32) (fm : Value) (hG : own_G Z G1 fm) (hEL : EW Z a0 consts_1) (n0 : Nat) (vm0 : Vm) (k0 : Nat) (T0 : State) (hh : Heap) (lc : List Loc) (hown : vm0.findClass "com/example/ossify/ossify/TornTailDescribePinLaw" = some m.cls) (hZ : Z.Warmed39 vm0) (hS : s.Since vm0 k0) (kz0 : k0 ≤ hh.size) (X0 : Stand p l e ({ frames := 10, cells := 96, slots := 8576, locals := 224 } : Room) (s.setVm vm0) m args below meth c T0 lc 8 200) (e0 : T0.heap = hh) (N0 : Fr n0 lc) (O0 : own_Old Z n0 hh) (z0 : n0 ≤ hh.size) (H0 : CHv Z consts_1 vm0 hh) (da db : Addr) (ko kt : ClassId) (hD : own_D Z da ko db kt) (xl : Int64) (ci c0 c1 c2 nn : Int32) (seg : Addr) (b8 : Addr) (k8 : ClassId) (z8 : Int32) (ws : List Value) (hE : Exa Z hh seg "java/lang/String") (hC : Fld Z hh seg "java/lang/String" "coder" "B" (.int (0 : Int32))) (hV : Fld Z hh seg "java/lang/String" "value" "[B" (.ref b8)) (hA : Arv Z hh b8 k8 .byte z8 ws (.int (0 : Int32))) (hz8 : z8 = nn) (hrw : (nn = 0 ∧ ws = []) ∨ (nn = 1 ∧ ws = [.int (own_by c0)]) ∨ (nn = 2 ∧ ws = [.int (own_by c0), .int (own_by c1)]) ∨ (nn = 3 ∧ ws = [.int (own_by c0), .int (own_by c1), .int (own_by c2)])) (hch0 : own_ch (own_by c0) = c0) (hch1 : own_ch (own_by c1) = c1) (hch2 : own_ch (own_by c2) = c2) :
    own_WP p e below (ReturnedEndW s) (fun v h L => v = some (.int 1) ∧ Fr n0 L) 96 8576 (T0.setTop (mkF m 128 #[.val (.long xl), .second, .val (.int ci), .val (.int c0), .val (.int c1), .val (.int c2), .val (.int nn), .val (.ref seg), .unset, .unset, .unset, .unset, .unset, .unset, .unset, .unset, .unset, .unset, .unset, .unset] [])) := by
  have hwS := own_wS hw
  subst hz8
  have hzr : 0 ≤ z8.toInt ∧ z8.toInt ≤ 3 := by rcases hrw with ⟨q1, q2⟩ | ⟨q1, q2⟩ | ⟨q1, q2⟩ | ⟨q1, q2⟩ <;> rw [q1] <;> decide
  have hwsl : ws.length = z8.toNatClampNeg := by rcases hrw with ⟨q1, q2⟩ | ⟨q1, q2⟩ | ⟨q1, q2⟩ | ⟨q1, q2⟩ <;> rw [q1, q2] <;> rfl
  refine own_new (pc' := 131) X0 hx hZ hown (own_w hw 22 rfl) (own_w hw 23 rfl) (own_w hw 24 rfl) e0 (hb hby at_128) (by decide) (by decide) rfl ?_
  intro T1 h1 b1 g1 X1 e1 E1 A1 D1
  have ne_b8_b1 : b8 ≠ b1 := Nat.ne_of_lt (Nat.lt_of_lt_of_le hA.lt (Nat.le_of_eq g1.symm))
  have ne_seg_b1 : seg ≠ b1 := Nat.ne_of_lt (Nat.lt_of_lt_of_le hE.lt (Nat.le_of_eq g1.symm))
  have g_b1 : n0 ≤ b1 := Nat.le_trans z0 (Nat.le_of_eq g1.symm)
  have o1 : own_Old Z n0 h1 := O0.ext E1
  have H1 := CHv.ext E1 H0
  have S1_b1 := Safe.ext (x := b1) E1 H0 (Safe.new (Nat.le_of_eq g1.symm))
  have kz1 := Nat.le_trans kz0 E1.1
  have z1 : n0 ≤ h1.size := Nat.le_trans z0 E1.1
  have F1_segment : Fld Z h1 b1 "com/example/ossify/ossify/AppendReport$TornTail" "segment" "Ljava/lang/String;" .null := D1 (Or.inr (own_w hw 35 rfl)) (ty := (.object "java/lang/String")) (by decide +kernel)
  have F1_bytes : Fld Z h1 b1 "com/example/ossify/ossify/AppendReport$TornTail" "bytes" "J" (.long (0 : Int64)) := D1 (Or.inr (own_w hw 37 rfl)) (ty := .long) (by decide)
  refine own_dup (pc' := 132) X1 hx (hb hby at_131) rfl rfl ?_
  refine own_aload (pc' := 134) X1 hx (hb hby at_132) rfl rfl rfl ?_
  refine own_lloadN (pc' := 135) X1 hx (hb hby at_134) rfl rfl ?_
  refine own_callN (pc' := 138) (W := 1) (y := (⟨"com/example/ossify/ossify/AppendReport$TornTail", "<init>", "(Ljava/lang/String;J)V"⟩ : MethodName)) X1 hx hZ rfl hown (own_w hw 25 rfl) (own_w hw 26 rfl) (own_w hw 24 rfl) (own_w hw 27 rfl) (by decide) (con_ri l Z a0 hw b1 seg xl _ n0 z1 A1 F1_bytes F1_segment g_b1) e1 pd40 b1 [(.ref seg), (.long xl)] [(.ref b1)] rfl rfl rfl (Nat.le_of_eq rfl) (by decide) (by decide) (by rw [hml]; rfl) (hb hby at_135) (by decide) (by decide) rfl ?_
  intro v2 T2 L2 X2 q2
  obtain ⟨rfl, M2, K2, E2q, F2a, F2b⟩ := q2
  obtain ⟨h2, e2⟩ : ∃ z, z = T2.heap := ⟨_, rfl⟩
  rw [← e2] at K2 E2q F2a F2b
  have e2 := e2.symm
  have o2 : own_Old Z n0 h2 := o1.keep K2 (allS g_b1 all0)
  have H2 := CHv.keep K2 (allS S1_b1 all0) H1
  have kz2 := Nat.le_trans kz1 K2.1
  have z2 : n0 ≤ h2.size := Nat.le_trans z1 K2.1
  have N2 := Fr.app N0 M2
  show own_WP _ _ _ _ _ _ _ (T2.setTop (mkF m 138 #[.val (.long xl), .second, .val (.int ci), .val (.int c0), .val (.int c1), .val (.int c2), .val (.int z8), .val (.ref seg), .unset, .unset, .unset, .unset, .unset, .unset, .unset, .unset, .unset, .unset, .unset, .unset] [(.ref b1)]))
  have f4 := ((hE.ext E1).keep K2)
  have f5 := ((hC.ext E1).keep K2 (ninS ne_seg_b1 nin0))
  have f6 := ((hV.ext E1).keep K2 (ninS ne_seg_b1 nin0))
  have f7 := ((hA.ext E1).keep K2 (ninS ne_b8_b1 nin0))
  refine own_callVH (pc' := 141) (W := 0) (y := (⟨"com/example/ossify/ossify/AppendReport$TornTail", "describe", "()Ljava/lang/String;"⟩ : MethodName)) (z := (⟨"com/example/ossify/ossify/AppendReport$TornTail", "describe", "()Ljava/lang/String;"⟩ : MethodName)) X2 hx hZ hown (own_w hw 38 rfl) (own_w hw 39 rfl) (notFace_of_selects (args := #[]) (mvT (s := s.setVm _) hZ (own_w hw 41 rfl))) (own_w hw 41 rfl) (own_w hw 40 rfl) (own_w hw 24 rfl) (own_w hw 42 rfl) (by decide) E2q (con_de l Z a0 hw b1 _ n0 z2 G1 fm hG o2 hEL da db ko kt hD xl E2q seg b8 k8 z8 ws f4 f5 f6 f7 hwsl hzr F2a F2b) e2 hEL H2 (fun q hq => nomatch hq) hS kz2 pd36 [] [] rfl rfl rfl (Nat.le_of_eq rfl) (by decide) (by decide) (by rw [hml]; rfl) (hb hby at_138) (by decide) (by decide) rfl ?_
  intro v3 T3 L3 kq3 X3 hS kz3 hZ hown CR3 q3
  obtain ⟨t3, c3, k3, cn, us, kk, ng, rfl, M3, K3, st3, s3, E3q, F3a, F3b, V3, hkk, hngx, hcn, hus⟩ := q3
  obtain ⟨h3, e3⟩ : ∃ z, z = T3.heap := ⟨_, rfl⟩
  rw [← e3] at K3 CR3 kz3 E3q F3a F3b V3
  have e3 := e3.symm
  have H3 := CR3.1
  have o3 : own_Old Z n0 h3 := o2.keep K3 all0
  have z3 : n0 ≤ h3.size := Nat.le_trans z2 K3.1
  have N3 := Fr.app N2 M3
  show own_WP _ _ _ _ _ _ _ (T3.setTop (mkF m 141 #[.val (.long xl), .second, .val (.int ci), .val (.int c0), .val (.int c1), .val (.int c2), .val (.int z8), .val (.ref seg), .unset, .unset, .unset, .unset, .unset, .unset, .unset, .unset, .unset, .unset, .unset, .unset] [(.ref t3)]))
  refine own_astore (pc' := 143) (l' := #[.val (.long xl), .second, .val (.int ci), .val (.int c0), .val (.int c1), .val (.int c2), .val (.int z8), .val (.ref seg), .val (.ref t3), .unset, .unset, .unset, .unset, .unset, .unset, .unset, .unset, .unset, .unset, .unset]) X3 hx (hb hby at_141) rfl rfl rfl ?_
  exact lawA hw hx hby hml hret hlk G1 fm hG hEL n0 _ _ _ _ _ hown hZ hS kz3 (X3.more (by decide) (by decide)) e3 N3 o3 z3 H3 xl ci c0 c1 c2 z8 seg t3 c3 k3 cn us E3q F3a F3b V3 ws kk ng hkk hngx hcn hus hrw hch0 hch1 hch2
theorem ef_law (m : MethodId) (xl : Int64) (i1 : Int32) : entryFrame m #[(.long xl), (.int i1)] 20 = mkF m 0 #[.val (.long xl), .second, .val (.int i1), .unset, .unset, .unset, .unset, .unset, .unset, .unset, .unset, .unset, .unset, .unset, .unset, .unset, .unset, .unset, .unset, .unset] [] := by first | (simp [entryFrame, mkF, argsToLocals, Value.category]; done) | rfl
theorem pd41 : parseMethodDescriptor "(C)Ljava/lang/String;" = some ⟨[.char], some (.object "java/lang/String")⟩ := by decide +kernel
set_option maxRecDepth 65536 in
set_option maxHeartbeats 4000000 in
theorem con_law (l : Launch) (Z : State) (a0 : Array Value) (hw : ∀ d ∈ tables_1, d.before a0 Z = true) (xl : Int64) (i1 : Int32) (h0 : Heap) (n0 : Nat) (Z0 : n0 ≤ h0.size) (G1 : Int32) (fm : Value) (hG : own_G Z G1 fm) (X00 : own_Old Z n0 h0) (hEL : EW Z a0 consts_1) (da db : Addr) (ko kt : ClassId) (hD : own_D Z da ko db kt) :
    own_ConRH l Z x code maxLocals ret ({ frames := 10, cells := 96, slots := 8576, locals := 224 } : Room) #[(.long xl), (.int i1)] h0 (fun v h L => v = some (.int 1) ∧ Fr n0 L) := by
  refine own_ConRH_of pn_0 ?_
  intro p e s vm0 m below meth c s₁ X0 hx hby hml hret hlk hnm hown hZ e0 H0 hS
  have hown : vm0.findClass "com/example/ossify/ossify/TornTailDescribePinLaw" = some m.cls := hown
  have hml : c.maxLocals = 20 := hml
  have hret : meth.sig.returnType = some .boolean := hret
  have N0 := Fr.nil n0
  have hwS := own_wS hw
  have kz0 : h0.size ≤ h0.size := Nat.le_refl _
  show own_WP _ _ _ _ _ _ _ (s₁.setTop (entryFrame m #[(.long xl), (.int i1)] 20))
  rw [ef_law m xl i1]
  refine own_iloadN (pc' := 1) X0 hx (hb hby at_0) rfl rfl ?_
  refine own_sipush (pc' := 4) X0 hx (255 : Int32) (hb hby at_1) rfl rfl ?_
  refine own_iand (pc' := 5) X0 hx (hb hby at_4) rfl ?_
  refine own_i2c (pc' := 6) X0 hx (hb hby at_5) rfl ?_
  rw [i2c_mask]
  obtain ⟨v1, hv1⟩ : ∃ z : Int32, z = (i1 &&& (255 : Int32)) := ⟨_, rfl⟩
  refine own_istoreN (pc' := 7) (l' := #[.val (.long xl), .second, .val (.int i1), .val (.int v1), .unset, .unset, .unset, .unset, .unset, .unset, .unset, .unset, .unset, .unset, .unset, .unset, .unset, .unset, .unset, .unset]) X0 hx (hb hby at_6) hv1 rfl rfl ?_
  refine own_iloadN (pc' := 8) X0 hx (hb hby at_7) rfl rfl ?_
  refine own_bipush (pc' := 10) X0 hx (8 : Int32) (hb hby at_8) rfl rfl ?_
  refine own_iushr (pc' := 11) X0 hx (hb hby at_10) rfl ?_
  refine own_sipush (pc' := 14) X0 hx (255 : Int32) (hb hby at_11) rfl rfl ?_
  refine own_iand (pc' := 15) X0 hx (hb hby at_14) rfl ?_
  refine own_i2c (pc' := 16) X0 hx (hb hby at_15) rfl ?_
  rw [i2c_mask]
  obtain ⟨v2, hv2⟩ : ∃ z : Int32, z = (((i1.toUInt32 >>> ((8 : Int32) &&& 31).toUInt32).toInt32) &&& (255 : Int32)) := ⟨_, rfl⟩
  refine own_istore (pc' := 18) (l' := #[.val (.long xl), .second, .val (.int i1), .val (.int v1), .val (.int v2), .unset, .unset, .unset, .unset, .unset, .unset, .unset, .unset, .unset, .unset, .unset, .unset, .unset, .unset, .unset]) X0 hx (hb hby at_16) hv2 rfl rfl ?_
  refine own_iloadN (pc' := 19) X0 hx (hb hby at_18) rfl rfl ?_
  refine own_bipush (pc' := 21) X0 hx (16 : Int32) (hb hby at_19) rfl rfl ?_
  refine own_iushr (pc' := 22) X0 hx (hb hby at_21) rfl ?_
  refine own_sipush (pc' := 25) X0 hx (255 : Int32) (hb hby at_22) rfl rfl ?_
  refine own_iand (pc' := 26) X0 hx (hb hby at_25) rfl ?_
  refine own_i2c (pc' := 27) X0 hx (hb hby at_26) rfl ?_
  rw [i2c_mask]
  obtain ⟨v3, hv3⟩ : ∃ z : Int32, z = (((i1.toUInt32 >>> ((16 : Int32) &&& 31).toUInt32).toInt32) &&& (255 : Int32)) := ⟨_, rfl⟩
  refine own_istore (pc' := 29) (l' := #[.val (.long xl), .second, .val (.int i1), .val (.int v1), .val (.int v2), .val (.int v3), .unset, .unset, .unset, .unset, .unset, .unset, .unset, .unset, .unset, .unset, .unset, .unset, .unset, .unset]) X0 hx (hb hby at_27) hv3 rfl rfl ?_
  refine own_iloadN (pc' := 30) X0 hx (hb hby at_29) rfl rfl ?_
  refine own_bipush (pc' := 32) X0 hx (24 : Int32) (hb hby at_30) rfl rfl ?_
  refine own_iushr (pc' := 33) X0 hx (hb hby at_32) rfl ?_
  refine own_iconst (pc' := 34) X0 hx (3 : Int32) (hb hby at_33) rfl rfl ?_
  refine own_iand (pc' := 35) X0 hx (hb hby at_34) rfl ?_
  obtain ⟨v4, hv4⟩ : ∃ z : Int32, z = (((i1.toUInt32 >>> ((24 : Int32) &&& 31).toUInt32).toInt32) &&& (3 : Int32)) := ⟨_, rfl⟩
  refine own_istore (pc' := 37) (l' := #[.val (.long xl), .second, .val (.int i1), .val (.int v1), .val (.int v2), .val (.int v3), .val (.int v4), .unset, .unset, .unset, .unset, .unset, .unset, .unset, .unset, .unset, .unset, .unset, .unset, .unset]) X0 hx (hb hby at_35) hv4 rfl rfl ?_
  have hm_v1 := own_m255 i1
  rw [← hv1] at hm_v1
  have hch_v1 := own_chby hm_v1
  have hnr_v1 : nar .char v1 = v1 := by rw [hv1]; exact own_ch_n _
  have hlt_v1 : ¬ (255 : Int32) < v1 := by rw [Int32.lt_iff_toInt_lt]; show ¬ (255 : Int) < _; omega
  have hm_v2 := own_m255 ((i1.toUInt32 >>> ((8 : Int32) &&& 31).toUInt32).toInt32)
  rw [← hv2] at hm_v2
  have hch_v2 := own_chby hm_v2
  have hnr_v2 : nar .char v2 = v2 := by rw [hv2]; exact own_ch_n _
  have hlt_v2 : ¬ (255 : Int32) < v2 := by rw [Int32.lt_iff_toInt_lt]; show ¬ (255 : Int) < _; omega
  have hm_v3 := own_m255 ((i1.toUInt32 >>> ((16 : Int32) &&& 31).toUInt32).toInt32)
  rw [← hv3] at hm_v3
  have hch_v3 := own_chby hm_v3
  have hnr_v3 : nar .char v3 = v3 := by rw [hv3]; exact own_ch_n _
  have hlt_v3 : ¬ (255 : Int32) < v3 := by rw [Int32.lt_iff_toInt_lt]; show ¬ (255 : Int) < _; omega
  have hr4 := own_r4 hv4
  refine own_iload (pc' := 39) X0 hx (hb hby at_37) rfl rfl ?_
  refine own_if_ne (pt := 57) (pf := 42) X0 hx (hb hby at_39) rfl (by decide) rfl (fun hc39 => ?_) (fun hc39 => ?_)
  · skip
    refine own_iload (pc' := 59) X0 hx (hb hby at_57) rfl rfl ?_
    refine own_iconst (pc' := 60) X0 hx (1 : Int32) (hb hby at_59) rfl rfl ?_
    refine own_icmp_ne (pt := 72) (pf := 63) X0 hx (hb hby at_60) rfl (by decide) rfl (fun hc60 => ?_) (fun hc60 => ?_)
    · skip
      refine own_iload (pc' := 74) X0 hx (hb hby at_72) rfl rfl ?_
      refine own_iconst (pc' := 75) X0 hx (2 : Int32) (hb hby at_74) rfl rfl ?_
      refine own_icmp_ne (pt := 102) (pf := 78) X0 hx (hb hby at_75) rfl (by decide) rfl (fun hc75 => ?_) (fun hc75 => ?_)
      · skip
        obtain rfl : v4 = 3 := hr4.elim (fun q => absurd q hc39) (fun q => q.elim (fun q => absurd q hc60) (fun q => q.elim (fun q => absurd q hc75) id))
        show own_WP _ _ _ _ _ _ _ (s₁.setTop (mkF m 102 #[.val (.long xl), .second, .val (.int i1), .val (.int v1), .val (.int v2), .val (.int v3), .val (.int (3 : Int32)), .unset, .unset, .unset, .unset, .unset, .unset, .unset, .unset, .unset, .unset, .unset, .unset, .unset] []))
        refine own_new (pc' := 105) X0 hx hZ hown (own_w hw 0 rfl) (own_w hw 1 rfl) (own_w hw 2 rfl) e0 (hb hby at_102) (by decide) (by decide) rfl ?_
        intro T5 h5 b5 g5 X5 e5 E5 A5 D5
        have g_b5 : n0 ≤ b5 := Nat.le_trans Z0 (Nat.le_of_eq g5.symm)
        have o5 : own_Old Z n0 h5 := X00.ext E5
        have H5 := CHv.ext E5 H0
        have S5_b5 := Safe.ext (x := b5) E5 H0 (Safe.new (Nat.le_of_eq g5.symm))
        have kz5 := Nat.le_trans kz0 E5.1
        have z5 : n0 ≤ h5.size := Nat.le_trans Z0 E5.1
        have F5_value : Fld Z h5 b5 "java/lang/String" "value" "[B" .null := D5 (Or.inr (own_w hw 16 rfl)) (ty := (.array .byte)) (by decide +kernel)
        have F5_coder : Fld Z h5 b5 "java/lang/String" "coder" "B" (.int (0 : Int32)) := D5 (Or.inr (own_w hw 17 rfl)) (ty := .byte) (by decide)
        refine own_dup (pc' := 106) X5 hx (hb hby at_105) rfl rfl ?_
        refine own_iconst (pc' := 107) X5 hx (3 : Int32) (hb hby at_106) rfl rfl ?_
        refine own_newP (pc' := 109) (cap := 3) X5 hx hZ (own_w hw 3 rfl) e5 (hb hby at_107) (by decide) (by decide) (by decide) (by decide) (by decide) rfl ?_
        intro T6 h6 k6 b6 g6 X6 e6 E6 A6
        have ne_b5_b6 : b5 ≠ b6 := Nat.ne_of_lt (Nat.lt_of_lt_of_le A5.lt (Nat.le_of_eq g6.symm))
        have ne_b6_b5 := ne_b5_b6.symm
        have g_b6 : n0 ≤ b6 := Nat.le_trans z5 (Nat.le_of_eq g6.symm)
        have o6 : own_Old Z n0 h6 := o5.ext E6
        have H6 := CHv.ext E6 H5
        have S6_b5 := Safe.ext (x := b5) E6 H5 S5_b5
        have S6_b6 := Safe.ext (x := b6) E6 H5 (Safe.new (Nat.le_of_eq g6.symm))
        have kz6 := Nat.le_trans kz5 E6.1
        have z6 : n0 ≤ h6.size := Nat.le_trans z5 E6.1
        have V6 : Arv Z h6 b6 k6 .char (3 : Int32) [(.int (0 : Int32)), (.int (0 : Int32)), (.int (0 : Int32))] (.int (0 : Int32)) := (Arv.new A6 (by decide)).pad (pad_rep [] (.int (0 : Int32)) 3)
        refine own_dup (pc' := 110) X6 hx (hb hby at_109) rfl rfl ?_
        refine own_iconst (pc' := 111) X6 hx (0 : Int32) (hb hby at_110) rfl rfl ?_
        refine own_iloadN (pc' := 112) X6 hx (hb hby at_111) rfl rfl ?_
        refine own_castore (pc' := 113) X6 hx hZ e6 V6 ⟨by decide, by decide⟩ 0 rfl (Nat.le_of_ble_eq_true rfl) (hb hby at_112) rfl ?_
        intro T7 h7 X7 e7 W7 V7
        have o7 : own_Old Z n0 h7 := o6.wr W7 g_b6
        have H7 := CHv.wr W7 S6_b6 H6
        have S7_b5 := Safe.wr (x := b5) W7 S6_b6 H6 S6_b5
        have S7_b6 := Safe.wr (x := b6) W7 S6_b6 H6 S6_b6
        have kz7 := Nat.le_trans kz6 (Keep.of_wr W7).1
        have z7 : n0 ≤ h7.size := Nat.le_trans z6 (Keep.of_wr W7).1
        have V7 : Arv Z h7 b6 k6 .char (3 : Int32) [(.int (nar .char v1)), (.int (0 : Int32)), (.int (0 : Int32))] (.int (0 : Int32)) := V7
        have N7 := Fr.snoc X7 N0 g_b6
        rw [hnr_v1] at V7
        refine own_dup (pc' := 114) X7 hx (hb hby at_113) rfl rfl ?_
        refine own_iconst (pc' := 115) X7 hx (1 : Int32) (hb hby at_114) rfl rfl ?_
        refine own_iload (pc' := 117) X7 hx (hb hby at_115) rfl rfl ?_
        refine own_castore (pc' := 118) X7 hx hZ e7 V7 ⟨by decide, by decide⟩ 1 rfl (Nat.le_of_ble_eq_true rfl) (hb hby at_117) rfl ?_
        intro T8 h8 X8 e8 W8 V8
        have o8 : own_Old Z n0 h8 := o7.wr W8 g_b6
        have H8 := CHv.wr W8 S7_b6 H7
        have S8_b5 := Safe.wr (x := b5) W8 S7_b6 H7 S7_b5
        have S8_b6 := Safe.wr (x := b6) W8 S7_b6 H7 S7_b6
        have kz8 := Nat.le_trans kz7 (Keep.of_wr W8).1
        have z8 : n0 ≤ h8.size := Nat.le_trans z7 (Keep.of_wr W8).1
        have V8 : Arv Z h8 b6 k6 .char (3 : Int32) [(.int v1), (.int (nar .char v2)), (.int (0 : Int32))] (.int (0 : Int32)) := V8
        have N8 := Fr.snoc X8 N7 g_b6
        rw [hnr_v2] at V8
        refine own_dup (pc' := 119) X8 hx (hb hby at_118) rfl rfl ?_
        refine own_iconst (pc' := 120) X8 hx (2 : Int32) (hb hby at_119) rfl rfl ?_
        refine own_iload (pc' := 122) X8 hx (hb hby at_120) rfl rfl ?_
        refine own_castore (pc' := 123) X8 hx hZ e8 V8 ⟨by decide, by decide⟩ 2 rfl (Nat.le_of_ble_eq_true rfl) (hb hby at_122) rfl ?_
        intro T9 h9 X9 e9 W9 V9
        have o9 : own_Old Z n0 h9 := o8.wr W9 g_b6
        have H9 := CHv.wr W9 S8_b6 H8
        have S9_b5 := Safe.wr (x := b5) W9 S8_b6 H8 S8_b5
        have kz9 := Nat.le_trans kz8 (Keep.of_wr W9).1
        have z9 : n0 ≤ h9.size := Nat.le_trans z8 (Keep.of_wr W9).1
        have V9 : Arv Z h9 b6 k6 .char (3 : Int32) [(.int v1), (.int v2), (.int (nar .char v3))] (.int (0 : Int32)) := V9
        have N9 := Fr.snoc X9 N8 g_b6
        rw [hnr_v3] at V9
        have f11 := ((((A5.ext E6).wr W7).wr W8).wr W9)
        have f12 := ((((F5_coder.ext E6).other W7 (Or.inl ne_b5_b6)).other W8 (Or.inl ne_b5_b6)).other W9 (Or.inl ne_b5_b6))
        have f13 := ((((F5_value.ext E6).other W7 (Or.inl ne_b5_b6)).other W8 (Or.inl ne_b5_b6)).other W9 (Or.inl ne_b5_b6))
        refine own_callN (pc' := 126) (W := 1) (y := (⟨"java/lang/String", "<init>", "([C)V"⟩ : MethodName)) X9 hx hZ rfl hown (own_w hw 4 rfl) (own_w hw 5 rfl) (own_w hw 2 rfl) (own_w hw 6 rfl) (by decide) (con_n1 l Z a0 hw b5 b6  _ n0 z9 G1 fm hG o9 _ (3 : Int32) [v1, v2, v3] V9 rfl ⟨Nat.le_of_ble_eq_true rfl, Nat.le_of_ble_eq_true rfl⟩ (own_allS hlt_v1 (own_allS hlt_v2 (own_allS hlt_v3 own_all0))) _ _ f11 f12 f13 g_b5 ne_b5_b6 ne_b6_b5) e9 pd38 b5 [(.ref b6)] [(.ref b5)] rfl rfl rfl (Nat.le_of_eq rfl) (by decide) (by decide) (by rw [hml]; rfl) (hb hby at_123) (by decide) (by decide) rfl ?_
        intro v10 T10 L10 X10 q10
        obtain ⟨c10, k10, rfl, M10, K10, s10, E10q, F10a, F10b, V10⟩ := q10
        obtain ⟨h10, e10⟩ : ∃ z, z = T10.heap := ⟨_, rfl⟩
        rw [← e10] at K10 E10q F10a F10b V10
        have e10 := e10.symm
        have o10 : own_Old Z n0 h10 := o9.keep K10 (allS g_b5 all0)
        have H10 := CHv.keep K10 (allS S9_b5 all0) H9
        have kz10 := Nat.le_trans kz9 K10.1
        have z10 : n0 ≤ h10.size := Nat.le_trans z9 K10.1
        have N10 := Fr.app N9 M10
        show own_WP _ _ _ _ _ _ _ (T10.setTop (mkF m 126 #[.val (.long xl), .second, .val (.int i1), .val (.int v1), .val (.int v2), .val (.int v3), .val (.int (3 : Int32)), .unset, .unset, .unset, .unset, .unset, .unset, .unset, .unset, .unset, .unset, .unset, .unset, .unset] [(.ref b5)]))
        refine own_astore (pc' := 128) (l' := #[.val (.long xl), .second, .val (.int i1), .val (.int v1), .val (.int v2), .val (.int v3), .val (.int (3 : Int32)), .val (.ref b5), .unset, .unset, .unset, .unset, .unset, .unset, .unset, .unset, .unset, .unset, .unset, .unset]) X10 hx (hb hby at_126) rfl rfl rfl ?_
        exact lawM hw hx hby hml hret hlk G1 fm hG hEL n0 _ _ _ _ _ hown hZ hS kz10 (X10.more (by decide) (by decide)) e10 N10 o10 z10 H10 da db ko kt hD xl i1 v1 v2 v3 (3 : Int32) b5 c10 k10 (3 : Int32)  _ E10q F10a F10b V10 rfl (Or.inr (Or.inr (Or.inr ⟨rfl, rfl⟩))) hch_v1 hch_v2 hch_v3
      · skip
        subst hc75
        show own_WP _ _ _ _ _ _ _ (s₁.setTop (mkF m 78 #[.val (.long xl), .second, .val (.int i1), .val (.int v1), .val (.int v2), .val (.int v3), .val (.int (2 : Int32)), .unset, .unset, .unset, .unset, .unset, .unset, .unset, .unset, .unset, .unset, .unset, .unset, .unset] []))
        refine own_new (pc' := 81) X0 hx hZ hown (own_w hw 0 rfl) (own_w hw 1 rfl) (own_w hw 2 rfl) e0 (hb hby at_78) (by decide) (by decide) rfl ?_
        intro T14 h14 b14 g14 X14 e14 E14 A14 D14
        have g_b14 : n0 ≤ b14 := Nat.le_trans Z0 (Nat.le_of_eq g14.symm)
        have o14 : own_Old Z n0 h14 := X00.ext E14
        have H14 := CHv.ext E14 H0
        have S14_b14 := Safe.ext (x := b14) E14 H0 (Safe.new (Nat.le_of_eq g14.symm))
        have kz14 := Nat.le_trans kz0 E14.1
        have z14 : n0 ≤ h14.size := Nat.le_trans Z0 E14.1
        have F14_value : Fld Z h14 b14 "java/lang/String" "value" "[B" .null := D14 (Or.inr (own_w hw 16 rfl)) (ty := (.array .byte)) (by decide +kernel)
        have F14_coder : Fld Z h14 b14 "java/lang/String" "coder" "B" (.int (0 : Int32)) := D14 (Or.inr (own_w hw 17 rfl)) (ty := .byte) (by decide)
        refine own_dup (pc' := 82) X14 hx (hb hby at_81) rfl rfl ?_
        refine own_iconst (pc' := 83) X14 hx (2 : Int32) (hb hby at_82) rfl rfl ?_
        refine own_newP (pc' := 85) (cap := 2) X14 hx hZ (own_w hw 3 rfl) e14 (hb hby at_83) (by decide) (by decide) (by decide) (by decide) (by decide) rfl ?_
        intro T15 h15 k15 b15 g15 X15 e15 E15 A15
        have ne_b14_b15 : b14 ≠ b15 := Nat.ne_of_lt (Nat.lt_of_lt_of_le A14.lt (Nat.le_of_eq g15.symm))
        have ne_b15_b14 := ne_b14_b15.symm
        have g_b15 : n0 ≤ b15 := Nat.le_trans z14 (Nat.le_of_eq g15.symm)
        have o15 : own_Old Z n0 h15 := o14.ext E15
        have H15 := CHv.ext E15 H14
        have S15_b14 := Safe.ext (x := b14) E15 H14 S14_b14
        have S15_b15 := Safe.ext (x := b15) E15 H14 (Safe.new (Nat.le_of_eq g15.symm))
        have kz15 := Nat.le_trans kz14 E15.1
        have z15 : n0 ≤ h15.size := Nat.le_trans z14 E15.1
        have V15 : Arv Z h15 b15 k15 .char (2 : Int32) [(.int (0 : Int32)), (.int (0 : Int32))] (.int (0 : Int32)) := (Arv.new A15 (by decide)).pad (pad_rep [] (.int (0 : Int32)) 2)
        refine own_dup (pc' := 86) X15 hx (hb hby at_85) rfl rfl ?_
        refine own_iconst (pc' := 87) X15 hx (0 : Int32) (hb hby at_86) rfl rfl ?_
        refine own_iloadN (pc' := 88) X15 hx (hb hby at_87) rfl rfl ?_
        refine own_castore (pc' := 89) X15 hx hZ e15 V15 ⟨by decide, by decide⟩ 0 rfl (Nat.le_of_ble_eq_true rfl) (hb hby at_88) rfl ?_
        intro T16 h16 X16 e16 W16 V16
        have o16 : own_Old Z n0 h16 := o15.wr W16 g_b15
        have H16 := CHv.wr W16 S15_b15 H15
        have S16_b14 := Safe.wr (x := b14) W16 S15_b15 H15 S15_b14
        have S16_b15 := Safe.wr (x := b15) W16 S15_b15 H15 S15_b15
        have kz16 := Nat.le_trans kz15 (Keep.of_wr W16).1
        have z16 : n0 ≤ h16.size := Nat.le_trans z15 (Keep.of_wr W16).1
        have V16 : Arv Z h16 b15 k15 .char (2 : Int32) [(.int (nar .char v1)), (.int (0 : Int32))] (.int (0 : Int32)) := V16
        have N16 := Fr.snoc X16 N0 g_b15
        rw [hnr_v1] at V16
        refine own_dup (pc' := 90) X16 hx (hb hby at_89) rfl rfl ?_
        refine own_iconst (pc' := 91) X16 hx (1 : Int32) (hb hby at_90) rfl rfl ?_
        refine own_iload (pc' := 93) X16 hx (hb hby at_91) rfl rfl ?_
        refine own_castore (pc' := 94) X16 hx hZ e16 V16 ⟨by decide, by decide⟩ 1 rfl (Nat.le_of_ble_eq_true rfl) (hb hby at_93) rfl ?_
        intro T17 h17 X17 e17 W17 V17
        have o17 : own_Old Z n0 h17 := o16.wr W17 g_b15
        have H17 := CHv.wr W17 S16_b15 H16
        have S17_b14 := Safe.wr (x := b14) W17 S16_b15 H16 S16_b14
        have kz17 := Nat.le_trans kz16 (Keep.of_wr W17).1
        have z17 : n0 ≤ h17.size := Nat.le_trans z16 (Keep.of_wr W17).1
        have V17 : Arv Z h17 b15 k15 .char (2 : Int32) [(.int v1), (.int (nar .char v2))] (.int (0 : Int32)) := V17
        have N17 := Fr.snoc X17 N16 g_b15
        rw [hnr_v2] at V17
        have f19 := (((A14.ext E15).wr W16).wr W17)
        have f20 := (((F14_coder.ext E15).other W16 (Or.inl ne_b14_b15)).other W17 (Or.inl ne_b14_b15))
        have f21 := (((F14_value.ext E15).other W16 (Or.inl ne_b14_b15)).other W17 (Or.inl ne_b14_b15))
        refine own_callN (pc' := 97) (W := 1) (y := (⟨"java/lang/String", "<init>", "([C)V"⟩ : MethodName)) X17 hx hZ rfl hown (own_w hw 4 rfl) (own_w hw 5 rfl) (own_w hw 2 rfl) (own_w hw 6 rfl) (by decide) (con_n1 l Z a0 hw b14 b15  _ n0 z17 G1 fm hG o17 _ (2 : Int32) [v1, v2] V17 rfl ⟨Nat.le_of_ble_eq_true rfl, Nat.le_of_ble_eq_true rfl⟩ (own_allS hlt_v1 (own_allS hlt_v2 own_all0)) _ _ f19 f20 f21 g_b14 ne_b14_b15 ne_b15_b14) e17 pd38 b14 [(.ref b15)] [(.ref b14)] rfl rfl rfl (Nat.le_of_eq rfl) (by decide) (by decide) (by rw [hml]; rfl) (hb hby at_94) (by decide) (by decide) rfl ?_
        intro v18 T18 L18 X18 q18
        obtain ⟨c18, k18, rfl, M18, K18, s18, E18q, F18a, F18b, V18⟩ := q18
        obtain ⟨h18, e18⟩ : ∃ z, z = T18.heap := ⟨_, rfl⟩
        rw [← e18] at K18 E18q F18a F18b V18
        have e18 := e18.symm
        have o18 : own_Old Z n0 h18 := o17.keep K18 (allS g_b14 all0)
        have H18 := CHv.keep K18 (allS S17_b14 all0) H17
        have kz18 := Nat.le_trans kz17 K18.1
        have z18 : n0 ≤ h18.size := Nat.le_trans z17 K18.1
        have N18 := Fr.app N17 M18
        show own_WP _ _ _ _ _ _ _ (T18.setTop (mkF m 97 #[.val (.long xl), .second, .val (.int i1), .val (.int v1), .val (.int v2), .val (.int v3), .val (.int (2 : Int32)), .unset, .unset, .unset, .unset, .unset, .unset, .unset, .unset, .unset, .unset, .unset, .unset, .unset] [(.ref b14)]))
        refine own_astore (pc' := 99) (l' := #[.val (.long xl), .second, .val (.int i1), .val (.int v1), .val (.int v2), .val (.int v3), .val (.int (2 : Int32)), .val (.ref b14), .unset, .unset, .unset, .unset, .unset, .unset, .unset, .unset, .unset, .unset, .unset, .unset]) X18 hx (hb hby at_97) rfl rfl rfl ?_
        refine own_goto (pc' := 128) X18 hx (hb hby at_99) (by decide) rfl ?_
        exact lawM hw hx hby hml hret hlk G1 fm hG hEL n0 _ _ _ _ _ hown hZ hS kz18 (X18.more (by decide) (by decide)) e18 N18 o18 z18 H18 da db ko kt hD xl i1 v1 v2 v3 (2 : Int32) b14 c18 k18 (2 : Int32)  _ E18q F18a F18b V18 rfl (Or.inr (Or.inr (Or.inl ⟨rfl, rfl⟩))) hch_v1 hch_v2 hch_v3
    · skip
      subst hc60
      have hc := hlt_v1
      show own_WP _ _ _ _ _ _ _ (s₁.setTop (mkF m 63 #[.val (.long xl), .second, .val (.int i1), .val (.int v1), .val (.int v2), .val (.int v3), .val (.int (1 : Int32)), .unset, .unset, .unset, .unset, .unset, .unset, .unset, .unset, .unset, .unset, .unset, .unset, .unset] []))
      refine own_iloadN (pc' := 64) X0 hx (hb hby at_63) rfl rfl ?_
      refine own_callS (pc' := 67) (W := 0) (y := (⟨"java/lang/String", "valueOf", "(C)Ljava/lang/String;"⟩ : MethodName)) X0 hx hZ hown (own_w hw 293 rfl) (own_w hw 294 rfl) (own_w hw 2 rfl) (own_w hw 295 rfl) (by decide) (con_vo l Z a0 hw v1 _ n0 Z0 G1 fm hG X00 hc) e0 pd41 [(.int v1)] [] rfl rfl rfl (Nat.le_of_eq rfl) (by decide) (by decide) (by rw [hml]; rfl) (hb hby at_64) (by decide) (by decide) rfl ?_
      intro v22 T22 L22 X22 q22
      obtain ⟨t22, c22, k22, rfl, M22, K22, st22, s22, E22q, F22a, F22b, V22⟩ := q22
      obtain ⟨h22, e22⟩ : ∃ z, z = T22.heap := ⟨_, rfl⟩
      rw [← e22] at K22 E22q F22a F22b V22
      have e22 := e22.symm
      have o22 : own_Old Z n0 h22 := X00.keep K22 all0
      have H22 := CHv.keep K22 all0 H0
      have kz22 := Nat.le_trans kz0 K22.1
      have z22 : n0 ≤ h22.size := Nat.le_trans Z0 K22.1
      have N22 := Fr.app N0 M22
      show own_WP _ _ _ _ _ _ _ (T22.setTop (mkF m 67 #[.val (.long xl), .second, .val (.int i1), .val (.int v1), .val (.int v2), .val (.int v3), .val (.int (1 : Int32)), .unset, .unset, .unset, .unset, .unset, .unset, .unset, .unset, .unset, .unset, .unset, .unset, .unset] [(.ref t22)]))
      refine own_astore (pc' := 69) (l' := #[.val (.long xl), .second, .val (.int i1), .val (.int v1), .val (.int v2), .val (.int v3), .val (.int (1 : Int32)), .val (.ref t22), .unset, .unset, .unset, .unset, .unset, .unset, .unset, .unset, .unset, .unset, .unset, .unset]) X22 hx (hb hby at_67) rfl rfl rfl ?_
      refine own_goto (pc' := 128) X22 hx (hb hby at_69) (by decide) rfl ?_
      exact lawM hw hx hby hml hret hlk G1 fm hG hEL n0 _ _ _ _ _ hown hZ hS kz22 (X22.more (by decide) (by decide)) e22 N22 o22 z22 H22 da db ko kt hD xl i1 v1 v2 v3 (1 : Int32) t22 c22 k22 (1 : Int32)  _ E22q F22a F22b V22 rfl (Or.inr (Or.inl ⟨rfl, rfl⟩)) hch_v1 hch_v2 hch_v3
  · skip
    subst hc39
    show own_WP _ _ _ _ _ _ _ (s₁.setTop (mkF m 42 #[.val (.long xl), .second, .val (.int i1), .val (.int v1), .val (.int v2), .val (.int v3), .val (.int (0 : Int32)), .unset, .unset, .unset, .unset, .unset, .unset, .unset, .unset, .unset, .unset, .unset, .unset, .unset] []))
    refine own_new (pc' := 45) X0 hx hZ hown (own_w hw 0 rfl) (own_w hw 1 rfl) (own_w hw 2 rfl) e0 (hb hby at_42) (by decide) (by decide) rfl ?_
    intro T23 h23 b23 g23 X23 e23 E23 A23 D23
    have g_b23 : n0 ≤ b23 := Nat.le_trans Z0 (Nat.le_of_eq g23.symm)
    have o23 : own_Old Z n0 h23 := X00.ext E23
    have H23 := CHv.ext E23 H0
    have S23_b23 := Safe.ext (x := b23) E23 H0 (Safe.new (Nat.le_of_eq g23.symm))
    have kz23 := Nat.le_trans kz0 E23.1
    have z23 : n0 ≤ h23.size := Nat.le_trans Z0 E23.1
    have F23_value : Fld Z h23 b23 "java/lang/String" "value" "[B" .null := D23 (Or.inr (own_w hw 16 rfl)) (ty := (.array .byte)) (by decide +kernel)
    have F23_coder : Fld Z h23 b23 "java/lang/String" "coder" "B" (.int (0 : Int32)) := D23 (Or.inr (own_w hw 17 rfl)) (ty := .byte) (by decide)
    refine own_dup (pc' := 46) X23 hx (hb hby at_45) rfl rfl ?_
    refine own_iconst (pc' := 47) X23 hx (0 : Int32) (hb hby at_46) rfl rfl ?_
    refine own_newP (pc' := 49) (cap := 0) X23 hx hZ (own_w hw 3 rfl) e23 (hb hby at_47) (by decide) (by decide) (by decide) (by decide) (by decide) rfl ?_
    intro T24 h24 k24 b24 g24 X24 e24 E24 A24
    have o24 : own_Old Z n0 h24 := o23.ext E24
    have H24 := CHv.ext E24 H23
    have S24_b23 := Safe.ext (x := b23) E24 H23 S23_b23
    have kz24 := Nat.le_trans kz23 E24.1
    have z24 : n0 ≤ h24.size := Nat.le_trans z23 E24.1
    have V24 : Arv Z h24 b24 k24 .char (0 : Int32) [] (.int (0 : Int32)) := (Arv.new A24 (by decide)).pad (pad_rep [] (.int (0 : Int32)) 0)
    have f26 := (A23.ext E24)
    have f27 := (F23_coder.ext E24)
    have f28 := (F23_value.ext E24)
    refine own_callNH (pc' := 52) (W := 1) (y := (⟨"java/lang/String", "<init>", "([C)V"⟩ : MethodName)) X24 hx hZ rfl hown (own_w hw 4 rfl) (own_w hw 5 rfl) (own_w hw 2 rfl) (own_w hw 6 rfl) (by decide) (con_e1 l Z a0 hw b23 b24 _ n0 z24 G1 fm hG o24 hEL f26 f27 f28 g_b23 _ V24) e24 hEL H24 (fun q hq => by cases List.mem_singleton.mp hq; exact ⟨f26.lt, S24_b23⟩) hS kz24 pd38 [(.ref b24)] [(.ref b23)] rfl rfl rfl (Nat.le_of_eq rfl) (by decide) (by decide) (by rw [hml]; rfl) (hb hby at_49) (by decide) (by decide) rfl ?_
    intro v25 T25 L25 kq25 X25 hS kz25 hZ hown CR25 q25
    obtain ⟨c25, k25, rfl, M25, K25, E25q, F25a, F25b, V25⟩ := q25
    obtain ⟨h25, e25⟩ : ∃ z, z = T25.heap := ⟨_, rfl⟩
    rw [← e25] at K25 CR25 kz25 E25q F25a F25b V25
    have e25 := e25.symm
    have H25 := CR25.1
    have o25 : own_Old Z n0 h25 := o24.keep K25 (allS g_b23 all0)
    have z25 : n0 ≤ h25.size := Nat.le_trans z24 K25.1
    have N25 := Fr.app N0 M25
    show own_WP _ _ _ _ _ _ _ (T25.setTop (mkF m 52 #[.val (.long xl), .second, .val (.int i1), .val (.int v1), .val (.int v2), .val (.int v3), .val (.int (0 : Int32)), .unset, .unset, .unset, .unset, .unset, .unset, .unset, .unset, .unset, .unset, .unset, .unset, .unset] [(.ref b23)]))
    refine own_astore (pc' := 54) (l' := #[.val (.long xl), .second, .val (.int i1), .val (.int v1), .val (.int v2), .val (.int v3), .val (.int (0 : Int32)), .val (.ref b23), .unset, .unset, .unset, .unset, .unset, .unset, .unset, .unset, .unset, .unset, .unset, .unset]) X25 hx (hb hby at_52) rfl rfl rfl ?_
    refine own_goto (pc' := 128) X25 hx (hb hby at_54) (by decide) rfl ?_
    exact lawM hw hx hby hml hret hlk G1 fm hG hEL n0 _ _ _ _ _ hown hZ hS kz25 (X25.more (by decide) (by decide)) e25 N25 o25 z25 H25 da db ko kt hD xl i1 v1 v2 v3 (0 : Int32) b23 c25 k25 (0 : Int32)  _ E25q F25a F25b V25 rfl (Or.inl ⟨rfl, rfl⟩) hch_v1 hch_v2 hch_v3

theorem own_digst {args : Array Value} {s : State} {CI nm : String} {tt : Term} {f : Nat → Int32} (w : (Jvm.Cond.arrayClass .byte).before args s = true) (h1 : (Jvm.Cond.initializedFor CI nm "[B").before args s = true) (h2 : (Jvm.Cond.exactly (.static CI nm "[B") "[B").before args s = true) (h3 : (Jvm.Cond.eq (.length (.static CI nm "[B")) (.int 100)).before args s = true)
    (h4 : (Jvm.Cond.all (.static CI nm "[B") (.eq (.elem (.static CI nm "[B") (.index 0)) tt)).before args s = true) (hf : ∀ j, j < 100 → tt.eval args s none [j] s = some (.int (f j))) (hfit : ∀ j, j < 100 → fits .byte (.int (f j)) = true) :
    ∃ d k, Sta s s.heap CI nm "[B" (.ref d) ∧ Arv s s.heap d k .byte 100 ((List.range 100).map fun i => .int (f i)) (.int 0) := by
  obtain ⟨d, cB, cell, kB, e1, e2, e3, e4, e5, e6, e7⟩ := Cond.exactly_spec h2
  obtain ⟨c2, k2, comp, g1, g2, g3⟩ := Cond.arrayClass_spec w
  have g1 : s.vm.findClass "[B" = some c2 := g1
  cases e2.symm.trans g1
  cases e4.symm.trans g2
  subst e6
  have S := Sta.start e1 (Or.inl h1)
  have hvm : cell.vm ≠ .unknown := by
    intro hu
    obtain ⟨x, y, l1, l2, k1, k2⟩ := cmp_v (Or.inl (Cond.before_iff.mp h3))
    obtain ⟨x2, c3, e8, e9⟩ := Term.length_spec l1
    cases e1.symm.trans e8
    simp [State.arrayAt?, e3, e4, hu] at e9
  have A : Arr s s.heap d cell .byte := ⟨e3, ⟨fun q hq => (by rw [hq] at e5; cases e5), kB, e4, comp, g3⟩, hvm⟩
  have hat := A.fin (Vm.Alike.refl _)
  obtain ⟨hsz, hsize⟩ := IntBox.length_fwd h3 e1 A.1 A.2.1 A.2.2
  have hs100 : cell.slots.size = 100 := by
    have e := len_toInt hsz
    rw [hsize] at e
    have : ((100 : Int32)).toInt = 100 := by decide
    omega
  have hall := Cond.all_elim (c := .eq (.elem (.static CI nm "[B") (.index 0)) tt) e1 hat (by simpa [Cond.before, Cond.holds] using h4)
  have hin : ∀ j, j < 100 → cell.slots[j]? = some (.int (f j)) := by
    intro j hj
    have hv := hall j (by rw [hs100]; exact hj)
    obtain ⟨x, y, l1, l2, k1, k2⟩ := cmp_v (Or.inl hv)
    rw [hf j hj] at l2
    cases l2
    obtain ⟨hnn, hback⟩ := IntBox.place_nonneg j (by omega)
    have ev2 : (Term.static CI nm "[B").eval args s none [j] s = some (.ref d) := by
      simp only [Term.eval] at e1 ⊢
      exact e1
    have ej : (Term.index 0).eval args s none [j] s = some (.int j.toInt32) := by simp [Term.eval]
    have q := elem_in l1 ev2 ej A.1
    rw [hback] at q
    obtain ⟨x', rfl⟩ : ∃ x', x = .int x' := k2
    simp only [Cond.value, l1, hf j hj] at hv
    have e9 : x' = f j := by simpa using hv
    rw [← e9]
    exact q.2
  have hgd : ∀ k, k < 100 → ((List.range 100).map fun i => Value.int (f i)).getD k (.int 0) = .int (f k) := fun k hk => by simp [hk]
  refine ⟨d, _, S, cell, A, rfl, by rw [hs100]; rfl, by decide, ?_, ?_⟩
  · intro k hk
    rw [hs100] at hk
    rw [hgd k hk]; exact hin k hk
  · intro k hk
    rw [hs100] at hk
    rw [hgd k hk]; exact hfit k hk
theorem own_o1 : ∀ j, j < 100 → (48 : Int32) + j.toInt32 % 10 = Int32.ofNat (48 + j % 10) := by decide +kernel
theorem own_o2 : ∀ j, j < 100 → (48 : Int32) + j.toInt32 / 10 = Int32.ofNat (48 + j / 10) := by decide +kernel
theorem own_f1 : ∀ j, j < 100 → fits .byte (.int (Int32.ofNat (48 + j % 10))) = true := by decide +kernel
theorem own_f2 : ∀ j, j < 100 → fits .byte (.int (Int32.ofNat (48 + j / 10))) = true := by decide +kernel

set_option maxRecDepth 65536 in
set_option maxHeartbeats 4000000 in
theorem comes_1 {Post : Tables → Env → Array Value → Jvm.State → Outcome → Jvm.State → Prop} (hpost : ∀ tb e args s v u, (limb_1_1.after args s (.returned v) u = true ∧ limb_1_2.after args s (.returned v) u = true ∧ True) → ReturnedEndW s (.returned v) u (Jvm.fieldLocs frame_1_writes args s ++ Jvm.arrayLocs frame_1_arrays args s ++ Jvm.staticLocs frame_1_statics s) 96 8576 → Post tb e args s (.returned v) u) :
    ArmFor flags0 classFile x code maxLocals ret World_1 tables_1 room_1 Calls_1 rest_1 Pre_1 Post := by
  intro l hfl _ _ p e ha hc hk s m args below hf hA hF happ hP
  obtain ⟨hcalls, hrest, hpre⟩ := hP
  obtain ⟨-, -, -, hnamed, -, -, -, hat⟩ := (Spec.applies_iff hf).mp happ
  obtain ⟨hg, hn⟩ := and_e (Cond.before_iff.mp (show (Jvm.Cond.and given_1 narrow_1).before args s = true from hpre))
  obtain ⟨u1, u2⟩ := and_e hg
  obtain ⟨u3, u4⟩ := and_e u2
  obtain ⟨w0, w1, rfl⟩ : ∃ w0 w1 : Value, args = #[w0, w1] := by
    have hs : args.size = 2 := by simpa [Cond.value, given_1] using u1
    obtain ⟨L⟩ := args
    match L, hs with
    | [w0, w1], _ => exact ⟨w0, w1, rfl⟩
  have hw := fun d (hd : d ∈ tables_1) => atoms_spec (ws := Jvm.Cond.code x code maxLocals ret :: tables_1) hat d (List.mem_cons_of_mem _ hd)
  obtain ⟨hsets, hown0⟩ := atoms_of _ (rest_1_c_eq ▸ (show rest_1_c.before _ s = true from hrest))
  obtain ⟨i0, ei0⟩ := isL_v u3
  obtain rfl : w0 = (.long i0) := Option.some.inj ei0
  obtain ⟨i1, ei1⟩ := is_v u4
  obtain rfl : w1 = (.int i1) := Option.some.inj ei1
  obtain ⟨G1, evG⟩ := is_v (Cond.before_iff.mp (hsets _ (List.mem_of_getElem? (i := 1) rfl)))
  have hcw : Jvm.Lit.compactW.before _ s = true := (hsets _ (List.mem_of_getElem? (i := 2) rfl))
  obtain ⟨fm, evF, hfr⟩ := isR_v (Cond.before_iff.mp (hsets _ (List.mem_of_getElem? (i := 8) rfl)))
  have hG1 : ¬ G1 = 0 := fun e => by subst e; simp [Jvm.Lit.compactW, Cond.before, Cond.holds, Cond.value, evG] at hcw; simp [Term.eval] at hcw
  have hG : own_G s G1 fm := ⟨Sta.start evG (Or.inl (hsets _ (List.mem_of_getElem? (i := 0) rfl))), hG1, Sta.start evF (Or.inl (hsets _ (List.mem_of_getElem? (i := 7) rfl))), hfr⟩
  obtain ⟨d1, kd1, sd1, ad1⟩ := own_digst (s := s) (f := fun j => Int32.ofNat (48 + j % 10)) ((own_w hw 15 rfl)) (hsets _ (List.mem_of_getElem? (i := 11) rfl)) (hsets _ (List.mem_of_getElem? (i := 12) rfl)) (hsets _ (List.mem_of_getElem? (i := 13) rfl)) (hsets _ (List.mem_of_getElem? (i := 14) rfl)) (fun j hj => by simp [Term.eval, ← own_o1 j hj]) own_f1
  obtain ⟨d2, kd2, sd2, ad2⟩ := own_digst (s := s) (f := fun j => Int32.ofNat (48 + j / 10)) ((own_w hw 15 rfl)) (hsets _ (List.mem_of_getElem? (i := 16) rfl)) (hsets _ (List.mem_of_getElem? (i := 17) rfl)) (hsets _ (List.mem_of_getElem? (i := 18) rfl)) (hsets _ (List.mem_of_getElem? (i := 19) rfl)) (fun j hj => by simp [Term.eval, ← own_o2 j hj]) own_f2
  have hD : own_D s d1 kd1 d2 kd2 := ⟨sd1, ad1, sd2, ad2⟩
  have hEL : EW s _ consts_1 := (EW.cons (own_w hw 61 rfl) (by decide +kernel) (EW.cons (own_w hw 158 rfl) (by decide +kernel) (EW.cons (own_w hw 159 rfl) (by decide +kernel) (EW.cons (own_w hw 160 rfl) (by decide +kernel) (EW.cons (own_w hw 251 rfl) (by decide +kernel) (EW.cons (own_w hw 261 rfl) (by decide +kernel) (EW.cons (own_w hw 14 rfl) (by decide +kernel) EW.nil)))))))
  have hCH : CHv s consts_1 s.vm s.heap := CHv.start hEL (fun p hp => hcalls.1 p hp) hcw (own_w hw 15 rfl) (own_w hw 1 rfl)
  obtain ⟨n, o, h1, h2, h3, _, L, rfl, ⟨rfl, N⟩, hq⟩ := con_law l s _ hw i0 i1 s.heap s.heap.size (Nat.le_refl _) G1 fm hG ⟨Old.start s, Nat.le_refl _⟩ hEL d1 d2 kd1 kd2 hD  tables_1 p e ha hc hk s m _ below hf ((Spec.applies_iff_loose hf).mp happ).1 ⟨rfl, State.Warmed39.refl s, rfl, hCH⟩ trivial
  refine ⟨n, _, h1, h2, h3, hpost _ _ _ _ _ _ ⟨Cond.after_iff.mpr rfl, Cond.after_iff.mpr (eq_i res_at (Term.int_eval (1)) rfl), trivial⟩ ⟨hq.1, hq.2.1, hq.2.2.1, (hq.2.2.2.sift fun y hy => Or.inr (N y hy)).mono (by decide) (by decide)⟩⟩
theorem main_1_1 : Claimed_1_1 := comes_1 fun _ _ _ _ _ _ h hF => ⟨h.1, hF⟩
theorem main_1_2 : Claimed_1_2 := comes_1 fun _ _ _ _ _ _ h hF => ⟨h.2.1, hF⟩
end Jvm.Pilot.@@N@@
namespace Jvm.Pilot.@@N@@
open Jvm Jvm.ClassFile Sem Op Lib Jvm.Free Jvm.Stand Jvm.Pilot.@@N@@.Jvm.D
/-! MADE BY PROGRAM (witnessworld.py) out of the Statement's table words and the real class files: 32 classes; the members and pool entries that the words name. The judged class is class 1, her method 1. -/
namespace start1
open Jvm.ClassFile
def u (s : String) : CpInfo := .utf8 (stringToUtf16 s)
/-- a pool by its gaps: so many unusable entries, then the entry; so many at the end -/
def gap : Nat → List CpInfo → List CpInfo
  | 0, r => r
  | n + 1, r => .unusable :: gap n r
def poolList (es : List (Nat × CpInfo)) (last : Nat) : List CpInfo := es.foldr (fun e r => gap e.1 (e.2 :: r)) (gap last [])
def pool (es : List (Nat × CpInfo)) (last : Nat) : Array CpInfo := ⟨poolList es last⟩
def fileOf (pool : Array CpInfo) (this : Nat) (attrs : Array Attribute := #[]) (ms : Array MethodInfo := #[]) (fl : Nat := 33) (sup : Nat := 0) (ifs : Array Nat := #[]) (fds : Array FieldInfo := #[]) : ClassFile where
  minorVersion := 0
  majorVersion := 65
  constantPool := pool
  accessFlags := fl
  thisClass := this
  superClass := sup
  interfaces := ifs
  fields := fds
  methods := ms
  attributes := attrs
def plain (name : String) (sup : Option ClassId) : Class where
  name := name
  kind := .ordinary
  loader := none
  accessFlags := 33
  super := sup
  interfaces := #[]
  cf := none
  fields := #[]
  methods := #[]
  instanceTypes := #[]
  staticTypes := #[]
  resolved := #[]
  callSites := []
  init := .initialized
  statics := none
  mirror := none

def pool0 : Array CpInfo := pool [(5, u "<init>"), (0, u "()V"), (1, .class_ 10), (1, u "java/lang/Object")] 113

def k0c0 : Code := { maxStack := 0, maxLocals := 1, code := object_method_1_code, exceptionTable := #[], attributes := #[] }
def k0m0 : Method := { name := "<init>", desc := "()V", sig := { parameters := [], returnType := none }, accessFlags := 1, code := some k0c0 }
/-- java/lang/Object -/
def k0 : Class := { plain "java/lang/Object" none with
  accessFlags := 33
  interfaces := #[]
  cf := some (fileOf pool0 8 #[] #[{ accessFlags := 1, nameIndex := 5, descriptorIndex := 6, attributes := #[] }] 33 0 #[] #[])
  fields := #[]
  methods := #[k0m0]
  instanceTypes := #[]
  staticTypes := #[]
  resolved := Array.replicate 124 none
  statics := none }

def pool1 : Array CpInfo := pool [(2, .class_ 4), (1, u "java/lang/Object"), (0, u "<init>"), (0, u "()V"), (0, .class_ 8), (0, u "java/lang/String"), (0, .methodref 7 10), (0, .nameAndType 5 11), (0, u "([C)V"), (0, .methodref 7 13), (0, .nameAndType 14 15), (0, u "valueOf"), (0, u "(C)Ljava/lang/String;"), (0, .class_ 17), (0, u "com/example/ossify/ossify/AppendReport$TornTail"), (0, .methodref 16 19), (0, .nameAndType 5 20), (0, u "(Ljava/lang/String;J)V"), (0, .methodref 16 22), (0, .nameAndType 23 24), (0, u "describe"), (0, u "()Ljava/lang/String;"), (0, .methodref 26 27), (0, .class_ 28), (0, .nameAndType 29 30), (0, u "com/example/ossify/ossify/TornTailDescribePinLaw"), (0, u "digitCount"), (0, u "(J)I"), (0, .methodref 7 32), (0, .nameAndType 33 34), (0, u "length"), (0, u "()I"), (0, .methodref 7 36), (0, .nameAndType 37 38), (0, u "charAt"), (0, u "(I)C"), (0, .string 40), (0, u "removed torn tail of "), (0, .methodref 7 42), (0, .nameAndType 43 44), (0, u "equals"), (0, u "(Ljava/lang/Object;)Z"), (0, .string 46), (0, u " bytes from segments/"), (0, .methodref 26 48), (0, .nameAndType 49 50), (0, u "dig"), (0, u "(Ljava/lang/String;IJII)Z"), (0, .long 18446744073709551606), (1, .long 18446744073709551516), (1, .long 18446744073709550616), (1, .long 18446744073709541616), (1, .long 18446744073709451616), (1, .long 18446744073708551616), (1, .long 18446744073699551616), (1, .long 18446744073609551616), (1, .long 18446744072709551616), (1, .long 18446744063709551616), (1, .long 18446743973709551616), (1, .long 18446743073709551616), (1, .long 18446734073709551616), (1, .long 18446644073709551616), (1, .long 18445744073709551616), (1, .long 18436744073709551616), (1, .long 18346744073709551616), (1, .long 17446744073709551616), (1, .long 10), (1, .long 100), (1, .long 1000), (1, .long 10000), (1, .long 100000), (1, .long 1000000), (1, .long 10000000), (1, .long 100000000), (1, .long 1000000000), (1, .long 10000000000), (1, .long 100000000000), (1, .long 1000000000000), (1, .long 10000000000000), (1, .long 100000000000000), (1, .long 1000000000000000), (1, .long 10000000000000000), (1, .long 100000000000000000), (1, .long 1000000000000000000), (1, .methodref 26 124), (0, .nameAndType 125 126), (0, u "pow10"), (0, u "(I)J"), (0, .methodref 128 129), (0, .class_ 130), (0, .nameAndType 131 132), (0, u "java/lang/Math"), (0, u "abs"), (0, u "(J)J"), (2, u "law"), (0, u "(JI)Z")] 7

def k1m0 : Method := { name := "<init>", desc := "()V", sig := { parameters := [], returnType := none }, accessFlags := 1, code := none }
def k1c1 : Code := { maxStack := 8, maxLocals := 20, code := code, exceptionTable := #[], attributes := #[] }
def k1m1 : Method := { name := "law", desc := "(JI)Z", sig := { parameters := [.long, .int], returnType := some .boolean }, accessFlags := 9, code := some k1c1 }
def k1c2 : Code := { maxStack := 5, maxLocals := 4, code := method_3_code, exceptionTable := #[], attributes := #[] }
def k1m2 : Method := { name := "digitCount", desc := "(J)I", sig := { parameters := [.long], returnType := some .int }, accessFlags := 10, code := some k1c2 }
def k1c3 : Code := { maxStack := 5, maxLocals := 2, code := method_4_code, exceptionTable := #[], attributes := #[] }
def k1m3 : Method := { name := "pow10", desc := "(I)J", sig := { parameters := [.int], returnType := some .long }, accessFlags := 10, code := some k1c3 }
def k1c4 : Code := { maxStack := 4, maxLocals := 9, code := method_5_code, exceptionTable := #[], attributes := #[] }
def k1m4 : Method := { name := "dig", desc := "(Ljava/lang/String;IJII)Z", sig := { parameters := [(.object "java/lang/String"), .int, .long, .int, .int], returnType := some .boolean }, accessFlags := 10, code := some k1c4 }
/-- com/example/ossify/ossify/TornTailDescribePinLaw -/
def k1 : Class := { plain "com/example/ossify/ossify/TornTailDescribePinLaw" (some 0) with
  accessFlags := 49
  interfaces := #[]
  cf := some (fileOf pool1 26 #[] #[{ accessFlags := 1, nameIndex := 5, descriptorIndex := 6, attributes := #[] }, { accessFlags := 9, nameIndex := 135, descriptorIndex := 136, attributes := #[] }, { accessFlags := 10, nameIndex := 29, descriptorIndex := 30, attributes := #[] }, { accessFlags := 10, nameIndex := 125, descriptorIndex := 126, attributes := #[] }, { accessFlags := 10, nameIndex := 49, descriptorIndex := 50, attributes := #[] }] 49 2 #[] #[])
  fields := #[]
  methods := #[k1m0, k1m1, k1m2, k1m3, k1m4]
  instanceTypes := #[]
  staticTypes := #[]
  resolved := Array.replicate 144 none
  statics := none }

def pool2 : Array CpInfo := pool [(1, .class_ 2), (0, u "java/io/Serializable"), (0, .class_ 4), (0, u "java/lang/Object")] 2

/-- java/io/Serializable -/
def k2 : Class := { plain "java/io/Serializable" (some 0) with
  accessFlags := 1537
  interfaces := #[]
  cf := some (fileOf pool2 1 #[] #[] 1537 3 #[] #[])
  fields := #[]
  methods := #[]
  instanceTypes := #[]
  staticTypes := #[]
  resolved := Array.replicate 7 none
  statics := none }

def pool3 : Array CpInfo := pool [(1, .class_ 2), (0, u "java/lang/Comparable"), (0, .class_ 4), (0, u "java/lang/Object")] 7

/-- java/lang/Comparable -/
def k3 : Class := { plain "java/lang/Comparable" (some 0) with
  accessFlags := 1537
  interfaces := #[]
  cf := some (fileOf pool3 1 #[] #[] 1537 3 #[] #[])
  fields := #[]
  methods := #[]
  instanceTypes := #[]
  staticTypes := #[]
  resolved := Array.replicate 12 none
  statics := none }

def pool4 : Array CpInfo := pool [(2, .class_ 4), (1, u "java/lang/CharSequence"), (42, .class_ 48), (0, u "java/lang/CharSequence$1CodePointIterator"), (10, .class_ 60), (0, u "java/lang/CharSequence$1CharIterator"), (5, .class_ 67), (0, u "java/lang/Object")] 63

/-- java/lang/CharSequence -/
def k4 : Class := { plain "java/lang/CharSequence" (some 0) with
  accessFlags := 1537
  interfaces := #[]
  cf := some (fileOf pool4 2 #[.nestMembers #[47, 59]] #[] 1537 66 #[] #[])
  fields := #[]
  methods := #[]
  instanceTypes := #[]
  staticTypes := #[]
  resolved := Array.replicate 131 none
  statics := none }

def pool5 : Array CpInfo := pool [(1, .class_ 2), (0, u "java/lang/constant/Constable"), (0, .class_ 4), (0, u "java/lang/Object")] 6

/-- java/lang/constant/Constable -/
def k5 : Class := { plain "java/lang/constant/Constable" (some 0) with
  accessFlags := 1537
  interfaces := #[]
  cf := some (fileOf pool5 1 #[] #[] 1537 3 #[] #[])
  fields := #[]
  methods := #[]
  instanceTypes := #[]
  staticTypes := #[]
  resolved := Array.replicate 11 none
  statics := none }

def pool6 : Array CpInfo := pool [(1, .class_ 2), (0, u "java/lang/constant/ConstantDesc"), (0, .class_ 4), (0, u "java/lang/Object")] 32

/-- java/lang/constant/ConstantDesc -/
def k6 : Class := { plain "java/lang/constant/ConstantDesc" (some 0) with
  accessFlags := 1537
  interfaces := #[]
  cf := some (fileOf pool6 1 #[] #[] 1537 3 #[] #[])
  fields := #[]
  methods := #[]
  instanceTypes := #[]
  staticTypes := #[]
  resolved := Array.replicate 37 none
  statics := none }

def pool7 : Array CpInfo := pool [(1, .methodref 2 3), (0, .class_ 4), (0, .nameAndType 5 6), (0, u "java/lang/Object"), (0, u "<init>"), (0, u "()V"), (0, .string 8), (0, u ""), (0, .fieldref 10 11), (0, .class_ 12), (0, .nameAndType 13 14), (0, u "java/lang/String"), (0, u "value"), (0, u "[B"), (0, .fieldref 10 16), (0, .nameAndType 17 18), (0, u "coder"), (0, u "B"), (2, u "hash"), (0, u "I"), (2, u "hashIsZero"), (0, u "Z"), (0, .methodref 10 28), (0, .nameAndType 5 29), (0, u "([CIILjava/lang/Void;)V"), (8, .fieldref 10 39), (0, .nameAndType 40 26), (0, u "COMPACT_STRINGS"), (1, .class_ 44), (1, u "java/lang/StringUTF16"), (0, u "compress"), (1, .methodref 42 48), (0, .nameAndType 49 50), (0, u "coderFromArrayLen"), (0, u "([BI)B"), (2, u "toBytes"), (0, .methodref 55 56), (0, .class_ 57), (0, .nameAndType 58 59), (0, u "java/util/Arrays"), (0, u "copyOfRange"), (0, u "([BII)[B"), (47, .class_ 109), (1, u "java/lang/StringLatin1"), (32, u "()Z"), (34, .methodref 42 178), (0, .nameAndType 45 179), (0, u "([CII)[B"), (13, .class_ 195), (1, u "java/lang/System"), (13, .methodref 10 210), (0, .nameAndType 5 211), (0, u "([BB)V"), (0, .methodref 193 213), (0, .nameAndType 214 215), (0, u "arraycopy"), (0, u "(Ljava/lang/Object;ILjava/lang/Object;II)V"), (118, u "()I"), (0, .methodref 10 336), (0, .nameAndType 17 337), (0, u "()B"), (2, u "()[B"), (22, u "([BI)C"), (5, u "(C)Z"), (21, u "(II)V"), (35, u "(I)C"), (61, .methodref 10 490), (0, .nameAndType 5 491), (0, u "(Ljava/lang/AbstractStringBuilder;Ljava/lang/Void;)V"), (0, .methodref 10 493), (0, .nameAndType 494 142), (0, u "isLatin1"), (0, .methodref 107 496), (0, .nameAndType 497 363), (0, u "charAt"), (3, u "checkIndex"), (4, .nameAndType 507 334), (0, u "length"), (24, u "getBytes"), (8, .methodref 107 542), (0, .nameAndType 543 544), (0, u "equals"), (0, u "([B[B)Z"), (4, .methodref 550 506), (0, .class_ 551), (0, u "java/lang/AbstractStringBuilder"), (0, .methodref 550 553), (0, .nameAndType 554 340), (0, u "getValue"), (18, u "(Ljava/lang/Object;)Z"), (1, .class_ 576), (0, u "java/lang/CharSequence"), (22, u "CASE_INSENSITIVE_ORDER"), (0, u "Ljava/util/Comparator;"), (181, u "valueOf"), (0, u "(C)Ljava/lang/String;"), (37, u "([BIB)V"), (188, u "([C)V"), (4, .methodref 107 1016), (0, .nameAndType 1017 369), (0, u "canEncode"), (0, .methodref 107 1019), (0, .nameAndType 53 1020), (0, u "(C)[B"), (26, .methodref 550 493), (5, .fieldref 1054 1055), (0, .class_ 1056), (0, .nameAndType 1057 1058), (0, u "jdk/internal/util/Preconditions"), (0, u "SIOOBE_FORMATTER"), (0, u "Ljava/util/function/BiFunction;"), (0, .methodref 1054 1060), (0, .nameAndType 501 1061), (0, u "(IILjava/util/function/BiFunction;)I"), (39, u "serialPersistentFields"), (0, u "[Ljava/io/ObjectStreamField;"), (0, .class_ 1104), (0, u "java/lang/String$CaseInsensitiveComparator"), (1, .class_ 1107), (0, u "java/io/Serializable"), (0, .class_ 1109), (0, u "java/lang/Comparable"), (0, .class_ 1111), (0, u "java/lang/constant/Constable"), (0, .class_ 1113), (0, u "java/lang/constant/ConstantDesc"), (2, u "serialVersionUID"), (0, u "J"), (3, u "REPL"), (0, u "C"), (2, u "LATIN1"), (1, u "UTF16"), (105, u "(Ljava/lang/StringBuilder;)V")] 217

def k7m0 : Method := { name := "<init>", desc := "()V", sig := { parameters := [], returnType := none }, accessFlags := 1, code := none }
def k7c1 : Code := { maxStack := 5, maxLocals := 2, code := jdk_42_method_3_code, exceptionTable := #[], attributes := #[] }
def k7m1 : Method := { name := "<init>", desc := "([C)V", sig := { parameters := [(.array .char)], returnType := none }, accessFlags := 1, code := some k7c1 }
def k7c2 : Code := { maxStack := 3, maxLocals := 2, code := jdk_42_method_53_code, exceptionTable := #[], attributes := #[] }
def k7m2 : Method := { name := "<init>", desc := "(Ljava/lang/StringBuilder;)V", sig := { parameters := [(.object "java/lang/StringBuilder")], returnType := none }, accessFlags := 1, code := some k7c2 }
def k7c3 : Code := { maxStack := 2, maxLocals := 1, code := jdk_42_method_54_code, exceptionTable := #[], attributes := #[] }
def k7m3 : Method := { name := "length", desc := "()I", sig := { parameters := [], returnType := some .int }, accessFlags := 1, code := some k7c3 }
def k7c4 : Code := { maxStack := 2, maxLocals := 2, code := jdk_42_method_56_code, exceptionTable := #[], attributes := #[] }
def k7m4 : Method := { name := "charAt", desc := "(I)C", sig := { parameters := [.int], returnType := some .char }, accessFlags := 1, code := some k7c4 }
def k7c5 : Code := { maxStack := 2, maxLocals := 3, code := jdk_42_method_66_code, exceptionTable := #[], attributes := #[] }
def k7m5 : Method := { name := "equals", desc := "(Ljava/lang/Object;)Z", sig := { parameters := [(.object "java/lang/Object")], returnType := some .boolean }, accessFlags := 1, code := some k7c5 }
def k7c6 : Code := { maxStack := 4, maxLocals := 1, code := jdk_42_method_139_code, exceptionTable := #[], attributes := #[] }
def k7m6 : Method := { name := "valueOf", desc := "(C)Ljava/lang/String;", sig := { parameters := [.char], returnType := some (.object "java/lang/String") }, accessFlags := 9, code := some k7c6 }
def k7c7 : Code := { maxStack := 5, maxLocals := 4, code := jdk_42_method_147_code, exceptionTable := #[], attributes := #[] }
def k7m7 : Method := { name := "getBytes", desc := "([BIB)V", sig := { parameters := [(.array .byte), .int, .byte], returnType := none }, accessFlags := 0, code := some k7c7 }
def k7c8 : Code := { maxStack := 4, maxLocals := 6, code := jdk_42_method_149_code, exceptionTable := #[], attributes := #[] }
def k7m8 : Method := { name := "<init>", desc := "([CIILjava/lang/Void;)V", sig := { parameters := [(.array .char), .int, .int, (.object "java/lang/Void")], returnType := none }, accessFlags := 2, code := some k7c8 }
def k7c9 : Code := { maxStack := 5, maxLocals := 5, code := jdk_42_method_150_code, exceptionTable := #[], attributes := #[] }
def k7m9 : Method := { name := "<init>", desc := "(Ljava/lang/AbstractStringBuilder;Ljava/lang/Void;)V", sig := { parameters := [(.object "java/lang/AbstractStringBuilder"), (.object "java/lang/Void")], returnType := none }, accessFlags := 0, code := some k7c9 }
def k7c10 : Code := { maxStack := 2, maxLocals := 3, code := jdk_42_method_151_code, exceptionTable := #[], attributes := #[] }
def k7m10 : Method := { name := "<init>", desc := "([BB)V", sig := { parameters := [(.array .byte), .byte], returnType := none }, accessFlags := 0, code := some k7c10 }
def k7c11 : Code := { maxStack := 1, maxLocals := 1, code := jdk_42_method_152_code, exceptionTable := #[], attributes := #[] }
def k7m11 : Method := { name := "coder", desc := "()B", sig := { parameters := [], returnType := some .byte }, accessFlags := 0, code := some k7c11 }
def k7c12 : Code := { maxStack := 1, maxLocals := 1, code := jdk_42_method_154_code, exceptionTable := #[], attributes := #[] }
def k7m12 : Method := { name := "isLatin1", desc := "()Z", sig := { parameters := [], returnType := some .boolean }, accessFlags := 0, code := some k7c12 }
def k7c13 : Code := { maxStack := 3, maxLocals := 2, code := jdk_42_method_155_code, exceptionTable := #[], attributes := #[] }
def k7m13 : Method := { name := "checkIndex", desc := "(II)V", sig := { parameters := [.int, .int], returnType := none }, accessFlags := 8, code := some k7c13 }
/-- java/lang/String -/
def k7 : Class := { plain "java/lang/String" (some 0) with
  accessFlags := 49
  interfaces := #[2, 3, 4, 5, 6]
  cf := some (fileOf pool7 10 #[.nestMembers #[1103]] #[{ accessFlags := 1, nameIndex := 5, descriptorIndex := 6, attributes := #[] }, { accessFlags := 1, nameIndex := 5, descriptorIndex := 1010, attributes := #[] }, { accessFlags := 1, nameIndex := 5, descriptorIndex := 1233, attributes := #[] }, { accessFlags := 1, nameIndex := 507, descriptorIndex := 334, attributes := #[] }, { accessFlags := 1, nameIndex := 497, descriptorIndex := 427, attributes := #[] }, { accessFlags := 1, nameIndex := 543, descriptorIndex := 573, attributes := #[] }, { accessFlags := 9, nameIndex := 782, descriptorIndex := 783, attributes := #[] }, { accessFlags := 0, nameIndex := 532, descriptorIndex := 821, attributes := #[] }, { accessFlags := 2, nameIndex := 5, descriptorIndex := 29, attributes := #[] }, { accessFlags := 0, nameIndex := 5, descriptorIndex := 491, attributes := #[] }, { accessFlags := 0, nameIndex := 5, descriptorIndex := 211, attributes := #[] }, { accessFlags := 0, nameIndex := 17, descriptorIndex := 337, attributes := #[] }, { accessFlags := 0, nameIndex := 494, descriptorIndex := 142, attributes := #[] }, { accessFlags := 8, nameIndex := 501, descriptorIndex := 391, attributes := #[] }] 49 2 #[1106, 1108, 575, 1110, 1112] #[{ accessFlags := 18, nameIndex := 13, descriptorIndex := 14, attributes := #[] }, { accessFlags := 18, nameIndex := 17, descriptorIndex := 18, attributes := #[] }, { accessFlags := 2, nameIndex := 21, descriptorIndex := 22, attributes := #[] }, { accessFlags := 2, nameIndex := 25, descriptorIndex := 26, attributes := #[] }, { accessFlags := 26, nameIndex := 1116, descriptorIndex := 1117, attributes := #[] }, { accessFlags := 24, nameIndex := 40, descriptorIndex := 26, attributes := #[] }, { accessFlags := 26, nameIndex := 1101, descriptorIndex := 1102, attributes := #[] }, { accessFlags := 26, nameIndex := 1121, descriptorIndex := 1122, attributes := #[] }, { accessFlags := 25, nameIndex := 599, descriptorIndex := 600, attributes := #[] }, { accessFlags := 24, nameIndex := 1125, descriptorIndex := 18, attributes := #[] }, { accessFlags := 24, nameIndex := 1127, descriptorIndex := 18, attributes := #[] }])
  fields := #[{ name := "value", type := (.array .byte), accessFlags := 18, slot := 0, constantValue := 0 }, { name := "coder", type := .byte, accessFlags := 18, slot := 1, constantValue := 0 }, { name := "hash", type := .int, accessFlags := 2, slot := 2, constantValue := 0 }, { name := "hashIsZero", type := .boolean, accessFlags := 2, slot := 3, constantValue := 0 }, { name := "serialVersionUID", type := .long, accessFlags := 26, slot := 0, constantValue := 0 }, { name := "COMPACT_STRINGS", type := .boolean, accessFlags := 24, slot := 1, constantValue := 0 }, { name := "serialPersistentFields", type := (.array (.object "java/io/ObjectStreamField")), accessFlags := 26, slot := 2, constantValue := 0 }, { name := "REPL", type := .char, accessFlags := 26, slot := 3, constantValue := 0 }, { name := "CASE_INSENSITIVE_ORDER", type := (.object "java/util/Comparator"), accessFlags := 25, slot := 4, constantValue := 0 }, { name := "LATIN1", type := .byte, accessFlags := 24, slot := 5, constantValue := 0 }, { name := "UTF16", type := .byte, accessFlags := 24, slot := 6, constantValue := 0 }]
  methods := #[k7m0, k7m1, k7m2, k7m3, k7m4, k7m5, k7m6, k7m7, k7m8, k7m9, k7m10, k7m11, k7m12, k7m13]
  instanceTypes := #[(.array .byte), .byte, .int, .boolean]
  staticTypes := #[.long, .boolean, (.array (.object "java/io/ObjectStreamField")), .char, (.object "java/util/Comparator"), .byte, .byte]
  resolved := Array.replicate 1451 none
  statics := some 0 }

def pool8 : Array CpInfo := pool [(1, .methodref 2 3), (0, .class_ 4), (0, .nameAndType 5 6), (0, u "java/lang/Object"), (0, u "<init>"), (0, u "()V"), (0, .class_ 8), (0, u "java/lang/Record")] 13

def k8c0 : Code := { maxStack := 1, maxLocals := 1, code := jdk_30_method_1_code, exceptionTable := #[], attributes := #[] }
def k8m0 : Method := { name := "<init>", desc := "()V", sig := { parameters := [], returnType := none }, accessFlags := 4, code := some k8c0 }
/-- java/lang/Record -/
def k8 : Class := { plain "java/lang/Record" (some 0) with
  accessFlags := 1057
  interfaces := #[]
  cf := some (fileOf pool8 7 #[] #[{ accessFlags := 4, nameIndex := 5, descriptorIndex := 6, attributes := #[] }] 1057 2 #[] #[])
  fields := #[]
  methods := #[k8m0]
  instanceTypes := #[]
  staticTypes := #[]
  resolved := Array.replicate 22 none
  statics := none }

def pool9 : Array CpInfo := pool [(1, .methodref 2 3), (0, .class_ 4), (0, .nameAndType 5 6), (0, u "java/lang/Record"), (0, u "<init>"), (0, u "()V"), (0, .fieldref 8 9), (0, .class_ 10), (0, .nameAndType 11 12), (0, u "com/example/ossify/ossify/AppendReport$TornTail"), (0, u "segment"), (0, u "Ljava/lang/String;"), (0, .fieldref 8 14), (0, .nameAndType 15 16), (0, u "bytes"), (0, u "J"), (0, .class_ 18), (0, u "java/lang/StringBuilder"), (0, .methodref 17 3), (0, .string 21), (0, u "removed torn tail of "), (0, .methodref 17 23), (0, .nameAndType 24 25), (0, u "append"), (0, u "(Ljava/lang/String;)Ljava/lang/StringBuilder;"), (0, .methodref 17 27), (0, .nameAndType 24 28), (0, u "(J)Ljava/lang/StringBuilder;"), (0, .string 30), (0, u " bytes from "), (2, .string 34), (0, u "segments"), (0, .string 36), (0, u "/"), (0, .methodref 17 38), (0, .nameAndType 39 40), (0, u "toString"), (0, u "()Ljava/lang/String;"), (11, u "(Ljava/lang/String;J)V"), (3, u "describe"), (6, .class_ 64), (0, u "com/example/ossify/ossify/AppendReport")] 20

def k9c0 : Code := { maxStack := 3, maxLocals := 4, code := prog_3_method_1_code, exceptionTable := #[], attributes := #[] }
def k9m0 : Method := { name := "<init>", desc := "(Ljava/lang/String;J)V", sig := { parameters := [(.object "java/lang/String"), .long], returnType := none }, accessFlags := 1, code := some k9c0 }
def k9c1 : Code := { maxStack := 3, maxLocals := 1, code := prog_3_method_2_code, exceptionTable := #[], attributes := #[] }
def k9m1 : Method := { name := "describe", desc := "()Ljava/lang/String;", sig := { parameters := [], returnType := some (.object "java/lang/String") }, accessFlags := 1, code := some k9c1 }
/-- com/example/ossify/ossify/AppendReport$TornTail -/
def k9 : Class := { plain "com/example/ossify/ossify/AppendReport$TornTail" (some 8) with
  accessFlags := 49
  interfaces := #[]
  cf := some (fileOf pool9 8 #[.nestHost 63] #[{ accessFlags := 1, nameIndex := 5, descriptorIndex := 52, attributes := #[] }, { accessFlags := 1, nameIndex := 56, descriptorIndex := 40, attributes := #[] }] 49 2 #[] #[{ accessFlags := 18, nameIndex := 11, descriptorIndex := 12, attributes := #[] }, { accessFlags := 18, nameIndex := 15, descriptorIndex := 16, attributes := #[] }])
  fields := #[{ name := "segment", type := (.object "java/lang/String"), accessFlags := 18, slot := 0, constantValue := 0 }, { name := "bytes", type := .long, accessFlags := 18, slot := 1, constantValue := 0 }]
  methods := #[k9m0, k9m1]
  instanceTypes := #[(.object "java/lang/String"), .long]
  staticTypes := #[]
  resolved := Array.replicate 85 none
  statics := none }

def pool10 : Array CpInfo := pool [(1, .class_ 2), (0, u "java/lang/Appendable"), (0, .class_ 4), (0, u "java/lang/Object")] 9

/-- java/lang/Appendable -/
def k10 : Class := { plain "java/lang/Appendable" (some 0) with
  accessFlags := 1537
  interfaces := #[]
  cf := some (fileOf pool10 1 #[] #[] 1537 3 #[] #[])
  fields := #[]
  methods := #[]
  instanceTypes := #[]
  staticTypes := #[]
  resolved := Array.replicate 14 none
  statics := none }

def pool11 : Array CpInfo := pool [(1, .class_ 2), (0, u "java/lang/String"), (0, .methodref 4 5), (0, .class_ 6), (0, .nameAndType 7 8), (0, u "java/lang/Object"), (0, u "<init>"), (0, u "()V"), (1, .class_ 12), (1, u "java/lang/AbstractStringBuilder"), (0, u "EMPTYVALUE"), (0, u "[B"), (0, .fieldref 10 16), (0, .nameAndType 17 14), (0, u "value"), (0, .fieldref 1 19), (0, .nameAndType 20 21), (0, u "COMPACT_STRINGS"), (0, u "Z"), (0, .fieldref 10 23), (0, .nameAndType 24 25), (0, u "coder"), (0, u "B"), (6, .methodref 1 33), (0, .nameAndType 34 35), (0, u "length"), (0, u "()I"), (3, .integer 2147483647), (0, .methodref 1 41), (0, .nameAndType 24 42), (0, u "()B"), (2, u "append"), (0, u "(Ljava/lang/String;)Ljava/lang/AbstractStringBuilder;"), (1, .class_ 49), (0, u "java/lang/CharSequence"), (19, u "(Ljava/lang/String;)V"), (5, u "maybeLatin1"), (3, .fieldref 10 80), (0, .nameAndType 81 82), (0, u "count"), (0, u "I"), (0, .methodref 10 84), (0, .nameAndType 85 86), (0, u "isLatin1"), (0, u "()Z"), (13, .methodref 10 101), (0, .nameAndType 102 103), (0, u "ensureCapacityInternal"), (0, u "(I)V"), (0, .methodref 10 105), (0, .nameAndType 106 107), (0, u "newCapacity"), (0, u "(I)I"), (0, .methodref 109 110), (0, .class_ 111), (0, .nameAndType 112 113), (0, u "java/util/Arrays"), (0, u "copyOf"), (0, u "([BI)[B"), (0, .methodref 115 116), (0, .class_ 117), (0, .nameAndType 118 119), (0, u "jdk/internal/util/ArraysSupport"), (0, u "newLength"), (0, u "(III)I"), (68, u "getChars"), (19, .methodref 10 209), (0, .nameAndType 210 211), (0, u "putStringAt"), (0, u "(ILjava/lang/String;)V"), (5, u "inflateIfNeededFor"), (2, .nameAndType 221 222), (0, u "getBytes"), (0, u "([BIB)V"), (24, u "stringSize"), (6, .methodref 255 256), (0, .class_ 257), (0, .nameAndType 247 258), (0, u "java/lang/Long"), (0, u "(J)I"), (0, .methodref 255 260), (0, .nameAndType 188 261), (0, u "(JI[B)I"), (135, .methodref 10 398), (0, .nameAndType 217 69), (0, .methodref 1 220), (3, u "()[B"), (40, .class_ 445), (0, u "java/lang/Appendable"), (67, u "(J)Ljava/lang/AbstractStringBuilder;"), (38, u "getValue")] 56

def k11m0 : Method := { name := "<init>", desc := "()V", sig := { parameters := [], returnType := none }, accessFlags := 0, code := none }
def k11c1 : Code := { maxStack := 2, maxLocals := 2, code := jdk_68_method_2_code, exceptionTable := #[], attributes := #[] }
def k11m1 : Method := { name := "<init>", desc := "(I)V", sig := { parameters := [.int], returnType := none }, accessFlags := 0, code := some k11c1 }
def k11c2 : Code := { maxStack := 1, maxLocals := 1, code := jdk_68_method_6_code, exceptionTable := #[], attributes := #[] }
def k11m2 : Method := { name := "length", desc := "()I", sig := { parameters := [], returnType := some .int }, accessFlags := 1, code := some k11c2 }
def k11c3 : Code := { maxStack := 4, maxLocals := 3, code := jdk_68_method_9_code, exceptionTable := #[], attributes := #[] }
def k11m3 : Method := { name := "ensureCapacityInternal", desc := "(I)V", sig := { parameters := [.int], returnType := none }, accessFlags := 2, code := some k11c3 }
def k11c4 : Code := { maxStack := 5, maxLocals := 6, code := jdk_68_method_10_code, exceptionTable := #[], attributes := #[] }
def k11m4 : Method := { name := "newCapacity", desc := "(I)I", sig := { parameters := [.int], returnType := some .int }, accessFlags := 2, code := some k11c4 }
def k11c5 : Code := { maxStack := 3, maxLocals := 3, code := jdk_68_method_22_code, exceptionTable := #[], attributes := #[] }
def k11m5 : Method := { name := "append", desc := "(Ljava/lang/String;)Ljava/lang/AbstractStringBuilder;", sig := { parameters := [(.object "java/lang/String")], returnType := some (.object "java/lang/AbstractStringBuilder") }, accessFlags := 1, code := some k11c5 }
def k11c6 : Code := { maxStack := 5, maxLocals := 5, code := jdk_68_method_33_code, exceptionTable := #[], attributes := #[] }
def k11m6 : Method := { name := "append", desc := "(J)Ljava/lang/AbstractStringBuilder;", sig := { parameters := [.long], returnType := some (.object "java/lang/AbstractStringBuilder") }, accessFlags := 1, code := some k11c6 }
def k11c7 : Code := { maxStack := 1, maxLocals := 1, code := jdk_68_method_64_code, exceptionTable := #[], attributes := #[] }
def k11m7 : Method := { name := "getValue", desc := "()[B", sig := { parameters := [], returnType := some (.array .byte) }, accessFlags := 16, code := some k11c7 }
def k11c8 : Code := { maxStack := 1, maxLocals := 1, code := jdk_68_method_68_code, exceptionTable := #[], attributes := #[] }
def k11m8 : Method := { name := "isLatin1", desc := "()Z", sig := { parameters := [], returnType := some .boolean }, accessFlags := 16, code := some k11c8 }
def k11c9 : Code := { maxStack := 2, maxLocals := 2, code := jdk_68_method_71_code, exceptionTable := #[], attributes := #[] }
def k11m9 : Method := { name := "inflateIfNeededFor", desc := "(Ljava/lang/String;)V", sig := { parameters := [(.object "java/lang/String")], returnType := none }, accessFlags := 2, code := some k11c9 }
def k11c10 : Code := { maxStack := 4, maxLocals := 3, code := jdk_68_method_73_code, exceptionTable := #[], attributes := #[] }
def k11m10 : Method := { name := "putStringAt", desc := "(ILjava/lang/String;)V", sig := { parameters := [.int, (.object "java/lang/String")], returnType := none }, accessFlags := 2, code := some k11c10 }
/-- java/lang/AbstractStringBuilder -/
def k11 : Class := { plain "java/lang/AbstractStringBuilder" (some 0) with
  accessFlags := 1056
  interfaces := #[10, 4]
  cf := some (fileOf pool11 10 #[] #[{ accessFlags := 0, nameIndex := 7, descriptorIndex := 8, attributes := #[] }, { accessFlags := 0, nameIndex := 7, descriptorIndex := 103, attributes := #[] }, { accessFlags := 1, nameIndex := 34, descriptorIndex := 35, attributes := #[] }, { accessFlags := 2, nameIndex := 102, descriptorIndex := 103, attributes := #[] }, { accessFlags := 2, nameIndex := 106, descriptorIndex := 107, attributes := #[] }, { accessFlags := 1, nameIndex := 45, descriptorIndex := 46, attributes := #[] }, { accessFlags := 1, nameIndex := 45, descriptorIndex := 513, attributes := #[] }, { accessFlags := 16, nameIndex := 552, descriptorIndex := 403, attributes := #[] }, { accessFlags := 16, nameIndex := 85, descriptorIndex := 86, attributes := #[] }, { accessFlags := 2, nameIndex := 217, descriptorIndex := 69, attributes := #[] }, { accessFlags := 2, nameIndex := 210, descriptorIndex := 211, attributes := #[] }] 1056 4 #[444, 48] #[{ accessFlags := 0, nameIndex := 17, descriptorIndex := 14, attributes := #[] }, { accessFlags := 0, nameIndex := 24, descriptorIndex := 25, attributes := #[] }, { accessFlags := 0, nameIndex := 75, descriptorIndex := 21, attributes := #[] }, { accessFlags := 0, nameIndex := 81, descriptorIndex := 82, attributes := #[] }, { accessFlags := 26, nameIndex := 13, descriptorIndex := 14, attributes := #[] }])
  fields := #[{ name := "value", type := (.array .byte), accessFlags := 0, slot := 0, constantValue := 0 }, { name := "coder", type := .byte, accessFlags := 0, slot := 1, constantValue := 0 }, { name := "maybeLatin1", type := .boolean, accessFlags := 0, slot := 2, constantValue := 0 }, { name := "count", type := .int, accessFlags := 0, slot := 3, constantValue := 0 }, { name := "EMPTYVALUE", type := (.array .byte), accessFlags := 26, slot := 0, constantValue := 0 }]
  methods := #[k11m0, k11m1, k11m2, k11m3, k11m4, k11m5, k11m6, k11m7, k11m8, k11m9, k11m10]
  instanceTypes := #[(.array .byte), .byte, .boolean, .int]
  staticTypes := #[(.array .byte)]
  resolved := Array.replicate 609 none
  statics := none }

def pool12 : Array CpInfo := pool [(1, .methodref 2 3), (0, .class_ 4), (0, .nameAndType 5 6), (0, u "java/lang/AbstractStringBuilder"), (0, u "<init>"), (0, u "(I)V"), (11, .class_ 20), (1, u "java/lang/String"), (3, .class_ 26), (1, u "java/lang/StringBuilder"), (0, u "append"), (0, u "(Ljava/lang/String;)Ljava/lang/StringBuilder;"), (0, .methodref 2 30), (0, .nameAndType 27 31), (0, u "(Ljava/lang/String;)Ljava/lang/AbstractStringBuilder;"), (24, .methodref 2 57), (0, .nameAndType 27 58), (0, u "(J)Ljava/lang/AbstractStringBuilder;"), (78, .methodref 18 138), (0, .nameAndType 5 139), (0, u "(Ljava/lang/StringBuilder;)V"), (5, u "()V"), (10, u "()I"), (124, u "(J)Ljava/lang/StringBuilder;"), (61, .methodref 2 344), (0, .nameAndType 345 156), (0, u "length"), (3, .class_ 350), (0, u "java/lang/Appendable"), (0, .class_ 352), (0, u "java/io/Serializable"), (0, .class_ 354), (0, u "java/lang/Comparable"), (0, .class_ 356), (0, u "java/lang/CharSequence"), (0, u "serialVersionUID"), (0, u "J"), (40, u "toString"), (0, u "()Ljava/lang/String;")] 21

def k12c0 : Code := { maxStack := 2, maxLocals := 1, code := jdk_67_method_1_code, exceptionTable := #[], attributes := #[] }
def k12m0 : Method := { name := "<init>", desc := "()V", sig := { parameters := [], returnType := none }, accessFlags := 1, code := some k12c0 }
def k12c1 : Code := { maxStack := 2, maxLocals := 2, code := jdk_67_method_7_code, exceptionTable := #[], attributes := #[] }
def k12m1 : Method := { name := "append", desc := "(Ljava/lang/String;)Ljava/lang/StringBuilder;", sig := { parameters := [(.object "java/lang/String")], returnType := some (.object "java/lang/StringBuilder") }, accessFlags := 1, code := some k12c1 }
def k12c2 : Code := { maxStack := 3, maxLocals := 3, code := jdk_67_method_16_code, exceptionTable := #[], attributes := #[] }
def k12m2 : Method := { name := "append", desc := "(J)Ljava/lang/StringBuilder;", sig := { parameters := [.long], returnType := some (.object "java/lang/StringBuilder") }, accessFlags := 1, code := some k12c2 }
def k12c3 : Code := { maxStack := 3, maxLocals := 1, code := jdk_67_method_42_code, exceptionTable := #[], attributes := #[] }
def k12m3 : Method := { name := "toString", desc := "()Ljava/lang/String;", sig := { parameters := [], returnType := some (.object "java/lang/String") }, accessFlags := 1, code := some k12c3 }
def k12c4 : Code := { maxStack := 1, maxLocals := 1, code := jdk_67_method_93_code, exceptionTable := #[], attributes := #[] }
def k12m4 : Method := { name := "length", desc := "()I", sig := { parameters := [], returnType := some .int }, accessFlags := 4161, code := some k12c4 }
/-- java/lang/StringBuilder -/
def k12 : Class := { plain "java/lang/StringBuilder" (some 11) with
  accessFlags := 49
  interfaces := #[10, 2, 3, 4]
  cf := some (fileOf pool12 24 #[] #[{ accessFlags := 1, nameIndex := 5, descriptorIndex := 145, attributes := #[] }, { accessFlags := 1, nameIndex := 27, descriptorIndex := 28, attributes := #[] }, { accessFlags := 1, nameIndex := 27, descriptorIndex := 281, attributes := #[] }, { accessFlags := 1, nameIndex := 399, descriptorIndex := 400, attributes := #[] }, { accessFlags := 4161, nameIndex := 345, descriptorIndex := 156, attributes := #[] }] 49 2 #[349, 351, 353, 355] #[{ accessFlags := 24, nameIndex := 357, descriptorIndex := 358, attributes := #[] }])
  fields := #[{ name := "serialVersionUID", type := .long, accessFlags := 24, slot := 0, constantValue := 0 }]
  methods := #[k12m0, k12m1, k12m2, k12m3, k12m4]
  instanceTypes := #[(.array .byte), .byte, .boolean, .int]
  staticTypes := #[.long]
  resolved := Array.replicate 422 none
  statics := none }

def pool13 : Array CpInfo := pool [(9, u "<init>"), (6, .class_ 18), (1, u "java/lang/Object"), (0, u "()V"), (1, .class_ 23), (1, u "jdk/internal/util/ArraysSupport"), (0, u "LOG2_ARRAY_LONG_INDEX_SCALE"), (0, u "I"), (2, u "U"), (0, u "Ljdk/internal/misc/Unsafe;"), (8, u "BIG_ENDIAN"), (0, u "Z"), (8, u "LOG2_BYTE_BIT_SIZE"), (4, u "LOG2_ARRAY_INT_INDEX_SCALE"), (54, u "JLA"), (0, u "Ljdk/internal/access/JavaLangAccess;"), (11, u "LOG2_ARRAY_BOOLEAN_INDEX_SCALE"), (9, u "LOG2_ARRAY_BYTE_INDEX_SCALE"), (5, u "LOG2_ARRAY_CHAR_INDEX_SCALE"), (5, u "LOG2_ARRAY_SHORT_INDEX_SCALE"), (18, u "LOG2_ARRAY_FLOAT_INDEX_SCALE"), (24, u "LOG2_ARRAY_DOUBLE_INDEX_SCALE"), (6, .methodref 195 196), (0, .class_ 197), (0, .nameAndType 198 199), (0, u "java/lang/Math"), (0, u "max"), (0, u "(II)I"), (0, .integer 2147483639), (76, u "T_BOOLEAN"), (2, u "T_CHAR"), (1, u "T_FLOAT"), (1, u "T_DOUBLE"), (1, u "T_BYTE"), (1, u "T_SHORT"), (1, u "T_INT"), (1, u "T_LONG"), (1, u "SOFT_MAX_ARRAY_LENGTH"), (56, u "newLength"), (0, u "(III)I")] 25

def k13m0 : Method := { name := "<init>", desc := "()V", sig := { parameters := [], returnType := none }, accessFlags := 2, code := none }
def k13c1 : Code := { maxStack := 3, maxLocals := 4, code := jdk_48_method_27_code, exceptionTable := #[], attributes := #[] }
def k13m1 : Method := { name := "newLength", desc := "(III)I", sig := { parameters := [.int, .int, .int], returnType := some .int }, accessFlags := 9, code := some k13c1 }
/-- jdk/internal/util/ArraysSupport -/
def k13 : Class := { plain "jdk/internal/util/ArraysSupport" (some 0) with
  accessFlags := 33
  interfaces := #[]
  cf := some (fileOf pool13 21 #[] #[{ accessFlags := 2, nameIndex := 9, descriptorIndex := 19, attributes := #[] }, { accessFlags := 9, nameIndex := 351, descriptorIndex := 352, attributes := #[] }] 33 16 #[] #[{ accessFlags := 24, nameIndex := 28, descriptorIndex := 29, attributes := #[] }, { accessFlags := 26, nameIndex := 38, descriptorIndex := 39, attributes := #[] }, { accessFlags := 25, nameIndex := 121, descriptorIndex := 25, attributes := #[] }, { accessFlags := 25, nameIndex := 131, descriptorIndex := 25, attributes := #[] }, { accessFlags := 25, nameIndex := 137, descriptorIndex := 25, attributes := #[] }, { accessFlags := 25, nameIndex := 143, descriptorIndex := 25, attributes := #[] }, { accessFlags := 25, nameIndex := 53, descriptorIndex := 25, attributes := #[] }, { accessFlags := 25, nameIndex := 24, descriptorIndex := 25, attributes := #[] }, { accessFlags := 25, nameIndex := 162, descriptorIndex := 25, attributes := #[] }, { accessFlags := 25, nameIndex := 187, descriptorIndex := 25, attributes := #[] }, { accessFlags := 26, nameIndex := 48, descriptorIndex := 25, attributes := #[] }, { accessFlags := 25, nameIndex := 277, descriptorIndex := 25, attributes := #[] }, { accessFlags := 25, nameIndex := 280, descriptorIndex := 25, attributes := #[] }, { accessFlags := 25, nameIndex := 282, descriptorIndex := 25, attributes := #[] }, { accessFlags := 25, nameIndex := 284, descriptorIndex := 25, attributes := #[] }, { accessFlags := 25, nameIndex := 286, descriptorIndex := 25, attributes := #[] }, { accessFlags := 25, nameIndex := 288, descriptorIndex := 25, attributes := #[] }, { accessFlags := 25, nameIndex := 290, descriptorIndex := 25, attributes := #[] }, { accessFlags := 25, nameIndex := 292, descriptorIndex := 25, attributes := #[] }, { accessFlags := 26, nameIndex := 108, descriptorIndex := 109, attributes := #[] }, { accessFlags := 25, nameIndex := 294, descriptorIndex := 25, attributes := #[] }])
  fields := #[{ name := "U", type := (.object "jdk/internal/misc/Unsafe"), accessFlags := 24, slot := 0, constantValue := 0 }, { name := "BIG_ENDIAN", type := .boolean, accessFlags := 26, slot := 1, constantValue := 0 }, { name := "LOG2_ARRAY_BOOLEAN_INDEX_SCALE", type := .int, accessFlags := 25, slot := 2, constantValue := 0 }, { name := "LOG2_ARRAY_BYTE_INDEX_SCALE", type := .int, accessFlags := 25, slot := 3, constantValue := 0 }, { name := "LOG2_ARRAY_CHAR_INDEX_SCALE", type := .int, accessFlags := 25, slot := 4, constantValue := 0 }, { name := "LOG2_ARRAY_SHORT_INDEX_SCALE", type := .int, accessFlags := 25, slot := 5, constantValue := 0 }, { name := "LOG2_ARRAY_INT_INDEX_SCALE", type := .int, accessFlags := 25, slot := 6, constantValue := 0 }, { name := "LOG2_ARRAY_LONG_INDEX_SCALE", type := .int, accessFlags := 25, slot := 7, constantValue := 0 }, { name := "LOG2_ARRAY_FLOAT_INDEX_SCALE", type := .int, accessFlags := 25, slot := 8, constantValue := 0 }, { name := "LOG2_ARRAY_DOUBLE_INDEX_SCALE", type := .int, accessFlags := 25, slot := 9, constantValue := 0 }, { name := "LOG2_BYTE_BIT_SIZE", type := .int, accessFlags := 26, slot := 10, constantValue := 0 }, { name := "T_BOOLEAN", type := .int, accessFlags := 25, slot := 11, constantValue := 0 }, { name := "T_CHAR", type := .int, accessFlags := 25, slot := 12, constantValue := 0 }, { name := "T_FLOAT", type := .int, accessFlags := 25, slot := 13, constantValue := 0 }, { name := "T_DOUBLE", type := .int, accessFlags := 25, slot := 14, constantValue := 0 }, { name := "T_BYTE", type := .int, accessFlags := 25, slot := 15, constantValue := 0 }, { name := "T_SHORT", type := .int, accessFlags := 25, slot := 16, constantValue := 0 }, { name := "T_INT", type := .int, accessFlags := 25, slot := 17, constantValue := 0 }, { name := "T_LONG", type := .int, accessFlags := 25, slot := 18, constantValue := 0 }, { name := "JLA", type := (.object "jdk/internal/access/JavaLangAccess"), accessFlags := 26, slot := 19, constantValue := 0 }, { name := "SOFT_MAX_ARRAY_LENGTH", type := .int, accessFlags := 25, slot := 20, constantValue := 0 }]
  methods := #[k13m0, k13m1]
  instanceTypes := #[]
  staticTypes := #[(.object "jdk/internal/misc/Unsafe"), .boolean, .int, .int, .int, .int, .int, .int, .int, .int, .int, .int, .int, .int, .int, .int, .int, .int, .int, (.object "jdk/internal/access/JavaLangAccess"), .int]
  resolved := Array.replicate 378 none
  statics := none }

def pool14 : Array CpInfo := pool [(1, .class_ 2), (0, u "java/lang/Math"), (1, .class_ 6), (1, u "java/lang/Object"), (0, u "<init>"), (0, u "()V"), (89, .class_ 100), (1, u "java/lang/Math$RandomNumberGeneratorHolder"), (23, u "abs"), (0, u "(J)J"), (46, u "negativeZeroFloatBits"), (0, u "J"), (2, u "negativeZeroDoubleBits"), (21, u "max"), (2, u "min"), (43, u "$assertionsDisabled"), (0, u "Z"), (88, u "(II)I"), (2, u "twoToTheDoubleScaleDown"), (0, u "D"), (4, u "twoToTheDoubleScaleUp"), (9, u "E"), (3, u "PI"), (2, u "TAU"), (2, u "DEGREES_TO_RADIANS"), (0, u "RADIANS_TO_DEGREES")] 94

def k14m0 : Method := { name := "<init>", desc := "()V", sig := { parameters := [], returnType := none }, accessFlags := 2, code := none }
def k14c1 : Code := { maxStack := 4, maxLocals := 2, code := jdk_29_method_61_code, exceptionTable := #[], attributes := #[] }
def k14m1 : Method := { name := "abs", desc := "(J)J", sig := { parameters := [.long], returnType := some .long }, accessFlags := 9, code := some k14c1 }
def k14c2 : Code := { maxStack := 2, maxLocals := 2, code := jdk_29_method_65_code, exceptionTable := #[], attributes := #[] }
def k14m2 : Method := { name := "max", desc := "(II)I", sig := { parameters := [.int, .int], returnType := some .int }, accessFlags := 9, code := some k14c2 }
def k14c3 : Code := { maxStack := 2, maxLocals := 2, code := jdk_29_method_69_code, exceptionTable := #[], attributes := #[] }
def k14m3 : Method := { name := "min", desc := "(II)I", sig := { parameters := [.int, .int], returnType := some .int }, accessFlags := 9, code := some k14c3 }
/-- java/lang/Math -/
def k14 : Class := { plain "java/lang/Math" (some 0) with
  accessFlags := 49
  interfaces := #[]
  cf := some (fileOf pool14 1 #[.nestMembers #[98]] #[{ accessFlags := 2, nameIndex := 7, descriptorIndex := 8, attributes := #[] }, { accessFlags := 9, nameIndex := 124, descriptorIndex := 125, attributes := #[] }, { accessFlags := 9, nameIndex := 198, descriptorIndex := 335, attributes := #[] }, { accessFlags := 9, nameIndex := 201, descriptorIndex := 335, attributes := #[] }] 49 4 #[] #[{ accessFlags := 25, nameIndex := 354, descriptorIndex := 339, attributes := #[] }, { accessFlags := 25, nameIndex := 358, descriptorIndex := 339, attributes := #[] }, { accessFlags := 25, nameIndex := 361, descriptorIndex := 339, attributes := #[] }, { accessFlags := 26, nameIndex := 364, descriptorIndex := 339, attributes := #[] }, { accessFlags := 26, nameIndex := 365, descriptorIndex := 339, attributes := #[] }, { accessFlags := 26, nameIndex := 172, descriptorIndex := 173, attributes := #[] }, { accessFlags := 26, nameIndex := 176, descriptorIndex := 173, attributes := #[] }, { accessFlags := 8, nameIndex := 344, descriptorIndex := 339, attributes := #[] }, { accessFlags := 8, nameIndex := 338, descriptorIndex := 339, attributes := #[] }, { accessFlags := 4120, nameIndex := 245, descriptorIndex := 246, attributes := #[] }])
  fields := #[{ name := "E", type := .double, accessFlags := 25, slot := 0, constantValue := 0 }, { name := "PI", type := .double, accessFlags := 25, slot := 1, constantValue := 0 }, { name := "TAU", type := .double, accessFlags := 25, slot := 2, constantValue := 0 }, { name := "DEGREES_TO_RADIANS", type := .double, accessFlags := 26, slot := 3, constantValue := 0 }, { name := "RADIANS_TO_DEGREES", type := .double, accessFlags := 26, slot := 4, constantValue := 0 }, { name := "negativeZeroFloatBits", type := .long, accessFlags := 26, slot := 5, constantValue := 0 }, { name := "negativeZeroDoubleBits", type := .long, accessFlags := 26, slot := 6, constantValue := 0 }, { name := "twoToTheDoubleScaleUp", type := .double, accessFlags := 8, slot := 7, constantValue := 0 }, { name := "twoToTheDoubleScaleDown", type := .double, accessFlags := 8, slot := 8, constantValue := 0 }, { name := "$assertionsDisabled", type := .boolean, accessFlags := 4120, slot := 9, constantValue := 0 }]
  methods := #[k14m0, k14m1, k14m2, k14m3]
  instanceTypes := #[]
  staticTypes := #[.double, .double, .double, .double, .double, .long, .long, .double, .double, .boolean]
  resolved := Array.replicate 460 none
  statics := none }

def pool15 : Array CpInfo := pool [(2, .class_ 4), (1, u "java/lang/Object"), (0, u "<init>"), (0, u "()V"), (7, .class_ 16), (1, u "java/util/Arrays"), (57, .class_ 76), (1, u "java/util/Arrays$NaturalOrder"), (36, .class_ 115), (1, u "java/util/Arrays$LegacyMergeSort"), (1, u "Z"), (21, u "copyOfRange"), (10, .methodref 151 152), (0, .class_ 153), (0, .nameAndType 154 155), (0, u "java/lang/System"), (0, u "arraycopy"), (0, u "(Ljava/lang/Object;ILjava/lang/Object;II)V"), (146, u "copyOf"), (1, .methodref 305 306), (0, .class_ 307), (0, .nameAndType 308 309), (0, u "java/lang/Math"), (0, u "min"), (0, u "(II)I"), (29, .methodref 14 340), (0, .nameAndType 341 342), (0, u "copyOfRangeByte"), (0, u "([BII)[B"), (0, .methodref 14 344), (0, .nameAndType 345 346), (0, u "checkLength"), (0, u "(II)V"), (28, .class_ 376), (0, u "java/util/Arrays$ArrayList"), (68, u "$assertionsDisabled"), (269, u "MIN_ARRAY_SORT_GRAN"), (0, u "I"), (2, u "INSERTIONSORT_THRESHOLD"), (149, u "([BI)[B"), (105, .class_ 976), (0, u "java/util/Arrays$ArrayItr")] 52

def k15m0 : Method := { name := "<init>", desc := "()V", sig := { parameters := [], returnType := none }, accessFlags := 2, code := none }
def k15c1 : Code := { maxStack := 6, maxLocals := 3, code := jdk_65_method_121_code, exceptionTable := #[], attributes := #[] }
def k15m1 : Method := { name := "copyOf", desc := "([BI)[B", sig := { parameters := [(.array .byte), .int], returnType := some (.array .byte) }, accessFlags := 9, code := some k15c1 }
def k15c2 : Code := { maxStack := 4, maxLocals := 2, code := jdk_65_method_131_code, exceptionTable := #[], attributes := #[] }
def k15m2 : Method := { name := "checkLength", desc := "(II)V", sig := { parameters := [.int, .int], returnType := none }, accessFlags := 10, code := some k15c2 }
def k15c3 : Code := { maxStack := 3, maxLocals := 3, code := jdk_65_method_132_code, exceptionTable := #[], attributes := #[] }
def k15m3 : Method := { name := "copyOfRange", desc := "([BII)[B", sig := { parameters := [(.array .byte), .int, .int], returnType := some (.array .byte) }, accessFlags := 9, code := some k15c3 }
def k15c4 : Code := { maxStack := 6, maxLocals := 5, code := jdk_65_method_133_code, exceptionTable := #[], attributes := #[] }
def k15m4 : Method := { name := "copyOfRangeByte", desc := "([BII)[B", sig := { parameters := [(.array .byte), .int, .int], returnType := some (.array .byte) }, accessFlags := 10, code := some k15c4 }
/-- java/util/Arrays -/
def k15 : Class := { plain "java/util/Arrays" (some 0) with
  accessFlags := 49
  interfaces := #[]
  cf := some (fileOf pool15 14 #[.nestMembers #[975, 375, 113, 74]] #[{ accessFlags := 2, nameIndex := 5, descriptorIndex := 6, attributes := #[] }, { accessFlags := 9, nameIndex := 302, descriptorIndex := 869, attributes := #[] }, { accessFlags := 10, nameIndex := 345, descriptorIndex := 346, attributes := #[] }, { accessFlags := 9, nameIndex := 139, descriptorIndex := 342, attributes := #[] }, { accessFlags := 10, nameIndex := 341, descriptorIndex := 342, attributes := #[] }] 49 2 #[] #[{ accessFlags := 26, nameIndex := 715, descriptorIndex := 716, attributes := #[] }, { accessFlags := 26, nameIndex := 719, descriptorIndex := 716, attributes := #[] }, { accessFlags := 4120, nameIndex := 445, descriptorIndex := 117, attributes := #[] }])
  fields := #[{ name := "MIN_ARRAY_SORT_GRAN", type := .int, accessFlags := 26, slot := 0, constantValue := 0 }, { name := "INSERTIONSORT_THRESHOLD", type := .int, accessFlags := 26, slot := 1, constantValue := 0 }, { name := "$assertionsDisabled", type := .boolean, accessFlags := 4120, slot := 2, constantValue := 0 }]
  methods := #[k15m0, k15m1, k15m2, k15m3, k15m4]
  instanceTypes := #[]
  staticTypes := #[.int, .int, .boolean]
  resolved := Array.replicate 1029 none
  statics := none }

def pool16 : Array CpInfo := pool [(2, .class_ 4), (1, u "java/lang/Object"), (0, u "<init>"), (0, u "()V"), (1, .class_ 10), (1, u "java/lang/System"), (0, u "allowSecurityManager"), (0, u "I"), (16, u "cons"), (0, u "Ljava/io/Console;"), (77, .class_ 110), (1, u "java/lang/System$CallersHolder"), (43, u "initialErrStream"), (0, u "Ljava/io/PrintStream;"), (19, u "security"), (0, u "Ljava/lang/SecurityManager;"), (31, .class_ 209), (0, u "java/lang/System$1"), (7, u "props"), (0, u "Ljava/util/Properties;"), (2, u "lineSeparator"), (0, u "Ljava/lang/String;"), (96, .class_ 321), (1, u "java/lang/System$LoggerFinder"), (5, .class_ 328), (0, u "java/lang/System$Logger"), (67, u "err"), (2, u "out"), (91, u "notSupportedJnuEncoding"), (15, u "in"), (17, u "initialIn"), (0, u "Ljava/io/InputStream;"), (35, u "bootLayer"), (0, u "Ljava/lang/ModuleLayer;"), (99, .class_ 664), (0, u "java/lang/System$2"), (9, u "NEVER"), (2, u "MAYBE"), (49, u "arraycopy"), (0, u "(Ljava/lang/Object;ILjava/lang/Object;II)V"), (72, .class_ 802), (0, u "java/lang/System$Logger$Level")] 31

def k16m0 : Method := { name := "<init>", desc := "()V", sig := { parameters := [], returnType := none }, accessFlags := 2, code := none }
def k16m1 : Method := { name := "arraycopy", desc := "(Ljava/lang/Object;ILjava/lang/Object;II)V", sig := { parameters := [(.object "java/lang/Object"), .int, (.object "java/lang/Object"), .int, .int], returnType := none }, accessFlags := 265, code := none }
/-- java/lang/System -/
def k16 : Class := { plain "java/lang/System" (some 0) with
  accessFlags := 49
  interfaces := #[]
  cf := some (fileOf pool16 8 #[.nestMembers #[319, 327, 801, 108, 663, 208]] #[{ accessFlags := 2, nameIndex := 5, descriptorIndex := 6, attributes := #[] }, { accessFlags := 265, nameIndex := 727, descriptorIndex := 728, attributes := #[] }] 49 2 #[] #[{ accessFlags := 25, nameIndex := 507, descriptorIndex := 526, attributes := #[] }, { accessFlags := 25, nameIndex := 399, descriptorIndex := 155, attributes := #[] }, { accessFlags := 25, nameIndex := 396, descriptorIndex := 155, attributes := #[] }, { accessFlags := 10, nameIndex := 525, descriptorIndex := 526, attributes := #[] }, { accessFlags := 26, nameIndex := 674, descriptorIndex := 12, attributes := #[] }, { accessFlags := 26, nameIndex := 677, descriptorIndex := 12, attributes := #[] }, { accessFlags := 10, nameIndex := 11, descriptorIndex := 12, attributes := #[] }, { accessFlags := 74, nameIndex := 175, descriptorIndex := 176, attributes := #[] }, { accessFlags := 10, nameIndex := 491, descriptorIndex := 222, attributes := #[] }, { accessFlags := 74, nameIndex := 29, descriptorIndex := 30, attributes := #[] }, { accessFlags := 74, nameIndex := 154, descriptorIndex := 155, attributes := #[] }, { accessFlags := 10, nameIndex := 217, descriptorIndex := 218, attributes := #[] }, { accessFlags := 10, nameIndex := 221, descriptorIndex := 222, attributes := #[] }, { accessFlags := 8, nameIndex := 562, descriptorIndex := 563, attributes := #[] }])
  fields := #[{ name := "in", type := (.object "java/io/InputStream"), accessFlags := 25, slot := 0, constantValue := 0 }, { name := "out", type := (.object "java/io/PrintStream"), accessFlags := 25, slot := 1, constantValue := 0 }, { name := "err", type := (.object "java/io/PrintStream"), accessFlags := 25, slot := 2, constantValue := 0 }, { name := "initialIn", type := (.object "java/io/InputStream"), accessFlags := 10, slot := 3, constantValue := 0 }, { name := "NEVER", type := .int, accessFlags := 26, slot := 4, constantValue := 0 }, { name := "MAYBE", type := .int, accessFlags := 26, slot := 5, constantValue := 0 }, { name := "allowSecurityManager", type := .int, accessFlags := 10, slot := 6, constantValue := 0 }, { name := "security", type := (.object "java/lang/SecurityManager"), accessFlags := 74, slot := 7, constantValue := 0 }, { name := "notSupportedJnuEncoding", type := (.object "java/lang/String"), accessFlags := 10, slot := 8, constantValue := 0 }, { name := "cons", type := (.object "java/io/Console"), accessFlags := 74, slot := 9, constantValue := 0 }, { name := "initialErrStream", type := (.object "java/io/PrintStream"), accessFlags := 74, slot := 10, constantValue := 0 }, { name := "props", type := (.object "java/util/Properties"), accessFlags := 10, slot := 11, constantValue := 0 }, { name := "lineSeparator", type := (.object "java/lang/String"), accessFlags := 10, slot := 12, constantValue := 0 }, { name := "bootLayer", type := (.object "java/lang/ModuleLayer"), accessFlags := 8, slot := 13, constantValue := 0 }]
  methods := #[k16m0, k16m1]
  instanceTypes := #[]
  staticTypes := #[(.object "java/io/InputStream"), (.object "java/io/PrintStream"), (.object "java/io/PrintStream"), (.object "java/io/InputStream"), .int, .int, .int, (.object "java/lang/SecurityManager"), (.object "java/lang/String"), (.object "java/io/Console"), (.object "java/io/PrintStream"), (.object "java/util/Properties"), (.object "java/lang/String"), (.object "java/lang/ModuleLayer")]
  resolved := Array.replicate 834 none
  statics := none }

def pool17 : Array CpInfo := pool [(2, .class_ 4), (1, u "java/lang/Object"), (0, u "<init>"), (0, u "()V"), (1, .class_ 10), (1, u "java/lang/Number"), (2, .class_ 14), (0, u "java/io/Serializable"), (0, u "serialVersionUID"), (0, u "J")] 20

def k17m0 : Method := { name := "<init>", desc := "()V", sig := { parameters := [], returnType := none }, accessFlags := 1, code := none }
/-- java/lang/Number -/
def k17 : Class := { plain "java/lang/Number" (some 0) with
  accessFlags := 1057
  interfaces := #[2]
  cf := some (fileOf pool17 8 #[] #[{ accessFlags := 1, nameIndex := 5, descriptorIndex := 6, attributes := #[] }] 1057 2 #[13] #[{ accessFlags := 26, nameIndex := 15, descriptorIndex := 16, attributes := #[] }])
  fields := #[{ name := "serialVersionUID", type := .long, accessFlags := 26, slot := 0, constantValue := 0 }]
  methods := #[k17m0]
  instanceTypes := #[]
  staticTypes := #[.long]
  resolved := Array.replicate 37 none
  statics := none }

def pool18 : Array CpInfo := pool [(1, .class_ 2), (0, u "java/lang/Long"), (15, .class_ 20), (1, u "java/lang/Integer"), (32, .long 10), (47, u "(J)I"), (18, u "stringSize"), (2, u "getChars"), (0, u "(JI[B)I"), (4, .long 18446744071562067968), (1, .long 100), (1, .fieldref 18 134), (0, .nameAndType 135 136), (0, u "DigitOnes"), (0, u "[B"), (0, .fieldref 18 138), (0, .nameAndType 139 136), (0, u "DigitTens"), (0, .long 18446744073709551606), (94, .class_ 237), (1, u "java/lang/Long$LongCache"), (33, .class_ 272), (0, u "java/lang/Number"), (2, u "value"), (0, u "J"), (84, u "TYPE"), (0, u "Ljava/lang/Class;"), (0, .class_ 364), (0, u "java/lang/Comparable"), (0, .class_ 366), (0, u "java/lang/constant/Constable"), (0, .class_ 368), (0, u "java/lang/constant/ConstantDesc"), (0, u "MIN_VALUE"), (1, u "MAX_VALUE"), (4, u "SIZE"), (0, u "I"), (1, u "BYTES"), (1, u "serialVersionUID")] 142

def k18c0 : Code := { maxStack := 4, maxLocals := 11, code := jdk_35_method_14_code, exceptionTable := #[], attributes := #[] }
def k18m0 : Method := { name := "getChars", desc := "(JI[B)I", sig := { parameters := [.long, .int, (.array .byte)], returnType := some .int }, accessFlags := 8, code := some k18c0 }
def k18c1 : Code := { maxStack := 4, maxLocals := 6, code := jdk_35_method_15_code, exceptionTable := #[], attributes := #[] }
def k18m1 : Method := { name := "stringSize", desc := "(J)I", sig := { parameters := [.long], returnType := some .int }, accessFlags := 8, code := some k18c1 }
/-- java/lang/Long -/
def k18 : Class := { plain "java/lang/Long" (some 17) with
  accessFlags := 49
  interfaces := #[3, 5, 6]
  cf := some (fileOf pool18 1 #[.nestMembers #[235]] #[{ accessFlags := 8, nameIndex := 123, descriptorIndex := 124, attributes := #[] }, { accessFlags := 8, nameIndex := 120, descriptorIndex := 101, attributes := #[] }] 49 271 #[363, 365, 367] #[{ accessFlags := 25, nameIndex := 369, descriptorIndex := 276, attributes := #[] }, { accessFlags := 25, nameIndex := 371, descriptorIndex := 276, attributes := #[] }, { accessFlags := 25, nameIndex := 361, descriptorIndex := 362, attributes := #[] }, { accessFlags := 18, nameIndex := 275, descriptorIndex := 276, attributes := #[] }, { accessFlags := 25, nameIndex := 376, descriptorIndex := 377, attributes := #[] }, { accessFlags := 25, nameIndex := 379, descriptorIndex := 377, attributes := #[] }, { accessFlags := 26, nameIndex := 381, descriptorIndex := 276, attributes := #[] }])
  fields := #[{ name := "MIN_VALUE", type := .long, accessFlags := 25, slot := 0, constantValue := 0 }, { name := "MAX_VALUE", type := .long, accessFlags := 25, slot := 1, constantValue := 0 }, { name := "TYPE", type := (.object "java/lang/Class"), accessFlags := 25, slot := 2, constantValue := 0 }, { name := "value", type := .long, accessFlags := 18, slot := 0, constantValue := 0 }, { name := "SIZE", type := .int, accessFlags := 25, slot := 3, constantValue := 0 }, { name := "BYTES", type := .int, accessFlags := 25, slot := 4, constantValue := 0 }, { name := "serialVersionUID", type := .long, accessFlags := 26, slot := 5, constantValue := 0 }]
  methods := #[k18m0, k18m1]
  instanceTypes := #[.long]
  staticTypes := #[.long, .long, (.object "java/lang/Class"), .int, .int, .long]
  resolved := Array.replicate 524 none
  statics := none }

def pool19 : Array CpInfo := pool [(1, .class_ 2), (0, u "java/lang/Integer"), (16, u "digits"), (0, u "[C"), (64, u "DigitOnes"), (0, u "[B"), (2, u "DigitTens"), (99, .class_ 190), (0, u "java/lang/Integer$IntegerCache"), (3, u "I"), (8, .class_ 204), (0, u "java/lang/Number"), (2, u "value"), (94, u "TYPE"), (0, u "Ljava/lang/Class;"), (0, .class_ 305), (0, u "java/lang/Comparable"), (0, .class_ 307), (0, u "java/lang/constant/Constable"), (0, .class_ 309), (0, u "java/lang/constant/ConstantDesc"), (0, u "MIN_VALUE"), (1, u "MAX_VALUE"), (3, u "SIZE"), (1, u "BYTES"), (1, u "serialVersionUID"), (0, u "J")] 131

/-- java/lang/Integer -/
def k19 : Class := { plain "java/lang/Integer" (some 17) with
  accessFlags := 49
  interfaces := #[3, 5, 6]
  cf := some (fileOf pool19 1 #[.nestMembers #[189]] #[] 49 203 #[304, 306, 308] #[{ accessFlags := 25, nameIndex := 310, descriptorIndex := 194, attributes := #[] }, { accessFlags := 25, nameIndex := 312, descriptorIndex := 194, attributes := #[] }, { accessFlags := 25, nameIndex := 302, descriptorIndex := 303, attributes := #[] }, { accessFlags := 24, nameIndex := 19, descriptorIndex := 20, attributes := #[] }, { accessFlags := 24, nameIndex := 89, descriptorIndex := 86, attributes := #[] }, { accessFlags := 24, nameIndex := 85, descriptorIndex := 86, attributes := #[] }, { accessFlags := 18, nameIndex := 207, descriptorIndex := 194, attributes := #[] }, { accessFlags := 25, nameIndex := 316, descriptorIndex := 194, attributes := #[] }, { accessFlags := 25, nameIndex := 318, descriptorIndex := 194, attributes := #[] }, { accessFlags := 26, nameIndex := 320, descriptorIndex := 321, attributes := #[] }])
  fields := #[{ name := "MIN_VALUE", type := .int, accessFlags := 25, slot := 0, constantValue := 0 }, { name := "MAX_VALUE", type := .int, accessFlags := 25, slot := 1, constantValue := 0 }, { name := "TYPE", type := (.object "java/lang/Class"), accessFlags := 25, slot := 2, constantValue := 0 }, { name := "digits", type := (.array .char), accessFlags := 24, slot := 3, constantValue := 0 }, { name := "DigitTens", type := (.array .byte), accessFlags := 24, slot := 4, constantValue := 0 }, { name := "DigitOnes", type := (.array .byte), accessFlags := 24, slot := 5, constantValue := 0 }, { name := "value", type := .int, accessFlags := 18, slot := 0, constantValue := 0 }, { name := "SIZE", type := .int, accessFlags := 25, slot := 6, constantValue := 0 }, { name := "BYTES", type := .int, accessFlags := 25, slot := 7, constantValue := 0 }, { name := "serialVersionUID", type := .long, accessFlags := 26, slot := 8, constantValue := 0 }]
  methods := #[]
  instanceTypes := #[.int]
  staticTypes := #[.int, .int, (.object "java/lang/Class"), (.array .char), (.array .byte), (.array .byte), .int, .int, .long]
  resolved := Array.replicate 453 none
  statics := some 1 }

def pool20 : Array CpInfo := pool [(1, .class_ 2), (0, u "java/lang/String"), (1, .class_ 6), (1, u "java/lang/Object"), (0, u "<init>"), (0, u "()V"), (0, .methodref 1 10), (0, .nameAndType 11 12), (0, u "checkIndex"), (0, u "(II)V"), (1, .class_ 16), (1, u "java/lang/StringLatin1"), (36, u "([BI)C"), (36, u "canEncode"), (14, u "(C)Z"), (15, u "$assertionsDisabled"), (0, u "Z"), (98, .class_ 223), (1, u "java/lang/StringLatin1$LinesSpliterator"), (28, u "charAt"), (28, u "equals"), (0, u "([B[B)Z"), (97, u "toBytes"), (1, u "(C)[B"), (7, .class_ 391), (0, u "java/lang/StringLatin1$CharsSpliterator")] 3

def k20m0 : Method := { name := "<init>", desc := "()V", sig := { parameters := [], returnType := none }, accessFlags := 0, code := none }
def k20c1 : Code := { maxStack := 2, maxLocals := 2, code := jdk_43_method_2_code, exceptionTable := #[], attributes := #[] }
def k20m1 : Method := { name := "charAt", desc := "([BI)C", sig := { parameters := [(.array .byte), .int], returnType := some .char }, accessFlags := 9, code := some k20c1 }
def k20c2 : Code := { maxStack := 2, maxLocals := 1, code := jdk_43_method_3_code, exceptionTable := #[], attributes := #[] }
def k20m2 : Method := { name := "canEncode", desc := "(C)Z", sig := { parameters := [.char], returnType := some .boolean }, accessFlags := 9, code := some k20c2 }
def k20c3 : Code := { maxStack := 3, maxLocals := 3, code := jdk_43_method_13_code, exceptionTable := #[], attributes := #[] }
def k20m3 : Method := { name := "equals", desc := "([B[B)Z", sig := { parameters := [(.array .byte), (.array .byte)], returnType := some .boolean }, accessFlags := 9, code := some k20c3 }
def k20c4 : Code := { maxStack := 4, maxLocals := 1, code := jdk_43_method_46_code, exceptionTable := #[], attributes := #[] }
def k20m4 : Method := { name := "toBytes", desc := "(C)[B", sig := { parameters := [.char], returnType := some (.array .byte) }, accessFlags := 9, code := some k20c4 }
/-- java/lang/StringLatin1 -/
def k20 : Class := { plain "java/lang/StringLatin1" (some 0) with
  accessFlags := 48
  interfaces := #[]
  cf := some (fileOf pool20 14 #[.nestMembers #[390, 221]] #[{ accessFlags := 0, nameIndex := 7, descriptorIndex := 8, attributes := #[] }, { accessFlags := 9, nameIndex := 252, descriptorIndex := 53, attributes := #[] }, { accessFlags := 9, nameIndex := 90, descriptorIndex := 105, attributes := #[] }, { accessFlags := 9, nameIndex := 281, descriptorIndex := 282, attributes := #[] }, { accessFlags := 9, nameIndex := 380, descriptorIndex := 382, attributes := #[] }] 48 4 #[] #[{ accessFlags := 4120, nameIndex := 121, descriptorIndex := 122, attributes := #[] }])
  fields := #[{ name := "$assertionsDisabled", type := .boolean, accessFlags := 4120, slot := 0, constantValue := 0 }]
  methods := #[k20m0, k20m1, k20m2, k20m3, k20m4]
  instanceTypes := #[]
  staticTypes := #[.boolean]
  resolved := Array.replicate 395 none
  statics := none }

def pool21 : Array CpInfo := pool [(2, .class_ 4), (1, u "java/lang/Object"), (0, u "<init>"), (0, u "()V"), (17, .class_ 26), (1, u "jdk/internal/util/Preconditions"), (6, u "checkIndex"), (21, .class_ 56), (0, u "jdk/internal/util/Preconditions$4"), (57, .class_ 115), (0, u "jdk/internal/util/Preconditions$1"), (7, u "SIOOBE_FORMATTER"), (0, u "Ljava/util/function/BiFunction;"), (0, .class_ 126), (0, u "jdk/internal/util/Preconditions$2"), (3, u "AIOOBE_FORMATTER"), (0, .class_ 132), (0, u "jdk/internal/util/Preconditions$3"), (3, u "IOOBE_FORMATTER"), (41, u "(IILjava/util/function/BiFunction;)I")] 15

def k21m0 : Method := { name := "<init>", desc := "()V", sig := { parameters := [], returnType := none }, accessFlags := 1, code := none }
def k21c1 : Code := { maxStack := 3, maxLocals := 3, code := jdk_41_method_11_code, exceptionTable := #[], attributes := #[] }
def k21m1 : Method := { name := "checkIndex", desc := "(IILjava/util/function/BiFunction;)I", sig := { parameters := [.int, .int, (.object "java/util/function/BiFunction")], returnType := some .int }, accessFlags := 9, code := some k21c1 }
/-- jdk/internal/util/Preconditions -/
def k21 : Class := { plain "jdk/internal/util/Preconditions" (some 0) with
  accessFlags := 33
  interfaces := #[]
  cf := some (fileOf pool21 24 #[.nestMembers #[55, 131, 125, 114]] #[{ accessFlags := 1, nameIndex := 5, descriptorIndex := 6, attributes := #[] }, { accessFlags := 9, nameIndex := 33, descriptorIndex := 178, attributes := #[] }] 33 2 #[] #[{ accessFlags := 25, nameIndex := 123, descriptorIndex := 124, attributes := #[] }, { accessFlags := 25, nameIndex := 130, descriptorIndex := 124, attributes := #[] }, { accessFlags := 25, nameIndex := 136, descriptorIndex := 124, attributes := #[] }])
  fields := #[{ name := "SIOOBE_FORMATTER", type := (.object "java/util/function/BiFunction"), accessFlags := 25, slot := 0, constantValue := 0 }, { name := "AIOOBE_FORMATTER", type := (.object "java/util/function/BiFunction"), accessFlags := 25, slot := 1, constantValue := 0 }, { name := "IOOBE_FORMATTER", type := (.object "java/util/function/BiFunction"), accessFlags := 25, slot := 2, constantValue := 0 }]
  methods := #[k21m0, k21m1]
  instanceTypes := #[]
  staticTypes := #[(.object "java/util/function/BiFunction"), (.object "java/util/function/BiFunction"), (.object "java/util/function/BiFunction")]
  resolved := Array.replicate 194 none
  statics := some 2 }

def pool22 : Array CpInfo := pool [(6, .class_ 8), (1, u "java/lang/Object"), (0, u "<init>"), (0, u "()V"), (1, .class_ 14), (1, u "java/lang/StringUTF16"), (31, u "$assertionsDisabled"), (0, u "Z"), (13, u "HI_BYTE_SHIFT"), (0, u "I"), (2, u "LO_BYTE_SHIFT"), (49, .methodref 12 116), (0, .nameAndType 117 118), (0, u "compress"), (0, u "([CI[BII)I"), (3, u "([CII)[B"), (138, u "coderFromArrayLen"), (0, u "([BI)B"), (106, .class_ 371), (1, u "java/lang/StringUTF16$LinesSpliterator"), (58, u "MAX_LENGTH"), (196, .class_ 628), (0, u "java/lang/StringUTF16$CodePointsSpliterator"), (0, .class_ 630), (0, u "java/lang/StringUTF16$CharsSpliterator")] 4

def k22m0 : Method := { name := "<init>", desc := "()V", sig := { parameters := [], returnType := none }, accessFlags := 0, code := none }
def k22c1 : Code := { maxStack := 2, maxLocals := 2, code := jdk_52_method_15_code, exceptionTable := #[], attributes := #[] }
def k22m1 : Method := { name := "coderFromArrayLen", desc := "([BI)B", sig := { parameters := [(.array .byte), .int], returnType := some .byte }, accessFlags := 8, code := some k22c1 }
def k22c2 : Code := { maxStack := 5, maxLocals := 6, code := jdk_52_method_16_code, exceptionTable := #[], attributes := #[] }
def k22m2 : Method := { name := "compress", desc := "([CII)[B", sig := { parameters := [(.array .char), .int, .int], returnType := some (.array .byte) }, accessFlags := 9, code := some k22c2 }
def k22c3 : Code := { maxStack := 3, maxLocals := 7, code := jdk_52_method_21_code, exceptionTable := #[], attributes := #[] }
def k22m3 : Method := { name := "compress", desc := "([CI[BII)I", sig := { parameters := [(.array .char), .int, (.array .byte), .int, .int], returnType := some .int }, accessFlags := 9, code := some k22c3 }
/-- java/lang/StringUTF16 -/
def k22 : Class := { plain "java/lang/StringUTF16" (some 0) with
  accessFlags := 48
  interfaces := #[]
  cf := some (fileOf pool22 12 #[.nestMembers #[627, 629, 369]] #[{ accessFlags := 0, nameIndex := 9, descriptorIndex := 10, attributes := #[] }, { accessFlags := 8, nameIndex := 261, descriptorIndex := 262, attributes := #[] }, { accessFlags := 9, nameIndex := 117, descriptorIndex := 122, attributes := #[] }, { accessFlags := 9, nameIndex := 117, descriptorIndex := 118, attributes := #[] }] 48 6 #[] #[{ accessFlags := 26, nameIndex := 61, descriptorIndex := 62, attributes := #[] }, { accessFlags := 26, nameIndex := 65, descriptorIndex := 62, attributes := #[] }, { accessFlags := 24, nameIndex := 430, descriptorIndex := 62, attributes := #[] }, { accessFlags := 4120, nameIndex := 46, descriptorIndex := 47, attributes := #[] }])
  fields := #[{ name := "HI_BYTE_SHIFT", type := .int, accessFlags := 26, slot := 0, constantValue := 0 }, { name := "LO_BYTE_SHIFT", type := .int, accessFlags := 26, slot := 1, constantValue := 0 }, { name := "MAX_LENGTH", type := .int, accessFlags := 24, slot := 2, constantValue := 0 }, { name := "$assertionsDisabled", type := .boolean, accessFlags := 4120, slot := 3, constantValue := 0 }]
  methods := #[k22m0, k22m1, k22m2, k22m3]
  instanceTypes := #[]
  staticTypes := #[.int, .int, .int, .boolean]
  resolved := Array.replicate 635 none
  statics := none }

def pool23 : Array CpInfo := pool [(1, u "java/lang/Cloneable"), (0, .class_ 1), (0, u "java/lang/Object"), (0, .class_ 3)] 3

/-- java/lang/Cloneable -/
def k23 : Class := { plain "java/lang/Cloneable" (some 0) with
  accessFlags := 1537
  interfaces := #[]
  cf := some (fileOf pool23 2 #[] #[] 1537 4 #[] #[])
  fields := #[]
  methods := #[]
  instanceTypes := #[]
  staticTypes := #[]
  resolved := Array.replicate 8 none
  statics := none }

/-- the primitive byte -/
def k24 : Class := { plain "byte" none with kind := .primitive 'B', accessFlags := 0x411 }
/-- [B -/
def k25 : Class := { plain "[B" (some 0) with kind := .array 24 .byte, interfaces := #[23, 2], accessFlags := 1041 }

/-- the primitive char -/
def k26 : Class := { plain "char" none with kind := .primitive 'C', accessFlags := 0x411 }
/-- [C -/
def k27 : Class := { plain "[C" (some 0) with kind := .array 26 .char, interfaces := #[23, 2], accessFlags := 1041 }

/-- the primitive int -/
def k28 : Class := { plain "int" none with kind := .primitive 'I', accessFlags := 0x411 }
/-- [I -/
def k29 : Class := { plain "[I" (some 0) with kind := .array 28 .int, interfaces := #[23, 2], accessFlags := 1041 }

/-- the primitive long -/
def k30 : Class := { plain "long" none with kind := .primitive 'J', accessFlags := 0x411 }
/-- [J -/
def k31 : Class := { plain "[J" (some 0) with kind := .array 30 .long, interfaces := #[23, 2], accessFlags := 1041 }

def heap : Heap := #[{ cls := 7, slots := #[.long 0, .int 1, .null, .int 0, .null, .int 0, .int 0], vm := .statics 7 },
  { cls := 19, slots := #[.int 0, .int 0, .null, .null, .ref 4, .ref 3, .int 0, .int 0, .long 0], vm := .statics 19 },
  { cls := 21, slots := #[.null, .null, .null], vm := .statics 21 },
  { cls := 25, slots := #[.int 48, .int 49, .int 50, .int 51, .int 52, .int 53, .int 54, .int 55, .int 56, .int 57, .int 48, .int 49, .int 50, .int 51, .int 52, .int 53, .int 54, .int 55, .int 56, .int 57, .int 48, .int 49, .int 50, .int 51, .int 52, .int 53, .int 54, .int 55, .int 56, .int 57, .int 48, .int 49, .int 50, .int 51, .int 52, .int 53, .int 54, .int 55, .int 56, .int 57, .int 48, .int 49, .int 50, .int 51, .int 52, .int 53, .int 54, .int 55, .int 56, .int 57, .int 48, .int 49, .int 50, .int 51, .int 52, .int 53, .int 54, .int 55, .int 56, .int 57, .int 48, .int 49, .int 50, .int 51, .int 52, .int 53, .int 54, .int 55, .int 56, .int 57, .int 48, .int 49, .int 50, .int 51, .int 52, .int 53, .int 54, .int 55, .int 56, .int 57, .int 48, .int 49, .int 50, .int 51, .int 52, .int 53, .int 54, .int 55, .int 56, .int 57, .int 48, .int 49, .int 50, .int 51, .int 52, .int 53, .int 54, .int 55, .int 56, .int 57], vm := .none },
  { cls := 25, slots := #[.int 48, .int 48, .int 48, .int 48, .int 48, .int 48, .int 48, .int 48, .int 48, .int 48, .int 49, .int 49, .int 49, .int 49, .int 49, .int 49, .int 49, .int 49, .int 49, .int 49, .int 50, .int 50, .int 50, .int 50, .int 50, .int 50, .int 50, .int 50, .int 50, .int 50, .int 51, .int 51, .int 51, .int 51, .int 51, .int 51, .int 51, .int 51, .int 51, .int 51, .int 52, .int 52, .int 52, .int 52, .int 52, .int 52, .int 52, .int 52, .int 52, .int 52, .int 53, .int 53, .int 53, .int 53, .int 53, .int 53, .int 53, .int 53, .int 53, .int 53, .int 54, .int 54, .int 54, .int 54, .int 54, .int 54, .int 54, .int 54, .int 54, .int 54, .int 55, .int 55, .int 55, .int 55, .int 55, .int 55, .int 55, .int 55, .int 55, .int 55, .int 56, .int 56, .int 56, .int 56, .int 56, .int 56, .int 56, .int 56, .int 56, .int 56, .int 57, .int 57, .int 57, .int 57, .int 57, .int 57, .int 57, .int 57, .int 57, .int 57], vm := .none }]
def classes : Array Class := #[k0, k1, k2, k3, k4, k5, k6, k7, k8, k9, k10, k11, k12, k13, k14, k15, k16, k17, k18, k19, k20, k21, k22, k23, k24, k25, k26, k27, k28, k29, k30, k31]
def interned : List (Array UInt16 × Addr) := []
def slotsUsed : Nat := 219
def theMethod : MethodId := ⟨1, 1⟩
def args0 : Array Value := #[.long 5, .int 3]
def aboutOver (below : List Frame) : State where
  vm := { classes := classes, interned := interned.toArray }
  heap := heap
  slotsUsed := slotsUsed
  threads := #[{ frames := .invoking theMethod args0 :: below }]
def below0 : List Frame := [.native { method := ⟨0, 0⟩, args := #[] }]
def about1 : State := aboutOver below0
def p0 : Program := .bare "" "" ""
def e0 : Env := launch0.env 0 0 0
theorem w_frames : about1.frames = Frame.invoking theMethod args0 :: below0 := rfl
set_option maxRecDepth 65536 in
theorem w_args : argsFit about1.vm theMethod args0 = true := by decide +kernel
set_option maxRecDepth 65536 in
theorem w_heap : heapFits about1 = true := by decide +kernel
set_option maxRecDepth 65536 in
theorem w_runnable : about1.curStatus? = some .runnable := by decide +kernel
set_option maxRecDepth 65536 in
theorem w_alone : about1.alone = true := by decide +kernel
set_option maxRecDepth 65536 in
theorem w_named : about1.methodNamed? x = some theMethod := by decide +kernel
set_option maxRecDepth 65536 in
theorem w_hears : about1.hears theMethod below0 = true := by decide +kernel
set_option maxRecDepth 65536 in
theorem w_ripe : about1.ripe theMethod args0 below0 = true := by decide +kernel
theorem w_running : about1.status = .running := rfl
set_option maxRecDepth 65536 in
theorem w_room : about1.hasRoom e0.platform room_1 = true :=
  launch0.hasRoom_least _ room_1 (by decide +kernel) (by decide +kernel) (by decide +kernel) (by decide +kernel) (by decide +kernel) (by decide +kernel)
theorem allAtoms_all (ts : List Jvm.Cond) (a : Array Jvm.Value) (st : Jvm.State) : (allAtoms ts).before a st = ts.all (fun c => c.before a st) := by
  induction ts with
  | nil => rfl
  | cons c t ih =>
    show (Jvm.Cond.and c (allAtoms t)).before a st = _
    rw [Jvm.Cond.before_and, ih, List.all_cons]
def words1 : List Jvm.Cond := Jvm.Cond.code x code maxLocals ret :: tables_1
/-- a 'code' word, met by the world's own term for the bytes: nothing is compared byte by byte -/
theorem code_word {y : MethodName} {bytes : ByteArray} {mx : Nat} {rt : Option FieldType} {a : Array Value} {s : State} {m : MethodId} {meth : Method} {c : Code} (h1 : s.methodNamed? y = some m) (h2 : s.vm.method? m = some meth) (h3 : meth.code = some c) (h4 : c.code = bytes)
    (h5 : (c.maxLocals == mx && c.exceptionTable.isEmpty && decide (c.maxStack ≤ mostOperands) && decide (meth.sig.returnType = rt) && !meth.locks && decide (parseMethodDescriptor y.desc = some meth.sig)) = true) : (Jvm.Cond.code y bytes mx rt).before a s = true := by
  simp only [Bool.and_eq_true, beq_iff_eq, Bool.not_eq_true', decide_eq_true_eq] at h5
  obtain ⟨⟨⟨⟨⟨g1, g2⟩, g3⟩, g4⟩, g5⟩, g6⟩ := h5
  simp [Cond.before, Cond.holds, Cond.value, h1, h2, h3, h4, g1, g2, g3, g4, g5, g6]
def isCode : Jvm.Cond → Bool
  | .code _ _ _ _ => true
  | _ => false
theorem all_split {L : List Jvm.Cond} {P : Jvm.Cond → Bool} (h1 : L.all (fun c => isCode c || P c) = true) (h2 : ∀ c ∈ L.filter isCode, P c = true) : L.all P = true := by
  refine List.all_eq_true.mpr fun c hc => ?_
  have h := List.all_eq_true.mp h1 c hc
  rcases Bool.eq_false_or_eq_true (isCode c) with hi | hi
  · exact h2 c (List.mem_filter.mpr ⟨hc, hi⟩)
  · simpa [hi] using h
set_option maxRecDepth 65536 in
theorem w_c0 : (Jvm.Cond.code x code maxLocals ret).before args0 about1 = true := code_word (m := ⟨1, 1⟩) (meth := k1m1) (c := k1c1) (by decide +kernel) rfl rfl rfl (by decide +kernel)
set_option maxRecDepth 65536 in
theorem w_c1 : (Jvm.Cond.code ({ cls := "java/lang/String", name := "<init>", desc := "([C)V" } : Jvm.MethodName) jdk_42_method_3_code (2 : Nat) (Option.none : Option Jvm.ClassFile.FieldType)).before args0 about1 = true := code_word (m := ⟨7, 1⟩) (meth := k7m1) (c := k7c1) (by decide +kernel) rfl rfl rfl (by decide +kernel)
set_option maxRecDepth 65536 in
theorem w_c2 : (Jvm.Cond.code ({ cls := "java/lang/String", name := "<init>", desc := "([CIILjava/lang/Void;)V" } : Jvm.MethodName) jdk_42_method_149_code (6 : Nat) (Option.none : Option Jvm.ClassFile.FieldType)).before args0 about1 = true := code_word (m := ⟨7, 8⟩) (meth := k7m8) (c := k7c8) (by decide +kernel) rfl rfl rfl (by decide +kernel)
set_option maxRecDepth 65536 in
theorem w_c3 : (Jvm.Cond.code ({ cls := "java/lang/Object", name := "<init>", desc := "()V" } : Jvm.MethodName) object_method_1_code (1 : Nat) (Option.none : Option Jvm.ClassFile.FieldType)).before args0 about1 = true := code_word (m := ⟨0, 0⟩) (meth := k0m0) (c := k0c0) (by decide +kernel) rfl rfl rfl (by decide +kernel)
set_option maxRecDepth 65536 in
theorem w_c4 : (Jvm.Cond.code ({ cls := "com/example/ossify/ossify/AppendReport$TornTail", name := "<init>", desc := "(Ljava/lang/String;J)V" } : Jvm.MethodName) prog_3_method_1_code (4 : Nat) (Option.none : Option Jvm.ClassFile.FieldType)).before args0 about1 = true := code_word (m := ⟨9, 0⟩) (meth := k9m0) (c := k9c0) (by decide +kernel) rfl rfl rfl (by decide +kernel)
set_option maxRecDepth 65536 in
theorem w_c5 : (Jvm.Cond.code ({ cls := "java/lang/Record", name := "<init>", desc := "()V" } : Jvm.MethodName) jdk_30_method_1_code (1 : Nat) (Option.none : Option Jvm.ClassFile.FieldType)).before args0 about1 = true := code_word (m := ⟨8, 0⟩) (meth := k8m0) (c := k8c0) (by decide +kernel) rfl rfl rfl (by decide +kernel)
set_option maxRecDepth 65536 in
theorem w_c6 : (Jvm.Cond.code ({ cls := "com/example/ossify/ossify/AppendReport$TornTail", name := "describe", desc := "()Ljava/lang/String;" } : Jvm.MethodName) prog_3_method_2_code (1 : Nat) (Option.some (Jvm.ClassFile.FieldType.object "java/lang/String"))).before args0 about1 = true := code_word (m := ⟨9, 1⟩) (meth := k9m1) (c := k9c1) (by decide +kernel) rfl rfl rfl (by decide +kernel)
set_option maxRecDepth 65536 in
theorem w_c7 : (Jvm.Cond.code ({ cls := "java/lang/StringBuilder", name := "<init>", desc := "()V" } : Jvm.MethodName) jdk_67_method_1_code (1 : Nat) (Option.none : Option Jvm.ClassFile.FieldType)).before args0 about1 = true := code_word (m := ⟨12, 0⟩) (meth := k12m0) (c := k12c0) (by decide +kernel) rfl rfl rfl (by decide +kernel)
set_option maxRecDepth 65536 in
theorem w_c8 : (Jvm.Cond.code ({ cls := "java/lang/AbstractStringBuilder", name := "<init>", desc := "(I)V" } : Jvm.MethodName) jdk_68_method_2_code (2 : Nat) (Option.none : Option Jvm.ClassFile.FieldType)).before args0 about1 = true := code_word (m := ⟨11, 1⟩) (meth := k11m1) (c := k11c1) (by decide +kernel) rfl rfl rfl (by decide +kernel)
set_option maxRecDepth 65536 in
theorem w_c9 : (Jvm.Cond.code ({ cls := "java/lang/StringBuilder", name := "append", desc := "(Ljava/lang/String;)Ljava/lang/StringBuilder;" } : Jvm.MethodName) jdk_67_method_7_code (2 : Nat) (Option.some (Jvm.ClassFile.FieldType.object "java/lang/StringBuilder"))).before args0 about1 = true := code_word (m := ⟨12, 1⟩) (meth := k12m1) (c := k12c1) (by decide +kernel) rfl rfl rfl (by decide +kernel)
set_option maxRecDepth 65536 in
theorem w_c10 : (Jvm.Cond.code ({ cls := "java/lang/AbstractStringBuilder", name := "append", desc := "(Ljava/lang/String;)Ljava/lang/AbstractStringBuilder;" } : Jvm.MethodName) jdk_68_method_22_code (3 : Nat) (Option.some (Jvm.ClassFile.FieldType.object "java/lang/AbstractStringBuilder"))).before args0 about1 = true := code_word (m := ⟨11, 5⟩) (meth := k11m5) (c := k11c5) (by decide +kernel) rfl rfl rfl (by decide +kernel)
set_option maxRecDepth 65536 in
theorem w_c11 : (Jvm.Cond.code ({ cls := "java/lang/String", name := "length", desc := "()I" } : Jvm.MethodName) jdk_42_method_54_code (1 : Nat) (Option.some Jvm.ClassFile.FieldType.int)).before args0 about1 = true := code_word (m := ⟨7, 3⟩) (meth := k7m3) (c := k7c3) (by decide +kernel) rfl rfl rfl (by decide +kernel)
set_option maxRecDepth 65536 in
theorem w_c12 : (Jvm.Cond.code ({ cls := "java/lang/String", name := "coder", desc := "()B" } : Jvm.MethodName) jdk_42_method_152_code (1 : Nat) (Option.some Jvm.ClassFile.FieldType.byte)).before args0 about1 = true := code_word (m := ⟨7, 11⟩) (meth := k7m11) (c := k7c11) (by decide +kernel) rfl rfl rfl (by decide +kernel)
set_option maxRecDepth 65536 in
theorem w_c13 : (Jvm.Cond.code ({ cls := "java/lang/AbstractStringBuilder", name := "ensureCapacityInternal", desc := "(I)V" } : Jvm.MethodName) jdk_68_method_9_code (3 : Nat) (Option.none : Option Jvm.ClassFile.FieldType)).before args0 about1 = true := code_word (m := ⟨11, 3⟩) (meth := k11m3) (c := k11c3) (by decide +kernel) rfl rfl rfl (by decide +kernel)
set_option maxRecDepth 65536 in
theorem w_c14 : (Jvm.Cond.code ({ cls := "java/lang/AbstractStringBuilder", name := "newCapacity", desc := "(I)I" } : Jvm.MethodName) jdk_68_method_10_code (6 : Nat) (Option.some Jvm.ClassFile.FieldType.int)).before args0 about1 = true := code_word (m := ⟨11, 4⟩) (meth := k11m4) (c := k11c4) (by decide +kernel) rfl rfl rfl (by decide +kernel)
set_option maxRecDepth 65536 in
theorem w_c15 : (Jvm.Cond.code ({ cls := "jdk/internal/util/ArraysSupport", name := "newLength", desc := "(III)I" } : Jvm.MethodName) jdk_48_method_27_code (4 : Nat) (Option.some Jvm.ClassFile.FieldType.int)).before args0 about1 = true := code_word (m := ⟨13, 1⟩) (meth := k13m1) (c := k13c1) (by decide +kernel) rfl rfl rfl (by decide +kernel)
set_option maxRecDepth 65536 in
theorem w_c16 : (Jvm.Cond.code ({ cls := "java/lang/Math", name := "max", desc := "(II)I" } : Jvm.MethodName) jdk_29_method_65_code (2 : Nat) (Option.some Jvm.ClassFile.FieldType.int)).before args0 about1 = true := code_word (m := ⟨14, 2⟩) (meth := k14m2) (c := k14c2) (by decide +kernel) rfl rfl rfl (by decide +kernel)
set_option maxRecDepth 65536 in
theorem w_c17 : (Jvm.Cond.code ({ cls := "java/util/Arrays", name := "copyOf", desc := "([BI)[B" } : Jvm.MethodName) jdk_65_method_121_code (3 : Nat) (Option.some (Jvm.ClassFile.FieldType.array Jvm.ClassFile.FieldType.byte))).before args0 about1 = true := code_word (m := ⟨15, 1⟩) (meth := k15m1) (c := k15c1) (by decide +kernel) rfl rfl rfl (by decide +kernel)
set_option maxRecDepth 65536 in
theorem w_c18 : (Jvm.Cond.code ({ cls := "java/lang/Math", name := "min", desc := "(II)I" } : Jvm.MethodName) jdk_29_method_69_code (2 : Nat) (Option.some Jvm.ClassFile.FieldType.int)).before args0 about1 = true := code_word (m := ⟨14, 3⟩) (meth := k14m3) (c := k14c3) (by decide +kernel) rfl rfl rfl (by decide +kernel)
set_option maxRecDepth 65536 in
theorem w_c19 : (Jvm.Cond.code ({ cls := "java/lang/AbstractStringBuilder", name := "putStringAt", desc := "(ILjava/lang/String;)V" } : Jvm.MethodName) jdk_68_method_73_code (3 : Nat) (Option.none : Option Jvm.ClassFile.FieldType)).before args0 about1 = true := code_word (m := ⟨11, 10⟩) (meth := k11m10) (c := k11c10) (by decide +kernel) rfl rfl rfl (by decide +kernel)
set_option maxRecDepth 65536 in
theorem w_c20 : (Jvm.Cond.code ({ cls := "java/lang/AbstractStringBuilder", name := "inflateIfNeededFor", desc := "(Ljava/lang/String;)V" } : Jvm.MethodName) jdk_68_method_71_code (2 : Nat) (Option.none : Option Jvm.ClassFile.FieldType)).before args0 about1 = true := code_word (m := ⟨11, 9⟩) (meth := k11m9) (c := k11c9) (by decide +kernel) rfl rfl rfl (by decide +kernel)
set_option maxRecDepth 65536 in
theorem w_c21 : (Jvm.Cond.code ({ cls := "java/lang/String", name := "getBytes", desc := "([BIB)V" } : Jvm.MethodName) jdk_42_method_147_code (4 : Nat) (Option.none : Option Jvm.ClassFile.FieldType)).before args0 about1 = true := code_word (m := ⟨7, 7⟩) (meth := k7m7) (c := k7c7) (by decide +kernel) rfl rfl rfl (by decide +kernel)
set_option maxRecDepth 65536 in
theorem w_c22 : (Jvm.Cond.code ({ cls := "java/lang/StringBuilder", name := "append", desc := "(J)Ljava/lang/StringBuilder;" } : Jvm.MethodName) jdk_67_method_16_code (3 : Nat) (Option.some (Jvm.ClassFile.FieldType.object "java/lang/StringBuilder"))).before args0 about1 = true := code_word (m := ⟨12, 2⟩) (meth := k12m2) (c := k12c2) (by decide +kernel) rfl rfl rfl (by decide +kernel)
set_option maxRecDepth 65536 in
theorem w_c23 : (Jvm.Cond.code ({ cls := "java/lang/AbstractStringBuilder", name := "append", desc := "(J)Ljava/lang/AbstractStringBuilder;" } : Jvm.MethodName) jdk_68_method_33_code (5 : Nat) (Option.some (Jvm.ClassFile.FieldType.object "java/lang/AbstractStringBuilder"))).before args0 about1 = true := code_word (m := ⟨11, 6⟩) (meth := k11m6) (c := k11c6) (by decide +kernel) rfl rfl rfl (by decide +kernel)
set_option maxRecDepth 65536 in
theorem w_c24 : (Jvm.Cond.code ({ cls := "java/lang/Long", name := "stringSize", desc := "(J)I" } : Jvm.MethodName) jdk_35_method_15_code (6 : Nat) (Option.some Jvm.ClassFile.FieldType.int)).before args0 about1 = true := code_word (m := ⟨18, 1⟩) (meth := k18m1) (c := k18c1) (by decide +kernel) rfl rfl rfl (by decide +kernel)
set_option maxRecDepth 65536 in
theorem w_c25 : (Jvm.Cond.code ({ cls := "java/lang/AbstractStringBuilder", name := "isLatin1", desc := "()Z" } : Jvm.MethodName) jdk_68_method_68_code (1 : Nat) (Option.some Jvm.ClassFile.FieldType.boolean)).before args0 about1 = true := code_word (m := ⟨11, 8⟩) (meth := k11m8) (c := k11c8) (by decide +kernel) rfl rfl rfl (by decide +kernel)
set_option maxRecDepth 65536 in
theorem w_c26 : (Jvm.Cond.code ({ cls := "java/lang/Long", name := "getChars", desc := "(JI[B)I" } : Jvm.MethodName) jdk_35_method_14_code (11 : Nat) (Option.some Jvm.ClassFile.FieldType.int)).before args0 about1 = true := code_word (m := ⟨18, 0⟩) (meth := k18m0) (c := k18c0) (by decide +kernel) rfl rfl rfl (by decide +kernel)
set_option maxRecDepth 65536 in
theorem w_c27 : (Jvm.Cond.code ({ cls := "java/lang/StringBuilder", name := "toString", desc := "()Ljava/lang/String;" } : Jvm.MethodName) jdk_67_method_42_code (1 : Nat) (Option.some (Jvm.ClassFile.FieldType.object "java/lang/String"))).before args0 about1 = true := code_word (m := ⟨12, 3⟩) (meth := k12m3) (c := k12c3) (by decide +kernel) rfl rfl rfl (by decide +kernel)
set_option maxRecDepth 65536 in
theorem w_c28 : (Jvm.Cond.code ({ cls := "java/lang/String", name := "<init>", desc := "(Ljava/lang/StringBuilder;)V" } : Jvm.MethodName) jdk_42_method_53_code (2 : Nat) (Option.none : Option Jvm.ClassFile.FieldType)).before args0 about1 = true := code_word (m := ⟨7, 2⟩) (meth := k7m2) (c := k7c2) (by decide +kernel) rfl rfl rfl (by decide +kernel)
set_option maxRecDepth 65536 in
theorem w_c29 : (Jvm.Cond.code ({ cls := "java/lang/String", name := "<init>", desc := "(Ljava/lang/AbstractStringBuilder;Ljava/lang/Void;)V" } : Jvm.MethodName) jdk_42_method_150_code (5 : Nat) (Option.none : Option Jvm.ClassFile.FieldType)).before args0 about1 = true := code_word (m := ⟨7, 9⟩) (meth := k7m9) (c := k7c9) (by decide +kernel) rfl rfl rfl (by decide +kernel)
set_option maxRecDepth 65536 in
theorem w_c30 : (Jvm.Cond.code ({ cls := "java/lang/AbstractStringBuilder", name := "getValue", desc := "()[B" } : Jvm.MethodName) jdk_68_method_64_code (1 : Nat) (Option.some (Jvm.ClassFile.FieldType.array Jvm.ClassFile.FieldType.byte))).before args0 about1 = true := code_word (m := ⟨11, 7⟩) (meth := k11m7) (c := k11c7) (by decide +kernel) rfl rfl rfl (by decide +kernel)
set_option maxRecDepth 65536 in
theorem w_c31 : (Jvm.Cond.code ({ cls := "java/lang/StringBuilder", name := "length", desc := "()I" } : Jvm.MethodName) jdk_67_method_93_code (1 : Nat) (Option.some Jvm.ClassFile.FieldType.int)).before args0 about1 = true := code_word (m := ⟨12, 4⟩) (meth := k12m4) (c := k12c4) (by decide +kernel) rfl rfl rfl (by decide +kernel)
set_option maxRecDepth 65536 in
theorem w_c32 : (Jvm.Cond.code ({ cls := "java/lang/AbstractStringBuilder", name := "length", desc := "()I" } : Jvm.MethodName) jdk_68_method_6_code (1 : Nat) (Option.some Jvm.ClassFile.FieldType.int)).before args0 about1 = true := code_word (m := ⟨11, 2⟩) (meth := k11m2) (c := k11c2) (by decide +kernel) rfl rfl rfl (by decide +kernel)
set_option maxRecDepth 65536 in
theorem w_c33 : (Jvm.Cond.code ({ cls := "java/util/Arrays", name := "copyOfRange", desc := "([BII)[B" } : Jvm.MethodName) jdk_65_method_132_code (3 : Nat) (Option.some (Jvm.ClassFile.FieldType.array Jvm.ClassFile.FieldType.byte))).before args0 about1 = true := code_word (m := ⟨15, 3⟩) (meth := k15m3) (c := k15c3) (by decide +kernel) rfl rfl rfl (by decide +kernel)
set_option maxRecDepth 65536 in
theorem w_c34 : (Jvm.Cond.code ({ cls := "java/util/Arrays", name := "copyOfRangeByte", desc := "([BII)[B" } : Jvm.MethodName) jdk_65_method_133_code (5 : Nat) (Option.some (Jvm.ClassFile.FieldType.array Jvm.ClassFile.FieldType.byte))).before args0 about1 = true := code_word (m := ⟨15, 4⟩) (meth := k15m4) (c := k15c4) (by decide +kernel) rfl rfl rfl (by decide +kernel)
set_option maxRecDepth 65536 in
theorem w_c35 : (Jvm.Cond.code ({ cls := "java/util/Arrays", name := "checkLength", desc := "(II)V" } : Jvm.MethodName) jdk_65_method_131_code (2 : Nat) (Option.none : Option Jvm.ClassFile.FieldType)).before args0 about1 = true := code_word (m := ⟨15, 2⟩) (meth := k15m2) (c := k15c2) (by decide +kernel) rfl rfl rfl (by decide +kernel)
set_option maxRecDepth 65536 in
theorem w_c36 : (Jvm.Cond.code ({ cls := "com/example/ossify/ossify/TornTailDescribePinLaw", name := "digitCount", desc := "(J)I" } : Jvm.MethodName) method_3_code (4 : Nat) (Option.some Jvm.ClassFile.FieldType.int)).before args0 about1 = true := code_word (m := ⟨1, 2⟩) (meth := k1m2) (c := k1c2) (by decide +kernel) rfl rfl rfl (by decide +kernel)
set_option maxRecDepth 65536 in
theorem w_c37 : (Jvm.Cond.code ({ cls := "java/lang/String", name := "charAt", desc := "(I)C" } : Jvm.MethodName) jdk_42_method_56_code (2 : Nat) (Option.some Jvm.ClassFile.FieldType.char)).before args0 about1 = true := code_word (m := ⟨7, 4⟩) (meth := k7m4) (c := k7c4) (by decide +kernel) rfl rfl rfl (by decide +kernel)
set_option maxRecDepth 65536 in
theorem w_c38 : (Jvm.Cond.code ({ cls := "java/lang/String", name := "isLatin1", desc := "()Z" } : Jvm.MethodName) jdk_42_method_154_code (1 : Nat) (Option.some Jvm.ClassFile.FieldType.boolean)).before args0 about1 = true := code_word (m := ⟨7, 12⟩) (meth := k7m12) (c := k7c12) (by decide +kernel) rfl rfl rfl (by decide +kernel)
set_option maxRecDepth 65536 in
theorem w_c39 : (Jvm.Cond.code ({ cls := "java/lang/StringLatin1", name := "charAt", desc := "([BI)C" } : Jvm.MethodName) jdk_43_method_2_code (2 : Nat) (Option.some Jvm.ClassFile.FieldType.char)).before args0 about1 = true := code_word (m := ⟨20, 1⟩) (meth := k20m1) (c := k20c1) (by decide +kernel) rfl rfl rfl (by decide +kernel)
set_option maxRecDepth 65536 in
theorem w_c40 : (Jvm.Cond.code ({ cls := "java/lang/String", name := "checkIndex", desc := "(II)V" } : Jvm.MethodName) jdk_42_method_155_code (2 : Nat) (Option.none : Option Jvm.ClassFile.FieldType)).before args0 about1 = true := code_word (m := ⟨7, 13⟩) (meth := k7m13) (c := k7c13) (by decide +kernel) rfl rfl rfl (by decide +kernel)
set_option maxRecDepth 65536 in
theorem w_c41 : (Jvm.Cond.code ({ cls := "jdk/internal/util/Preconditions", name := "checkIndex", desc := "(IILjava/util/function/BiFunction;)I" } : Jvm.MethodName) jdk_41_method_11_code (3 : Nat) (Option.some Jvm.ClassFile.FieldType.int)).before args0 about1 = true := code_word (m := ⟨21, 1⟩) (meth := k21m1) (c := k21c1) (by decide +kernel) rfl rfl rfl (by decide +kernel)
set_option maxRecDepth 65536 in
theorem w_c42 : (Jvm.Cond.code ({ cls := "java/lang/StringUTF16", name := "compress", desc := "([CII)[B" } : Jvm.MethodName) jdk_52_method_16_code (6 : Nat) (Option.some (Jvm.ClassFile.FieldType.array Jvm.ClassFile.FieldType.byte))).before args0 about1 = true := code_word (m := ⟨22, 2⟩) (meth := k22m2) (c := k22c2) (by decide +kernel) rfl rfl rfl (by decide +kernel)
set_option maxRecDepth 65536 in
theorem w_c43 : (Jvm.Cond.code ({ cls := "java/lang/StringUTF16", name := "compress", desc := "([CI[BII)I" } : Jvm.MethodName) jdk_52_method_21_code (7 : Nat) (Option.some Jvm.ClassFile.FieldType.int)).before args0 about1 = true := code_word (m := ⟨22, 3⟩) (meth := k22m3) (c := k22c3) (by decide +kernel) rfl rfl rfl (by decide +kernel)
set_option maxRecDepth 65536 in
theorem w_c44 : (Jvm.Cond.code ({ cls := "java/lang/StringUTF16", name := "coderFromArrayLen", desc := "([BI)B" } : Jvm.MethodName) jdk_52_method_15_code (2 : Nat) (Option.some Jvm.ClassFile.FieldType.byte)).before args0 about1 = true := code_word (m := ⟨22, 1⟩) (meth := k22m1) (c := k22c1) (by decide +kernel) rfl rfl rfl (by decide +kernel)
set_option maxRecDepth 65536 in
theorem w_c45 : (Jvm.Cond.code ({ cls := "java/lang/String", name := "equals", desc := "(Ljava/lang/Object;)Z" } : Jvm.MethodName) jdk_42_method_66_code (3 : Nat) (Option.some Jvm.ClassFile.FieldType.boolean)).before args0 about1 = true := code_word (m := ⟨7, 5⟩) (meth := k7m5) (c := k7c5) (by decide +kernel) rfl rfl rfl (by decide +kernel)
set_option maxRecDepth 65536 in
theorem w_c46 : (Jvm.Cond.code ({ cls := "java/lang/StringLatin1", name := "equals", desc := "([B[B)Z" } : Jvm.MethodName) jdk_43_method_13_code (3 : Nat) (Option.some Jvm.ClassFile.FieldType.boolean)).before args0 about1 = true := code_word (m := ⟨20, 3⟩) (meth := k20m3) (c := k20c3) (by decide +kernel) rfl rfl rfl (by decide +kernel)
set_option maxRecDepth 65536 in
theorem w_c47 : (Jvm.Cond.code ({ cls := "com/example/ossify/ossify/TornTailDescribePinLaw", name := "dig", desc := "(Ljava/lang/String;IJII)Z" } : Jvm.MethodName) method_5_code (9 : Nat) (Option.some Jvm.ClassFile.FieldType.boolean)).before args0 about1 = true := code_word (m := ⟨1, 4⟩) (meth := k1m4) (c := k1c4) (by decide +kernel) rfl rfl rfl (by decide +kernel)
set_option maxRecDepth 65536 in
theorem w_c48 : (Jvm.Cond.code ({ cls := "com/example/ossify/ossify/TornTailDescribePinLaw", name := "pow10", desc := "(I)J" } : Jvm.MethodName) method_4_code (2 : Nat) (Option.some Jvm.ClassFile.FieldType.long)).before args0 about1 = true := code_word (m := ⟨1, 3⟩) (meth := k1m3) (c := k1c3) (by decide +kernel) rfl rfl rfl (by decide +kernel)
set_option maxRecDepth 65536 in
theorem w_c49 : (Jvm.Cond.code ({ cls := "java/lang/Math", name := "abs", desc := "(J)J" } : Jvm.MethodName) jdk_29_method_61_code (2 : Nat) (Option.some Jvm.ClassFile.FieldType.long)).before args0 about1 = true := code_word (m := ⟨14, 1⟩) (meth := k14m1) (c := k14c1) (by decide +kernel) rfl rfl rfl (by decide +kernel)
set_option maxRecDepth 65536 in
theorem w_c50 : (Jvm.Cond.code ({ cls := "java/lang/String", name := "valueOf", desc := "(C)Ljava/lang/String;" } : Jvm.MethodName) jdk_42_method_139_code (1 : Nat) (Option.some (Jvm.ClassFile.FieldType.object "java/lang/String"))).before args0 about1 = true := code_word (m := ⟨7, 6⟩) (meth := k7m6) (c := k7c6) (by decide +kernel) rfl rfl rfl (by decide +kernel)
set_option maxRecDepth 65536 in
theorem w_c51 : (Jvm.Cond.code ({ cls := "java/lang/StringLatin1", name := "canEncode", desc := "(C)Z" } : Jvm.MethodName) jdk_43_method_3_code (1 : Nat) (Option.some Jvm.ClassFile.FieldType.boolean)).before args0 about1 = true := code_word (m := ⟨20, 2⟩) (meth := k20m2) (c := k20c2) (by decide +kernel) rfl rfl rfl (by decide +kernel)
set_option maxRecDepth 65536 in
theorem w_c52 : (Jvm.Cond.code ({ cls := "java/lang/StringLatin1", name := "toBytes", desc := "(C)[B" } : Jvm.MethodName) jdk_43_method_46_code (1 : Nat) (Option.some (Jvm.ClassFile.FieldType.array Jvm.ClassFile.FieldType.byte))).before args0 about1 = true := code_word (m := ⟨20, 4⟩) (meth := k20m4) (c := k20c4) (by decide +kernel) rfl rfl rfl (by decide +kernel)
set_option maxRecDepth 65536 in
theorem w_c53 : (Jvm.Cond.code ({ cls := "java/lang/String", name := "<init>", desc := "([BB)V" } : Jvm.MethodName) jdk_42_method_151_code (3 : Nat) (Option.none : Option Jvm.ClassFile.FieldType)).before args0 about1 = true := code_word (m := ⟨7, 10⟩) (meth := k7m10) (c := k7c10) (by decide +kernel) rfl rfl rfl (by decide +kernel)
def codes1 : List Jvm.Cond := [Jvm.Cond.code x code maxLocals ret, Jvm.Cond.code ({ cls := "java/lang/String", name := "<init>", desc := "([C)V" } : Jvm.MethodName) jdk_42_method_3_code (2 : Nat) (Option.none : Option Jvm.ClassFile.FieldType), Jvm.Cond.code ({ cls := "java/lang/String", name := "<init>", desc := "([CIILjava/lang/Void;)V" } : Jvm.MethodName) jdk_42_method_149_code (6 : Nat) (Option.none : Option Jvm.ClassFile.FieldType), Jvm.Cond.code ({ cls := "java/lang/Object", name := "<init>", desc := "()V" } : Jvm.MethodName) object_method_1_code (1 : Nat) (Option.none : Option Jvm.ClassFile.FieldType), Jvm.Cond.code ({ cls := "com/example/ossify/ossify/AppendReport$TornTail", name := "<init>", desc := "(Ljava/lang/String;J)V" } : Jvm.MethodName) prog_3_method_1_code (4 : Nat) (Option.none : Option Jvm.ClassFile.FieldType), Jvm.Cond.code ({ cls := "java/lang/Record", name := "<init>", desc := "()V" } : Jvm.MethodName) jdk_30_method_1_code (1 : Nat) (Option.none : Option Jvm.ClassFile.FieldType), Jvm.Cond.code ({ cls := "com/example/ossify/ossify/AppendReport$TornTail", name := "describe", desc := "()Ljava/lang/String;" } : Jvm.MethodName) prog_3_method_2_code (1 : Nat) (Option.some (Jvm.ClassFile.FieldType.object "java/lang/String")), Jvm.Cond.code ({ cls := "java/lang/StringBuilder", name := "<init>", desc := "()V" } : Jvm.MethodName) jdk_67_method_1_code (1 : Nat) (Option.none : Option Jvm.ClassFile.FieldType), Jvm.Cond.code ({ cls := "java/lang/AbstractStringBuilder", name := "<init>", desc := "(I)V" } : Jvm.MethodName) jdk_68_method_2_code (2 : Nat) (Option.none : Option Jvm.ClassFile.FieldType), Jvm.Cond.code ({ cls := "java/lang/StringBuilder", name := "append", desc := "(Ljava/lang/String;)Ljava/lang/StringBuilder;" } : Jvm.MethodName) jdk_67_method_7_code (2 : Nat) (Option.some (Jvm.ClassFile.FieldType.object "java/lang/StringBuilder")), Jvm.Cond.code ({ cls := "java/lang/AbstractStringBuilder", name := "append", desc := "(Ljava/lang/String;)Ljava/lang/AbstractStringBuilder;" } : Jvm.MethodName) jdk_68_method_22_code (3 : Nat) (Option.some (Jvm.ClassFile.FieldType.object "java/lang/AbstractStringBuilder")), Jvm.Cond.code ({ cls := "java/lang/String", name := "length", desc := "()I" } : Jvm.MethodName) jdk_42_method_54_code (1 : Nat) (Option.some Jvm.ClassFile.FieldType.int), Jvm.Cond.code ({ cls := "java/lang/String", name := "coder", desc := "()B" } : Jvm.MethodName) jdk_42_method_152_code (1 : Nat) (Option.some Jvm.ClassFile.FieldType.byte), Jvm.Cond.code ({ cls := "java/lang/AbstractStringBuilder", name := "ensureCapacityInternal", desc := "(I)V" } : Jvm.MethodName) jdk_68_method_9_code (3 : Nat) (Option.none : Option Jvm.ClassFile.FieldType), Jvm.Cond.code ({ cls := "java/lang/AbstractStringBuilder", name := "newCapacity", desc := "(I)I" } : Jvm.MethodName) jdk_68_method_10_code (6 : Nat) (Option.some Jvm.ClassFile.FieldType.int), Jvm.Cond.code ({ cls := "jdk/internal/util/ArraysSupport", name := "newLength", desc := "(III)I" } : Jvm.MethodName) jdk_48_method_27_code (4 : Nat) (Option.some Jvm.ClassFile.FieldType.int), Jvm.Cond.code ({ cls := "java/lang/Math", name := "max", desc := "(II)I" } : Jvm.MethodName) jdk_29_method_65_code (2 : Nat) (Option.some Jvm.ClassFile.FieldType.int), Jvm.Cond.code ({ cls := "java/util/Arrays", name := "copyOf", desc := "([BI)[B" } : Jvm.MethodName) jdk_65_method_121_code (3 : Nat) (Option.some (Jvm.ClassFile.FieldType.array Jvm.ClassFile.FieldType.byte)), Jvm.Cond.code ({ cls := "java/lang/Math", name := "min", desc := "(II)I" } : Jvm.MethodName) jdk_29_method_69_code (2 : Nat) (Option.some Jvm.ClassFile.FieldType.int), Jvm.Cond.code ({ cls := "java/lang/AbstractStringBuilder", name := "putStringAt", desc := "(ILjava/lang/String;)V" } : Jvm.MethodName) jdk_68_method_73_code (3 : Nat) (Option.none : Option Jvm.ClassFile.FieldType), Jvm.Cond.code ({ cls := "java/lang/AbstractStringBuilder", name := "inflateIfNeededFor", desc := "(Ljava/lang/String;)V" } : Jvm.MethodName) jdk_68_method_71_code (2 : Nat) (Option.none : Option Jvm.ClassFile.FieldType), Jvm.Cond.code ({ cls := "java/lang/String", name := "getBytes", desc := "([BIB)V" } : Jvm.MethodName) jdk_42_method_147_code (4 : Nat) (Option.none : Option Jvm.ClassFile.FieldType), Jvm.Cond.code ({ cls := "java/lang/StringBuilder", name := "append", desc := "(J)Ljava/lang/StringBuilder;" } : Jvm.MethodName) jdk_67_method_16_code (3 : Nat) (Option.some (Jvm.ClassFile.FieldType.object "java/lang/StringBuilder")), Jvm.Cond.code ({ cls := "java/lang/AbstractStringBuilder", name := "append", desc := "(J)Ljava/lang/AbstractStringBuilder;" } : Jvm.MethodName) jdk_68_method_33_code (5 : Nat) (Option.some (Jvm.ClassFile.FieldType.object "java/lang/AbstractStringBuilder")), Jvm.Cond.code ({ cls := "java/lang/Long", name := "stringSize", desc := "(J)I" } : Jvm.MethodName) jdk_35_method_15_code (6 : Nat) (Option.some Jvm.ClassFile.FieldType.int), Jvm.Cond.code ({ cls := "java/lang/AbstractStringBuilder", name := "isLatin1", desc := "()Z" } : Jvm.MethodName) jdk_68_method_68_code (1 : Nat) (Option.some Jvm.ClassFile.FieldType.boolean), Jvm.Cond.code ({ cls := "java/lang/Long", name := "getChars", desc := "(JI[B)I" } : Jvm.MethodName) jdk_35_method_14_code (11 : Nat) (Option.some Jvm.ClassFile.FieldType.int), Jvm.Cond.code ({ cls := "java/lang/StringBuilder", name := "toString", desc := "()Ljava/lang/String;" } : Jvm.MethodName) jdk_67_method_42_code (1 : Nat) (Option.some (Jvm.ClassFile.FieldType.object "java/lang/String")), Jvm.Cond.code ({ cls := "java/lang/String", name := "<init>", desc := "(Ljava/lang/StringBuilder;)V" } : Jvm.MethodName) jdk_42_method_53_code (2 : Nat) (Option.none : Option Jvm.ClassFile.FieldType), Jvm.Cond.code ({ cls := "java/lang/String", name := "<init>", desc := "(Ljava/lang/AbstractStringBuilder;Ljava/lang/Void;)V" } : Jvm.MethodName) jdk_42_method_150_code (5 : Nat) (Option.none : Option Jvm.ClassFile.FieldType), Jvm.Cond.code ({ cls := "java/lang/AbstractStringBuilder", name := "getValue", desc := "()[B" } : Jvm.MethodName) jdk_68_method_64_code (1 : Nat) (Option.some (Jvm.ClassFile.FieldType.array Jvm.ClassFile.FieldType.byte)), Jvm.Cond.code ({ cls := "java/lang/StringBuilder", name := "length", desc := "()I" } : Jvm.MethodName) jdk_67_method_93_code (1 : Nat) (Option.some Jvm.ClassFile.FieldType.int), Jvm.Cond.code ({ cls := "java/lang/AbstractStringBuilder", name := "length", desc := "()I" } : Jvm.MethodName) jdk_68_method_6_code (1 : Nat) (Option.some Jvm.ClassFile.FieldType.int), Jvm.Cond.code ({ cls := "java/util/Arrays", name := "copyOfRange", desc := "([BII)[B" } : Jvm.MethodName) jdk_65_method_132_code (3 : Nat) (Option.some (Jvm.ClassFile.FieldType.array Jvm.ClassFile.FieldType.byte)), Jvm.Cond.code ({ cls := "java/util/Arrays", name := "copyOfRangeByte", desc := "([BII)[B" } : Jvm.MethodName) jdk_65_method_133_code (5 : Nat) (Option.some (Jvm.ClassFile.FieldType.array Jvm.ClassFile.FieldType.byte)), Jvm.Cond.code ({ cls := "java/util/Arrays", name := "checkLength", desc := "(II)V" } : Jvm.MethodName) jdk_65_method_131_code (2 : Nat) (Option.none : Option Jvm.ClassFile.FieldType), Jvm.Cond.code ({ cls := "com/example/ossify/ossify/TornTailDescribePinLaw", name := "digitCount", desc := "(J)I" } : Jvm.MethodName) method_3_code (4 : Nat) (Option.some Jvm.ClassFile.FieldType.int), Jvm.Cond.code ({ cls := "java/lang/String", name := "charAt", desc := "(I)C" } : Jvm.MethodName) jdk_42_method_56_code (2 : Nat) (Option.some Jvm.ClassFile.FieldType.char), Jvm.Cond.code ({ cls := "java/lang/String", name := "isLatin1", desc := "()Z" } : Jvm.MethodName) jdk_42_method_154_code (1 : Nat) (Option.some Jvm.ClassFile.FieldType.boolean), Jvm.Cond.code ({ cls := "java/lang/StringLatin1", name := "charAt", desc := "([BI)C" } : Jvm.MethodName) jdk_43_method_2_code (2 : Nat) (Option.some Jvm.ClassFile.FieldType.char), Jvm.Cond.code ({ cls := "java/lang/String", name := "checkIndex", desc := "(II)V" } : Jvm.MethodName) jdk_42_method_155_code (2 : Nat) (Option.none : Option Jvm.ClassFile.FieldType), Jvm.Cond.code ({ cls := "jdk/internal/util/Preconditions", name := "checkIndex", desc := "(IILjava/util/function/BiFunction;)I" } : Jvm.MethodName) jdk_41_method_11_code (3 : Nat) (Option.some Jvm.ClassFile.FieldType.int), Jvm.Cond.code ({ cls := "java/lang/StringUTF16", name := "compress", desc := "([CII)[B" } : Jvm.MethodName) jdk_52_method_16_code (6 : Nat) (Option.some (Jvm.ClassFile.FieldType.array Jvm.ClassFile.FieldType.byte)), Jvm.Cond.code ({ cls := "java/lang/StringUTF16", name := "compress", desc := "([CI[BII)I" } : Jvm.MethodName) jdk_52_method_21_code (7 : Nat) (Option.some Jvm.ClassFile.FieldType.int), Jvm.Cond.code ({ cls := "java/lang/StringUTF16", name := "coderFromArrayLen", desc := "([BI)B" } : Jvm.MethodName) jdk_52_method_15_code (2 : Nat) (Option.some Jvm.ClassFile.FieldType.byte), Jvm.Cond.code ({ cls := "java/lang/String", name := "equals", desc := "(Ljava/lang/Object;)Z" } : Jvm.MethodName) jdk_42_method_66_code (3 : Nat) (Option.some Jvm.ClassFile.FieldType.boolean), Jvm.Cond.code ({ cls := "java/lang/StringLatin1", name := "equals", desc := "([B[B)Z" } : Jvm.MethodName) jdk_43_method_13_code (3 : Nat) (Option.some Jvm.ClassFile.FieldType.boolean), Jvm.Cond.code ({ cls := "com/example/ossify/ossify/TornTailDescribePinLaw", name := "dig", desc := "(Ljava/lang/String;IJII)Z" } : Jvm.MethodName) method_5_code (9 : Nat) (Option.some Jvm.ClassFile.FieldType.boolean), Jvm.Cond.code ({ cls := "com/example/ossify/ossify/TornTailDescribePinLaw", name := "pow10", desc := "(I)J" } : Jvm.MethodName) method_4_code (2 : Nat) (Option.some Jvm.ClassFile.FieldType.long), Jvm.Cond.code ({ cls := "java/lang/Math", name := "abs", desc := "(J)J" } : Jvm.MethodName) jdk_29_method_61_code (2 : Nat) (Option.some Jvm.ClassFile.FieldType.long), Jvm.Cond.code ({ cls := "java/lang/String", name := "valueOf", desc := "(C)Ljava/lang/String;" } : Jvm.MethodName) jdk_42_method_139_code (1 : Nat) (Option.some (Jvm.ClassFile.FieldType.object "java/lang/String")), Jvm.Cond.code ({ cls := "java/lang/StringLatin1", name := "canEncode", desc := "(C)Z" } : Jvm.MethodName) jdk_43_method_3_code (1 : Nat) (Option.some Jvm.ClassFile.FieldType.boolean), Jvm.Cond.code ({ cls := "java/lang/StringLatin1", name := "toBytes", desc := "(C)[B" } : Jvm.MethodName) jdk_43_method_46_code (1 : Nat) (Option.some (Jvm.ClassFile.FieldType.array Jvm.ClassFile.FieldType.byte)), Jvm.Cond.code ({ cls := "java/lang/String", name := "<init>", desc := "([BB)V" } : Jvm.MethodName) jdk_42_method_151_code (3 : Nat) (Option.none : Option Jvm.ClassFile.FieldType)]
set_option maxRecDepth 65536 in
theorem codes_eq : words1.filter isCode = codes1 := rfl
theorem w_codes : ∀ c ∈ words1.filter isCode, c.before args0 about1 = true := by
  rw [codes_eq]
  intro c hc
  simp only [codes1, List.mem_cons, List.not_mem_nil, or_false] at hc
  rcases hc with rfl | rfl | rfl | rfl | rfl | rfl | rfl | rfl | rfl | rfl | rfl | rfl | rfl | rfl | rfl | rfl | rfl | rfl | rfl | rfl | rfl | rfl | rfl | rfl | rfl | rfl | rfl | rfl | rfl | rfl | rfl | rfl | rfl | rfl | rfl | rfl | rfl | rfl | rfl | rfl | rfl | rfl | rfl | rfl | rfl | rfl | rfl | rfl | rfl | rfl | rfl | rfl | rfl | rfl
  · exact w_c0
  · exact w_c1
  · exact w_c2
  · exact w_c3
  · exact w_c4
  · exact w_c5
  · exact w_c6
  · exact w_c7
  · exact w_c8
  · exact w_c9
  · exact w_c10
  · exact w_c11
  · exact w_c12
  · exact w_c13
  · exact w_c14
  · exact w_c15
  · exact w_c16
  · exact w_c17
  · exact w_c18
  · exact w_c19
  · exact w_c20
  · exact w_c21
  · exact w_c22
  · exact w_c23
  · exact w_c24
  · exact w_c25
  · exact w_c26
  · exact w_c27
  · exact w_c28
  · exact w_c29
  · exact w_c30
  · exact w_c31
  · exact w_c32
  · exact w_c33
  · exact w_c34
  · exact w_c35
  · exact w_c36
  · exact w_c37
  · exact w_c38
  · exact w_c39
  · exact w_c40
  · exact w_c41
  · exact w_c42
  · exact w_c43
  · exact w_c44
  · exact w_c45
  · exact w_c46
  · exact w_c47
  · exact w_c48
  · exact w_c49
  · exact w_c50
  · exact w_c51
  · exact w_c52
  · exact w_c53
set_option maxRecDepth 65536 in
theorem w_t1 : (words1.take 24).all (fun c => isCode c || c.before args0 about1) = true := by decide +kernel
set_option maxRecDepth 65536 in
theorem w_t2 : ((words1.drop 24).take 24).all (fun c => isCode c || c.before args0 about1) = true := by decide +kernel
set_option maxRecDepth 65536 in
theorem w_t3 : (((words1.drop 24).drop 24).take 24).all (fun c => isCode c || c.before args0 about1) = true := by decide +kernel
set_option maxRecDepth 65536 in
theorem w_t4 : ((((words1.drop 24).drop 24).drop 24).take 24).all (fun c => isCode c || c.before args0 about1) = true := by decide +kernel
set_option maxRecDepth 65536 in
theorem w_t5 : (((((words1.drop 24).drop 24).drop 24).drop 24).take 24).all (fun c => isCode c || c.before args0 about1) = true := by decide +kernel
set_option maxRecDepth 65536 in
theorem w_t6 : ((((((words1.drop 24).drop 24).drop 24).drop 24).drop 24).take 24).all (fun c => isCode c || c.before args0 about1) = true := by decide +kernel
set_option maxRecDepth 65536 in
theorem w_t7 : (((((((words1.drop 24).drop 24).drop 24).drop 24).drop 24).drop 24).take 24).all (fun c => isCode c || c.before args0 about1) = true := by decide +kernel
set_option maxRecDepth 65536 in
theorem w_t8 : ((((((((words1.drop 24).drop 24).drop 24).drop 24).drop 24).drop 24).drop 24).take 24).all (fun c => isCode c || c.before args0 about1) = true := by decide +kernel
set_option maxRecDepth 65536 in
theorem w_t9 : (((((((((words1.drop 24).drop 24).drop 24).drop 24).drop 24).drop 24).drop 24).drop 24).take 24).all (fun c => isCode c || c.before args0 about1) = true := by decide +kernel
set_option maxRecDepth 65536 in
theorem w_t10 : ((((((((((words1.drop 24).drop 24).drop 24).drop 24).drop 24).drop 24).drop 24).drop 24).drop 24).take 24).all (fun c => isCode c || c.before args0 about1) = true := by decide +kernel
set_option maxRecDepth 65536 in
theorem w_t11 : (((((((((((words1.drop 24).drop 24).drop 24).drop 24).drop 24).drop 24).drop 24).drop 24).drop 24).drop 24).take 24).all (fun c => isCode c || c.before args0 about1) = true := by decide +kernel
set_option maxRecDepth 65536 in
theorem w_t12 : ((((((((((((words1.drop 24).drop 24).drop 24).drop 24).drop 24).drop 24).drop 24).drop 24).drop 24).drop 24).drop 24).take 24).all (fun c => isCode c || c.before args0 about1) = true := by decide +kernel
set_option maxRecDepth 65536 in
theorem w_t13 : ((((((((((((words1.drop 24).drop 24).drop 24).drop 24).drop 24).drop 24).drop 24).drop 24).drop 24).drop 24).drop 24).drop 24).all (fun c => isCode c || c.before args0 about1) = true := by decide +kernel
theorem w_tables : (allAtoms (Jvm.Cond.code x code maxLocals ret :: tables_1)).before args0 about1 = true := by
  rw [allAtoms_all]
  show words1.all (fun c => c.before args0 about1) = true
  refine all_split ?_ w_codes
  rw [← List.take_append_drop 24 words1, List.all_append, w_t1, ← List.take_append_drop 24 (words1.drop 24), List.all_append, w_t2, ← List.take_append_drop 24 ((words1.drop 24).drop 24), List.all_append, w_t3, ← List.take_append_drop 24 (((words1.drop 24).drop 24).drop 24), List.all_append, w_t4, ← List.take_append_drop 24 ((((words1.drop 24).drop 24).drop 24).drop 24), List.all_append, w_t5, ← List.take_append_drop 24 (((((words1.drop 24).drop 24).drop 24).drop 24).drop 24), List.all_append, w_t6, ← List.take_append_drop 24 ((((((words1.drop 24).drop 24).drop 24).drop 24).drop 24).drop 24), List.all_append, w_t7, ← List.take_append_drop 24 (((((((words1.drop 24).drop 24).drop 24).drop 24).drop 24).drop 24).drop 24), List.all_append, w_t8, ← List.take_append_drop 24 ((((((((words1.drop 24).drop 24).drop 24).drop 24).drop 24).drop 24).drop 24).drop 24), List.all_append, w_t9, ← List.take_append_drop 24 (((((((((words1.drop 24).drop 24).drop 24).drop 24).drop 24).drop 24).drop 24).drop 24).drop 24), List.all_append, w_t10, ← List.take_append_drop 24 ((((((((((words1.drop 24).drop 24).drop 24).drop 24).drop 24).drop 24).drop 24).drop 24).drop 24).drop 24), List.all_append, w_t11, ← List.take_append_drop 24 (((((((((((words1.drop 24).drop 24).drop 24).drop 24).drop 24).drop 24).drop 24).drop 24).drop 24).drop 24).drop 24), List.all_append, w_t12, w_t13]
  rfl
set_option maxRecDepth 65536 in
theorem w_rest : rest_1_c.before args0 about1 = true := by decide +kernel
set_option maxRecDepth 65536 in
theorem w_case : (Jvm.Cond.and given_1 narrow_1).before args0 about1 = true := by decide +kernel
set_option maxRecDepth 65536 in
theorem w_consts : constsHeld consts_1 about1 := Jvm.Lit.constsHeldB_iff.mp (by decide +kernel)
theorem w_applies : (headSpec (Jvm.Cond.code x code maxLocals ret :: tables_1) room_1).applies x e0.platform about1 = true :=
  (Spec.applies_iff w_frames).mpr ⟨w_running, w_runnable, w_alone, w_named, w_hears, w_ripe, w_room, w_tables⟩
theorem atStart : AtStart classFile x code maxLocals ret World_1 tables_1 room_1 Calls_1 rest_1 Pre_1 launch0 p0 e0 about1 theMethod args0 below0 :=
  ⟨lists_1, trivial, launch0.admits_env _ _ _, launch0.least_env, fairChoices_fair.cas, fairChoices_fair.clock, w_frames, w_args, w_heap, w_applies, ⟨w_consts, trivial⟩, w_rest, w_case⟩
end start1
theorem witness_1 : WitnessClaimed_1 := ⟨start1.p0, start1.e0, start1.about1, start1.theMethod, start1.args0, start1.below0, start1.atStart⟩
end Jvm.Pilot.@@N@@
