import JvmDerived
import JvmDerived.Pilot.@@N@@Statement
import JvmDerived.Pilot.@@N@@Code
set_option linter.unusedVariables false
set_option linter.unusedSimpArgs false
namespace Jvm.Pilot.@@N@@
open Jvm Jvm.ClassFile Sem Op Lib Jvm.Free Jvm.Stand Jvm.LawKit Jvm.RoadKit Bundle Jvm.Pilot.@@N@@.Jvm.D
/-! own_: what is left of a walk, read forwards -/
def own_WP (p : Program) (e : Env) (below : List Frame) (s : State) (Q : Option Value → Heap → List Loc → Prop) (k n : Nat) (a : State) : Prop :=
  ∃ s₂ o, Steps p.tables e below a s₂ ∧ s₂.status = .running ∧ Ended s₂ below o ∧ ∃ v L, o = .returned v ∧ Q v s₂.heap L ∧ FrameEnd s o s₂ L k n
def own_Con (l : Launch) (Z : State) (y : MethodName) (bytes : ByteArray) (maxL : Nat) (ret : Option FieldType) (rm : Room) (as' : Array Value) (h0 : Heap) (Q : Option Value → Heap → List Loc → Prop) : Prop :=
  ∀ ws, MetFree l y (head1 (Jvm.Cond.code y bytes maxL ret :: ws) rm) (fun a U => a = as' ∧ Z.Warmed39 U.vm ∧ U.heap = h0) (fun _ _ _ _ _ => True) (fun _ U o U' => ∃ v L, o = .returned v ∧ Q v U'.heap L ∧ FrameEnd U o U' L rm.cells rm.slots)
theorem own_Con_of {l : Launch} {Z : State} {y : MethodName} {bytes : ByteArray} {maxL : Nat} {ret : Option FieldType} {rm : Room} {as' : Array Value} {h0 : Heap} {Q : Option Value → Heap → List Loc → Prop} (hp : plainFor y = true)
    (hb : ∀ (p : Program) (e : Env) (s : State) (m : MethodId) (below : List Frame) (meth : Method) (c : Code) (s₁ : State), Stand p l e rm s m as' below meth c s₁ [] 0 0 → p.tables.exec = Jvm.exec → c.code = bytes → c.maxLocals = maxL → meth.sig.returnType = ret → meth.locks = false → meth.name = y.name → s.vm.findClass y.cls = some m.cls → Z.Warmed39 s.vm → s₁.heap = h0 →
      own_WP p e below s Q rm.cells rm.slots (s₁.setTop (entryFrame m as' maxL))) : own_Con l Z y bytes maxL ret rm as' h0 Q := by
  intro ws
  refine MetFree.of_bodySF hp hisR ?_
  intro p e s m args below meth c s₁ Bd hml0 hP hK
  obtain ⟨rfl, hZ, hh⟩ := hP
  exact hb p e s m below meth c s₁ (Stand.of_body Bd) Bd.exec Bd.bytes hml0 Bd.returns Bd.notSynchronized (name_of_methodNamed Bd.named Bd.method).1 (findClass_of_methodNamed Bd.named) hZ (by rw [← hh, Bd.state]; rfl)
theorem own_Con_mono {l : Launch} {Z : State} {y : MethodName} {bytes : ByteArray} {maxL : Nat} {ret : Option FieldType} {rm : Room} {as' : Array Value} {h0 : Heap} {Q Q' : Option Value → Heap → List Loc → Prop} (C : own_Con l Z y bytes maxL ret rm as' h0 Q) (hq : ∀ v h L, Q v h L → Q' v h L) : own_Con l Z y bytes maxL ret rm as' h0 Q' := by
  intro ws p e ha hc hk s m args below hf happ hP hK
  obtain ⟨n, o, h1, h2, h3, v, L, h4, h5, h6⟩ := C ws p e ha hc hk s m args below hf happ hP hK
  exact ⟨n, o, h1, h2, h3, v, L, h4, hq _ _ _ h5, h6⟩
theorem own_w {Z : State} {a0 : Array Value} {ts : List Jvm.Cond} {d : Jvm.Cond} (hw : ∀ d ∈ ts, d.before a0 Z = true) (i : Nat) (hi : ts[i]? = some d) : d.before a0 Z = true := hw _ (List.mem_of_getElem? hi)
section OwnWP
variable {p : Program} {l : Launch} {e : Env} {R : Room} {s : State} {m : MethodId} {args : Array Value} {below : List Frame} {meth : Method} {c : Code} {T : State} {locs : List Loc} {cells slots : Nat} {Z : State} {a0 : Array Value} {h : Heap} {Q : Option Value → Heap → List Loc → Prop} {k n : Nat} {a a' : State} {pc pc' : Nat} {ls l' : Array Slot} {rest : List Value}
theorem own_of (hs : ∀ t, Steps p.tables e below a' t → Steps p.tables e below a t) (w : own_WP p e below s Q k n a') : own_WP p e below s Q k n a := by
  obtain ⟨s₂, o, st, r⟩ := w
  exact ⟨s₂, o, hs _ st, r⟩
theorem own_mono {Q' : Option Value → Heap → List Loc → Prop} (hq : ∀ v h L, Q v h L → Q' v h L) (w : own_WP p e below s Q k n a) : own_WP p e below s Q' k n a := by
  obtain ⟨s₂, o, h1, h2, h3, v, L, h4, h5, h6⟩ := w
  exact ⟨s₂, o, h1, h2, h3, v, L, h4, hq _ _ _ h5, h6⟩
theorem own_join {α : Type} (P : α → Prop) (f : α → State) (h1 : (∀ x, P x → own_WP p e below s Q k n (f x)) → own_WP p e below s Q k n a) (h2 : ∀ x, P x → own_WP p e below s Q k n (f x)) : own_WP p e below s Q k n a := h1 h2
theorem own_done (X : Stand p l e R s m args below meth c T locs cells slots) {v : Option Value} (hlk : meth.locks = false) (hv : meth.sig.returnType = none → v = none) (hc : cells ≤ k) (hn : slots ≤ n) (hq : Q v T.heap locs)
    (st : ∀ fs, (∀ (f : JFrame) (acts : List Action), f.method = m → f.locked = none → f.entered = [] → (doReturn e (T.setTop f) acts v).1 = T.setFrames fs) → Steps p.tables e below a (T.setFrames fs)) : own_WP p e below s Q k n a := by
  obtain ⟨fs, hr, hrun, hended, hW, hsame⟩ := X.leave hv hlk
  exact ⟨_, _, st fs hr, hrun, hended, _, _, rfl, hq, ⟨_, rfl⟩, hW, hsame.mono hc hn⟩
theorem own_retI (X : Stand p l e R s m args below meth c T locs cells slots) (hx : p.tables.exec = Jvm.exec) (hlk : meth.locks = false) (hret : meth.sig.returnType = some .int) {z : Int32} (hd : decode c.code pc = .ok (.ireturn, 1)) (hc : cells ≤ k) (hn : slots ≤ n) (hq : Q (some (.int z)) T.heap locs) : own_WP p e below s Q k n (T.setTop (mkF m pc ls (.int z :: rest))) :=
  own_done X hlk (fun q => by rw [hret] at q; cases q) hc hn hq fun fs hr => retOut X hx hret rfl (Or.inl ⟨rfl, Or.inl rfl, z, rfl⟩) hd hr
theorem own_retN (X : Stand p l e R s m args below meth c T locs cells slots) (hx : p.tables.exec = Jvm.exec) (hlk : meth.locks = false) {t : FieldType} (ht : t = .boolean ∨ t = .byte ∨ t = .char ∨ t = .short) (hret : meth.sig.returnType = some t) {z : Int32} (hd : decode c.code pc = .ok (.ireturn, 1)) (hc : cells ≤ k) (hn : slots ≤ n) (hq : Q (some (.int (nar t z))) T.heap locs) : own_WP p e below s Q k n (T.setTop (mkF m pc ls (.int z :: rest))) :=
  own_done X hlk (fun q => by rw [hret] at q; cases q) hc hn hq fun fs hr => retN X hx hret ht hd hr
theorem own_retJ (X : Stand p l e R s m args below meth c T locs cells slots) (hx : p.tables.exec = Jvm.exec) (hlk : meth.locks = false) (hret : meth.sig.returnType = some .long) {z : Int64} (hd : decode c.code pc = .ok (.lreturn, 1)) (hc : cells ≤ k) (hn : slots ≤ n) (hq : Q (some (.long z)) T.heap locs) : own_WP p e below s Q k n (T.setTop (mkF m pc ls (.long z :: rest))) :=
  own_done X hlk (fun q => by rw [hret] at q; cases q) hc hn hq fun fs hr => retOut X hx hret rfl (Or.inr (Or.inl ⟨rfl, rfl, z, rfl⟩)) hd hr
theorem own_retA (X : Stand p l e R s m args below meth c T locs cells slots) (hx : p.tables.exec = Jvm.exec) (hlk : meth.locks = false) {t : FieldType} (ht : t.isReference = true) (hret : meth.sig.returnType = some t) {w : Value} (hw : w.isRef = true) (hnw : narrow t w = w) (hd : decode c.code pc = .ok (.areturn, 1)) (hc : cells ≤ k) (hn : slots ≤ n) (hq : Q (some w) T.heap locs) : own_WP p e below s Q k n (T.setTop (mkF m pc ls (w :: rest))) :=
  own_done X hlk (fun q => by rw [hret] at q; cases q) hc hn hq fun fs hr => retOut X hx hret hnw (Or.inr (Or.inr (Or.inr (Or.inr ⟨rfl, ht, hw⟩)))) hd hr
theorem own_ret0 (X : Stand p l e R s m args below meth c T locs cells slots) (hx : p.tables.exec = Jvm.exec) (hlk : meth.locks = false) (hret : meth.sig.returnType = none) (hd : decode c.code pc = .ok (.return_, 1)) (hc : cells ≤ k) (hn : slots ≤ n) (hq : Q none T.heap locs) : own_WP p e below s Q k n (T.setTop (mkF m pc ls [])) :=
  own_done X hlk (fun _ => rfl) hc hn hq fun fs hr => X.returnOut hx hret hd hr
theorem own_iload (X : Stand p l e R s m args below meth c T locs cells slots) (hx : p.tables.exec = Jvm.exec) {j : Nat} {v : Int32} (hd : decode c.code pc = .ok (.iload j, 2)) (hl : ls[j]? = some (.val (.int v))) (hpc : pc + 2 = pc') (w : own_WP p e below s Q k n (T.setTop (mkF m pc' ls (.int v :: rest)))) : own_WP p e below s Q k n (T.setTop (mkF m pc ls rest)) := by
  subst hpc
  exact own_of (fun t q => XS.iload X.here hx rfl hd hl q) w
theorem own_iloadN (X : Stand p l e R s m args below meth c T locs cells slots) (hx : p.tables.exec = Jvm.exec) {j : Fin 4} {v : Int32} (hd : decode c.code pc = .ok (.iload_n j, 1)) (hl : ls[j.val]? = some (.val (.int v))) (hpc : pc + 1 = pc') (w : own_WP p e below s Q k n (T.setTop (mkF m pc' ls (.int v :: rest)))) : own_WP p e below s Q k n (T.setTop (mkF m pc ls rest)) := by
  subst hpc
  exact own_of (fun t q => XS.iloadN X.here hx rfl hd hl q) w
theorem own_lload (X : Stand p l e R s m args below meth c T locs cells slots) (hx : p.tables.exec = Jvm.exec) {j : Nat} {v : Int64} (hd : decode c.code pc = .ok (.lload j, 2)) (hl : ls[j]? = some (.val (.long v))) (hpc : pc + 2 = pc') (w : own_WP p e below s Q k n (T.setTop (mkF m pc' ls (.long v :: rest)))) : own_WP p e below s Q k n (T.setTop (mkF m pc ls rest)) := by
  subst hpc
  exact own_of (fun t q => XS.lload X.here hx rfl hd hl q) w
theorem own_lloadN (X : Stand p l e R s m args below meth c T locs cells slots) (hx : p.tables.exec = Jvm.exec) {j : Fin 4} {v : Int64} (hd : decode c.code pc = .ok (.lload_n j, 1)) (hl : ls[j.val]? = some (.val (.long v))) (hpc : pc + 1 = pc') (w : own_WP p e below s Q k n (T.setTop (mkF m pc' ls (.long v :: rest)))) : own_WP p e below s Q k n (T.setTop (mkF m pc ls rest)) := by
  subst hpc
  exact own_of (fun t q => XS.lloadN X.here hx rfl hd hl q) w
theorem own_aload (X : Stand p l e R s m args below meth c T locs cells slots) (hx : p.tables.exec = Jvm.exec) {j : Nat} {v : Value} (hd : decode c.code pc = .ok (.aload j, 2)) (hl : ls[j]? = some (.val v)) (hv : v.isRef = true) (hpc : pc + 2 = pc') (w : own_WP p e below s Q k n (T.setTop (mkF m pc' ls (v :: rest)))) : own_WP p e below s Q k n (T.setTop (mkF m pc ls rest)) := by
  subst hpc
  exact own_of (fun t q => XS.aload X.here hx rfl hd hl hv q) w
theorem own_aloadN (X : Stand p l e R s m args below meth c T locs cells slots) (hx : p.tables.exec = Jvm.exec) {j : Fin 4} {v : Value} (hd : decode c.code pc = .ok (.aload_n j, 1)) (hl : ls[j.val]? = some (.val v)) (hv : v.isRef = true) (hpc : pc + 1 = pc') (w : own_WP p e below s Q k n (T.setTop (mkF m pc' ls (v :: rest)))) : own_WP p e below s Q k n (T.setTop (mkF m pc ls rest)) := by
  subst hpc
  exact own_of (fun t q => XS.aloadN X.here hx rfl hd hl hv q) w
theorem own_istore (X : Stand p l e R s m args below meth c T locs cells slots) (hx : p.tables.exec = Jvm.exec) {j : Nat} {v z : Int32} (hd : decode c.code pc = .ok (.istore j, 2)) (hz : z = v) (hl : storeLocals ls j (.int z) = some l') (hpc : pc + 2 = pc') (w : own_WP p e below s Q k n (T.setTop (mkF m pc' l' rest))) : own_WP p e below s Q k n (T.setTop (mkF m pc ls (.int v :: rest))) := by
  subst hpc
  exact own_of (fun t q => XS.istore X.here hx rfl hd rfl (hz ▸ hl) q) w
theorem own_istoreN (X : Stand p l e R s m args below meth c T locs cells slots) (hx : p.tables.exec = Jvm.exec) {j : Fin 4} {v z : Int32} (hd : decode c.code pc = .ok (.istore_n j, 1)) (hz : z = v) (hl : storeLocals ls j.val (.int z) = some l') (hpc : pc + 1 = pc') (w : own_WP p e below s Q k n (T.setTop (mkF m pc' l' rest))) : own_WP p e below s Q k n (T.setTop (mkF m pc ls (.int v :: rest))) := by
  subst hpc
  exact own_of (fun t q => XS.istoreN X.here hx rfl hd rfl (hz ▸ hl) q) w
theorem own_lstore (X : Stand p l e R s m args below meth c T locs cells slots) (hx : p.tables.exec = Jvm.exec) {j : Nat} {v z : Int64} (hd : decode c.code pc = .ok (.lstore j, 2)) (hz : z = v) (hl : storeLocals ls j (.long z) = some l') (hpc : pc + 2 = pc') (w : own_WP p e below s Q k n (T.setTop (mkF m pc' l' rest))) : own_WP p e below s Q k n (T.setTop (mkF m pc ls (.long v :: rest))) := by
  subst hpc
  exact own_of (fun t q => XS.lstore X.here hx rfl hd rfl (hz ▸ hl) q) w
theorem own_lstoreN (X : Stand p l e R s m args below meth c T locs cells slots) (hx : p.tables.exec = Jvm.exec) {j : Fin 4} {v z : Int64} (hd : decode c.code pc = .ok (.lstore_n j, 1)) (hz : z = v) (hl : storeLocals ls j.val (.long z) = some l') (hpc : pc + 1 = pc') (w : own_WP p e below s Q k n (T.setTop (mkF m pc' l' rest))) : own_WP p e below s Q k n (T.setTop (mkF m pc ls (.long v :: rest))) := by
  subst hpc
  exact own_of (fun t q => XS.lstoreN X.here hx rfl hd rfl (hz ▸ hl) q) w
theorem own_astore (X : Stand p l e R s m args below meth c T locs cells slots) (hx : p.tables.exec = Jvm.exec) {j : Nat} {v : Value} (hd : decode c.code pc = .ok (.astore j, 2)) (hv : v.isRef = true) (hl : storeLocals ls j v = some l') (hpc : pc + 2 = pc') (w : own_WP p e below s Q k n (T.setTop (mkF m pc' l' rest))) : own_WP p e below s Q k n (T.setTop (mkF m pc ls (v :: rest))) := by
  subst hpc
  exact own_of (fun t q => XS.astore X.here hx rfl hd rfl hv hl q) w
theorem own_astoreN (X : Stand p l e R s m args below meth c T locs cells slots) (hx : p.tables.exec = Jvm.exec) {j : Fin 4} {v : Value} (hd : decode c.code pc = .ok (.astore_n j, 1)) (hv : v.isRef = true) (hl : storeLocals ls j.val v = some l') (hpc : pc + 1 = pc') (w : own_WP p e below s Q k n (T.setTop (mkF m pc' l' rest))) : own_WP p e below s Q k n (T.setTop (mkF m pc ls (v :: rest))) := by
  subst hpc
  exact own_of (fun t q => XS.astoreN X.here hx rfl hd rfl hv hl q) w
theorem own_iinc (X : Stand p l e R s m args below meth c T locs cells slots) (hx : p.tables.exec = Jvm.exec) {j : Nat} {i : Int} {v z : Int32} (hd : decode c.code pc = .ok (.iinc j i, 3)) (hl0 : ls[j]? = some (.val (.int v))) (hz : z = v + Int32.ofInt i) (hl : storeLocals ls j (.int z) = some l') (hpc : pc + 3 = pc') (w : own_WP p e below s Q k n (T.setTop (mkF m pc' l' rest))) : own_WP p e below s Q k n (T.setTop (mkF m pc ls rest)) := by
  subst hpc
  exact own_of (fun t q => XS.iinc X.here hx rfl hd hl0 (hz ▸ hl) q) w
theorem own_iconst (X : Stand p l e R s m args below meth c T locs cells slots) (hx : p.tables.exec = Jvm.exec) {i : Int} (v : Int32) (hd : decode c.code pc = .ok (.iconst i, 1)) (hv : v = Int32.ofInt i) (hpc : pc + 1 = pc') (w : own_WP p e below s Q k n (T.setTop (mkF m pc' ls (.int v :: rest)))) : own_WP p e below s Q k n (T.setTop (mkF m pc ls rest)) := by
  subst hpc
  exact own_of (fun t q => XS.iconst X.here hx rfl hd (hv ▸ q)) w
theorem own_bipush (X : Stand p l e R s m args below meth c T locs cells slots) (hx : p.tables.exec = Jvm.exec) {i : Int} (v : Int32) (hd : decode c.code pc = .ok (.bipush i, 2)) (hv : v = (Int8.ofInt i).toInt32) (hpc : pc + 2 = pc') (w : own_WP p e below s Q k n (T.setTop (mkF m pc' ls (.int v :: rest)))) : own_WP p e below s Q k n (T.setTop (mkF m pc ls rest)) := by
  subst hpc
  exact own_of (fun t q => XS.bipush X.here hx rfl hd (hv ▸ q)) w
theorem own_sipush (X : Stand p l e R s m args below meth c T locs cells slots) (hx : p.tables.exec = Jvm.exec) {i : Int} (v : Int32) (hd : decode c.code pc = .ok (.sipush i, 3)) (hv : v = (Int16.ofInt i).toInt32) (hpc : pc + 3 = pc') (w : own_WP p e below s Q k n (T.setTop (mkF m pc' ls (.int v :: rest)))) : own_WP p e below s Q k n (T.setTop (mkF m pc ls rest)) := by
  subst hpc
  exact own_of (fun t q => XS.sipush X.here hx rfl hd (hv ▸ q)) w
theorem own_anull (X : Stand p l e R s m args below meth c T locs cells slots) (hx : p.tables.exec = Jvm.exec)  (hd : decode c.code pc = .ok (.aconst_null, 1)) (hpc : pc + 1 = pc') (w : own_WP p e below s Q k n (T.setTop (mkF m pc' ls (.null :: rest)))) : own_WP p e below s Q k n (T.setTop (mkF m pc ls rest)) := by
  subst hpc
  exact own_of (fun t q => XS.aconstNull X.here hx rfl hd q) w
theorem own_lconst0 (X : Stand p l e R s m args below meth c T locs cells slots) (hx : p.tables.exec = Jvm.exec)  (hd : decode c.code pc = .ok (.lconst 0, 1)) (hpc : pc + 1 = pc') (w : own_WP p e below s Q k n (T.setTop (mkF m pc' ls (.long 0 :: rest)))) : own_WP p e below s Q k n (T.setTop (mkF m pc ls rest)) := by
  subst hpc
  exact own_of (fun t q => XS.lconst X.here hx rfl hd q) w
theorem own_lconst1 (X : Stand p l e R s m args below meth c T locs cells slots) (hx : p.tables.exec = Jvm.exec)  (hd : decode c.code pc = .ok (.lconst 1, 1)) (hpc : pc + 1 = pc') (w : own_WP p e below s Q k n (T.setTop (mkF m pc' ls (.long 1 :: rest)))) : own_WP p e below s Q k n (T.setTop (mkF m pc ls rest)) := by
  subst hpc
  exact own_of (fun t q => XS.lconst X.here hx rfl hd q) w
theorem own_ldcInt (X : Stand p l e R s m args below meth c T locs cells slots) (hx : p.tables.exec = Jvm.exec) (hZ : Z.Warmed39 s.vm) {own : String} {idx : Nat} {v : Int32} (hown : s.vm.findClass own = some m.cls) (w1 : (Jvm.Cond.constant own idx v).before a0 Z = true) (hd : decode c.code pc = .ok (.ldc idx, 2)) (hpc : pc + 2 = pc') (w : own_WP p e below s Q k n (T.setTop (mkF m pc' ls (.int v :: rest)))) : own_WP p e below s Q k n (T.setTop (mkF m pc ls rest)) := by
  subst hpc
  exact own_of (fun t q => X.ldcInt hx hown (mvT hZ w1) (g := mkF m pc ls rest) rfl hd _ q) w
theorem own_ldcwInt (X : Stand p l e R s m args below meth c T locs cells slots) (hx : p.tables.exec = Jvm.exec) (hZ : Z.Warmed39 s.vm) {own : String} {idx : Nat} {v : Int32} (hown : s.vm.findClass own = some m.cls) (w1 : (Jvm.Cond.constant own idx v).before a0 Z = true) (hd : decode c.code pc = .ok (.ldc_w idx, 3)) (hpc : pc + 3 = pc') (w : own_WP p e below s Q k n (T.setTop (mkF m pc' ls (.int v :: rest)))) : own_WP p e below s Q k n (T.setTop (mkF m pc ls rest)) := by
  subst hpc
  exact own_of (fun t q => X.ldcwInt hx hown (mvT hZ w1) (g := mkF m pc ls rest) rfl hd _ q) w
theorem own_ldc2Long (X : Stand p l e R s m args below meth c T locs cells slots) (hx : p.tables.exec = Jvm.exec) (hZ : Z.Warmed39 s.vm) {own : String} {idx : Nat} {v : Int64} (hown : s.vm.findClass own = some m.cls) (w1 : (Jvm.Cond.constantLong own idx v).before a0 Z = true) (hd : decode c.code pc = .ok (.ldc2_w idx, 3)) (hpc : pc + 3 = pc') (w : own_WP p e below s Q k n (T.setTop (mkF m pc' ls (.long v :: rest)))) : own_WP p e below s Q k n (T.setTop (mkF m pc ls rest)) := by
  subst hpc
  exact own_of (fun t q => X.ldc2Long hx hown (mvT hZ w1) (g := mkF m pc ls rest) rfl hd _ q) w
theorem own_iadd (X : Stand p l e R s m args below meth c T locs cells slots) (hx : p.tables.exec = Jvm.exec) {x y : Int32} (hd : decode c.code pc = .ok (.iadd, 1)) (hpc : pc + 1 = pc') (w : own_WP p e below s Q k n (T.setTop (mkF m pc' ls (.int (x + y) :: rest)))) : own_WP p e below s Q k n (T.setTop (mkF m pc ls (.int y :: .int x :: rest))) := by
  subst hpc
  exact own_of (fun t q => XS.iadd X.here hx rfl hd rfl q) w
theorem own_ladd (X : Stand p l e R s m args below meth c T locs cells slots) (hx : p.tables.exec = Jvm.exec) {x y : Int64} (hd : decode c.code pc = .ok (.ladd, 1)) (hpc : pc + 1 = pc') (w : own_WP p e below s Q k n (T.setTop (mkF m pc' ls (.long (x + y) :: rest)))) : own_WP p e below s Q k n (T.setTop (mkF m pc ls (.long y :: .long x :: rest))) := by
  subst hpc
  exact own_of (fun t q => XS.ladd X.here hx rfl hd rfl q) w
theorem own_isub (X : Stand p l e R s m args below meth c T locs cells slots) (hx : p.tables.exec = Jvm.exec) {x y : Int32} (hd : decode c.code pc = .ok (.isub, 1)) (hpc : pc + 1 = pc') (w : own_WP p e below s Q k n (T.setTop (mkF m pc' ls (.int (x - y) :: rest)))) : own_WP p e below s Q k n (T.setTop (mkF m pc ls (.int y :: .int x :: rest))) := by
  subst hpc
  exact own_of (fun t q => XS.isub X.here hx rfl hd rfl q) w
theorem own_lsub (X : Stand p l e R s m args below meth c T locs cells slots) (hx : p.tables.exec = Jvm.exec) {x y : Int64} (hd : decode c.code pc = .ok (.lsub, 1)) (hpc : pc + 1 = pc') (w : own_WP p e below s Q k n (T.setTop (mkF m pc' ls (.long (x - y) :: rest)))) : own_WP p e below s Q k n (T.setTop (mkF m pc ls (.long y :: .long x :: rest))) := by
  subst hpc
  exact own_of (fun t q => XS.lsub X.here hx rfl hd rfl q) w
theorem own_imul (X : Stand p l e R s m args below meth c T locs cells slots) (hx : p.tables.exec = Jvm.exec) {x y : Int32} (hd : decode c.code pc = .ok (.imul, 1)) (hpc : pc + 1 = pc') (w : own_WP p e below s Q k n (T.setTop (mkF m pc' ls (.int (x * y) :: rest)))) : own_WP p e below s Q k n (T.setTop (mkF m pc ls (.int y :: .int x :: rest))) := by
  subst hpc
  exact own_of (fun t q => XS.imul X.here hx rfl hd rfl q) w
theorem own_lmul (X : Stand p l e R s m args below meth c T locs cells slots) (hx : p.tables.exec = Jvm.exec) {x y : Int64} (hd : decode c.code pc = .ok (.lmul, 1)) (hpc : pc + 1 = pc') (w : own_WP p e below s Q k n (T.setTop (mkF m pc' ls (.long (x * y) :: rest)))) : own_WP p e below s Q k n (T.setTop (mkF m pc ls (.long y :: .long x :: rest))) := by
  subst hpc
  exact own_of (fun t q => XS.lmul X.here hx rfl hd rfl q) w
theorem own_iand (X : Stand p l e R s m args below meth c T locs cells slots) (hx : p.tables.exec = Jvm.exec) {x y : Int32} (hd : decode c.code pc = .ok (.iand, 1)) (hpc : pc + 1 = pc') (w : own_WP p e below s Q k n (T.setTop (mkF m pc' ls (.int (x &&& y) :: rest)))) : own_WP p e below s Q k n (T.setTop (mkF m pc ls (.int y :: .int x :: rest))) := by
  subst hpc
  exact own_of (fun t q => XS.iand X.here hx rfl hd rfl q) w
theorem own_land (X : Stand p l e R s m args below meth c T locs cells slots) (hx : p.tables.exec = Jvm.exec) {x y : Int64} (hd : decode c.code pc = .ok (.land, 1)) (hpc : pc + 1 = pc') (w : own_WP p e below s Q k n (T.setTop (mkF m pc' ls (.long (x &&& y) :: rest)))) : own_WP p e below s Q k n (T.setTop (mkF m pc ls (.long y :: .long x :: rest))) := by
  subst hpc
  exact own_of (fun t q => XS.land X.here hx rfl hd rfl q) w
theorem own_ior (X : Stand p l e R s m args below meth c T locs cells slots) (hx : p.tables.exec = Jvm.exec) {x y : Int32} (hd : decode c.code pc = .ok (.ior, 1)) (hpc : pc + 1 = pc') (w : own_WP p e below s Q k n (T.setTop (mkF m pc' ls (.int (x ||| y) :: rest)))) : own_WP p e below s Q k n (T.setTop (mkF m pc ls (.int y :: .int x :: rest))) := by
  subst hpc
  exact own_of (fun t q => XS.ior X.here hx rfl hd rfl q) w
theorem own_lor (X : Stand p l e R s m args below meth c T locs cells slots) (hx : p.tables.exec = Jvm.exec) {x y : Int64} (hd : decode c.code pc = .ok (.lor, 1)) (hpc : pc + 1 = pc') (w : own_WP p e below s Q k n (T.setTop (mkF m pc' ls (.long (x ||| y) :: rest)))) : own_WP p e below s Q k n (T.setTop (mkF m pc ls (.long y :: .long x :: rest))) := by
  subst hpc
  exact own_of (fun t q => XS.lor X.here hx rfl hd rfl q) w
theorem own_ixor (X : Stand p l e R s m args below meth c T locs cells slots) (hx : p.tables.exec = Jvm.exec) {x y : Int32} (hd : decode c.code pc = .ok (.ixor, 1)) (hpc : pc + 1 = pc') (w : own_WP p e below s Q k n (T.setTop (mkF m pc' ls (.int (x ^^^ y) :: rest)))) : own_WP p e below s Q k n (T.setTop (mkF m pc ls (.int y :: .int x :: rest))) := by
  subst hpc
  exact own_of (fun t q => XS.ixor X.here hx rfl hd rfl q) w
theorem own_lxor (X : Stand p l e R s m args below meth c T locs cells slots) (hx : p.tables.exec = Jvm.exec) {x y : Int64} (hd : decode c.code pc = .ok (.lxor, 1)) (hpc : pc + 1 = pc') (w : own_WP p e below s Q k n (T.setTop (mkF m pc' ls (.long (x ^^^ y) :: rest)))) : own_WP p e below s Q k n (T.setTop (mkF m pc ls (.long y :: .long x :: rest))) := by
  subst hpc
  exact own_of (fun t q => XS.lxor X.here hx rfl hd rfl q) w
theorem own_ishl (X : Stand p l e R s m args below meth c T locs cells slots) (hx : p.tables.exec = Jvm.exec) {x y : Int32} (hd : decode c.code pc = .ok (.ishl, 1)) (hpc : pc + 1 = pc') (w : own_WP p e below s Q k n (T.setTop (mkF m pc' ls (.int (x <<< (y &&& 31)) :: rest)))) : own_WP p e below s Q k n (T.setTop (mkF m pc ls (.int y :: .int x :: rest))) := by
  subst hpc
  exact own_of (fun t q => XS.ishl X.here hx rfl hd rfl q) w
theorem own_ishr (X : Stand p l e R s m args below meth c T locs cells slots) (hx : p.tables.exec = Jvm.exec) {x y : Int32} (hd : decode c.code pc = .ok (.ishr, 1)) (hpc : pc + 1 = pc') (w : own_WP p e below s Q k n (T.setTop (mkF m pc' ls (.int (x >>> (y &&& 31)) :: rest)))) : own_WP p e below s Q k n (T.setTop (mkF m pc ls (.int y :: .int x :: rest))) := by
  subst hpc
  exact own_of (fun t q => XS.ishr X.here hx rfl hd rfl q) w
theorem own_iushr (X : Stand p l e R s m args below meth c T locs cells slots) (hx : p.tables.exec = Jvm.exec) {x y : Int32} (hd : decode c.code pc = .ok (.iushr, 1)) (hpc : pc + 1 = pc') (w : own_WP p e below s Q k n (T.setTop (mkF m pc' ls (.int ((x.toUInt32 >>> (y &&& 31).toUInt32).toInt32) :: rest)))) : own_WP p e below s Q k n (T.setTop (mkF m pc ls (.int y :: .int x :: rest))) := by
  subst hpc
  exact own_of (fun t q => XS.iushr X.here hx rfl hd rfl q) w
theorem own_lshl (X : Stand p l e R s m args below meth c T locs cells slots) (hx : p.tables.exec = Jvm.exec) {x : Int64} {y : Int32} (hd : decode c.code pc = .ok (.lshl, 1)) (hpc : pc + 1 = pc') (w : own_WP p e below s Q k n (T.setTop (mkF m pc' ls (.long (x <<< (y &&& 0x3f).toInt64) :: rest)))) : own_WP p e below s Q k n (T.setTop (mkF m pc ls (.int y :: .long x :: rest))) := by
  subst hpc
  exact own_of (fun t q => XS.lshl X.here hx rfl hd rfl q) w
theorem own_lshr (X : Stand p l e R s m args below meth c T locs cells slots) (hx : p.tables.exec = Jvm.exec) {x : Int64} {y : Int32} (hd : decode c.code pc = .ok (.lshr, 1)) (hpc : pc + 1 = pc') (w : own_WP p e below s Q k n (T.setTop (mkF m pc' ls (.long (x >>> (y &&& 0x3f).toInt64) :: rest)))) : own_WP p e below s Q k n (T.setTop (mkF m pc ls (.int y :: .long x :: rest))) := by
  subst hpc
  exact own_of (fun t q => XS.lshr X.here hx rfl hd rfl q) w
theorem own_lushr (X : Stand p l e R s m args below meth c T locs cells slots) (hx : p.tables.exec = Jvm.exec) {x : Int64} {y : Int32} (hd : decode c.code pc = .ok (.lushr, 1)) (hpc : pc + 1 = pc') (w : own_WP p e below s Q k n (T.setTop (mkF m pc' ls (.long ((x.toUInt64 >>> (y &&& 0x3f).toInt64.toUInt64).toInt64) :: rest)))) : own_WP p e below s Q k n (T.setTop (mkF m pc ls (.int y :: .long x :: rest))) := by
  subst hpc
  exact own_of (fun t q => XS.lushr X.here hx rfl hd rfl q) w
theorem own_idiv (X : Stand p l e R s m args below meth c T locs cells slots) (hx : p.tables.exec = Jvm.exec) {x y : Int32} (hd : decode c.code pc = .ok (.idiv, 1)) (hy : y ≠ 0) (hpc : pc + 1 = pc') (w : own_WP p e below s Q k n (T.setTop (mkF m pc' ls (.int (x / y) :: rest)))) : own_WP p e below s Q k n (T.setTop (mkF m pc ls (.int y :: .int x :: rest))) := by
  subst hpc
  exact own_of (fun t q => XS.idiv X.here hx rfl hd rfl hy q) w
theorem own_irem (X : Stand p l e R s m args below meth c T locs cells slots) (hx : p.tables.exec = Jvm.exec) {x y : Int32} (hd : decode c.code pc = .ok (.irem, 1)) (hy : y ≠ 0) (hpc : pc + 1 = pc') (w : own_WP p e below s Q k n (T.setTop (mkF m pc' ls (.int (x % y) :: rest)))) : own_WP p e below s Q k n (T.setTop (mkF m pc ls (.int y :: .int x :: rest))) := by
  subst hpc
  exact own_of (fun t q => iremM X hx rfl hd rfl hy q) w
theorem own_ldiv (X : Stand p l e R s m args below meth c T locs cells slots) (hx : p.tables.exec = Jvm.exec) {x y : Int64} (hd : decode c.code pc = .ok (.ldiv, 1)) (hy : y ≠ 0) (hpc : pc + 1 = pc') (w : own_WP p e below s Q k n (T.setTop (mkF m pc' ls (.long (x / y) :: rest)))) : own_WP p e below s Q k n (T.setTop (mkF m pc ls (.long y :: .long x :: rest))) := by
  subst hpc
  exact own_of (fun t q => XS.ldiv X.here hx rfl hd rfl hy q) w
theorem own_lrem (X : Stand p l e R s m args below meth c T locs cells slots) (hx : p.tables.exec = Jvm.exec) {x y : Int64} (hd : decode c.code pc = .ok (.lrem, 1)) (hy : y ≠ 0) (hpc : pc + 1 = pc') (w : own_WP p e below s Q k n (T.setTop (mkF m pc' ls (.long (x % y) :: rest)))) : own_WP p e below s Q k n (T.setTop (mkF m pc ls (.long y :: .long x :: rest))) := by
  subst hpc
  exact own_of (fun t q => XS.lrem X.here hx rfl hd rfl hy ((lrem_mod x y).symm ▸ q)) w
theorem own_ineg (X : Stand p l e R s m args below meth c T locs cells slots) (hx : p.tables.exec = Jvm.exec) {x : Int32} (hd : decode c.code pc = .ok (.ineg, 1)) (hpc : pc + 1 = pc') (w : own_WP p e below s Q k n (T.setTop (mkF m pc' ls (.int (-x) :: rest)))) : own_WP p e below s Q k n (T.setTop (mkF m pc ls (.int x :: rest))) := by
  subst hpc
  exact own_of (fun t q => XS.ineg X.here hx rfl hd rfl q) w
theorem own_lneg (X : Stand p l e R s m args below meth c T locs cells slots) (hx : p.tables.exec = Jvm.exec) {x : Int64} (hd : decode c.code pc = .ok (.lneg, 1)) (hpc : pc + 1 = pc') (w : own_WP p e below s Q k n (T.setTop (mkF m pc' ls (.long (-x) :: rest)))) : own_WP p e below s Q k n (T.setTop (mkF m pc ls (.long x :: rest))) := by
  subst hpc
  exact own_of (fun t q => XS.lneg X.here hx rfl hd rfl q) w
theorem own_i2l (X : Stand p l e R s m args below meth c T locs cells slots) (hx : p.tables.exec = Jvm.exec) {x : Int32} (hd : decode c.code pc = .ok (.i2l, 1)) (hpc : pc + 1 = pc') (w : own_WP p e below s Q k n (T.setTop (mkF m pc' ls (.long (x.toInt64) :: rest)))) : own_WP p e below s Q k n (T.setTop (mkF m pc ls (.int x :: rest))) := by
  subst hpc
  exact own_of (fun t q => XS.i2l X.here hx rfl hd rfl q) w
theorem own_l2i (X : Stand p l e R s m args below meth c T locs cells slots) (hx : p.tables.exec = Jvm.exec) {x : Int64} (hd : decode c.code pc = .ok (.l2i, 1)) (hpc : pc + 1 = pc') (w : own_WP p e below s Q k n (T.setTop (mkF m pc' ls (.int (x.toInt32) :: rest)))) : own_WP p e below s Q k n (T.setTop (mkF m pc ls (.long x :: rest))) := by
  subst hpc
  exact own_of (fun t q => XS.l2i X.here hx rfl hd rfl q) w
theorem own_i2b (X : Stand p l e R s m args below meth c T locs cells slots) (hx : p.tables.exec = Jvm.exec) {x : Int32} (hd : decode c.code pc = .ok (.i2b, 1)) (hpc : pc + 1 = pc') (w : own_WP p e below s Q k n (T.setTop (mkF m pc' ls (.int (x.toInt8.toInt32) :: rest)))) : own_WP p e below s Q k n (T.setTop (mkF m pc ls (.int x :: rest))) := by
  subst hpc
  exact own_of (fun t q => XS.i2b X.here hx rfl hd rfl q) w
theorem own_i2s (X : Stand p l e R s m args below meth c T locs cells slots) (hx : p.tables.exec = Jvm.exec) {x : Int32} (hd : decode c.code pc = .ok (.i2s, 1)) (hpc : pc + 1 = pc') (w : own_WP p e below s Q k n (T.setTop (mkF m pc' ls (.int (x.toInt16.toInt32) :: rest)))) : own_WP p e below s Q k n (T.setTop (mkF m pc ls (.int x :: rest))) := by
  subst hpc
  exact own_of (fun t q => XS.i2s X.here hx rfl hd rfl q) w
theorem own_i2c (X : Stand p l e R s m args below meth c T locs cells slots) (hx : p.tables.exec = Jvm.exec) {x : Int32} (hd : decode c.code pc = .ok (.i2c, 1)) (hpc : pc + 1 = pc') (w : own_WP p e below s Q k n (T.setTop (mkF m pc' ls (.int (x.toUInt32.toUInt16.toUInt32.toInt32) :: rest)))) : own_WP p e below s Q k n (T.setTop (mkF m pc ls (.int x :: rest))) := by
  subst hpc
  exact own_of (fun t q => XS.i2c X.here hx rfl hd rfl q) w
theorem own_lcmp (X : Stand p l e R s m args below meth c T locs cells slots) (hx : p.tables.exec = Jvm.exec) {x y : Int64} (hd : decode c.code pc = .ok (.lcmp, 1)) (hpc : pc + 1 = pc') (w : own_WP p e below s Q k n (T.setTop (mkF m pc' ls (.int (lcmpW x y) :: rest)))) : own_WP p e below s Q k n (T.setTop (mkF m pc ls (.long y :: .long x :: rest))) := by
  subst hpc
  exact own_of (fun t q => XS.lcmp X.here hx rfl hd rfl q) w
theorem own_dup (X : Stand p l e R s m args below meth c T locs cells slots) (hx : p.tables.exec = Jvm.exec) {v : Value} (hd : decode c.code pc = .ok (.dup, 1)) (hv : v.category = 1) (hpc : pc + 1 = pc') (w : own_WP p e below s Q k n (T.setTop (mkF m pc' ls (v :: v :: rest)))) : own_WP p e below s Q k n (T.setTop (mkF m pc ls (v :: rest))) := by
  subst hpc
  exact own_of (fun t q => XS.dup X.here hx rfl hd rfl hv q) w
theorem own_pop (X : Stand p l e R s m args below meth c T locs cells slots) (hx : p.tables.exec = Jvm.exec) {v : Value} (hd : decode c.code pc = .ok (.pop, 1)) (hv : v.category = 1) (hpc : pc + 1 = pc') (w : own_WP p e below s Q k n (T.setTop (mkF m pc' ls rest))) : own_WP p e below s Q k n (T.setTop (mkF m pc ls (v :: rest))) := by
  subst hpc
  exact own_of (fun t q => XS.pop X.here hx rfl hd rfl hv q) w
theorem own_dup2 (X : Stand p l e R s m args below meth c T locs cells slots) (hx : p.tables.exec = Jvm.exec) {v1 v2 : Value} (hd : decode c.code pc = .ok (.dup2, 1)) (h1 : v1.category = 1) (h2 : v2.category = 1) (hpc : pc + 1 = pc') (w : own_WP p e below s Q k n (T.setTop (mkF m pc' ls (v1 :: v2 :: v1 :: v2 :: rest)))) : own_WP p e below s Q k n (T.setTop (mkF m pc ls (v1 :: v2 :: rest))) := by
  subst hpc
  refine own_of (fun t q => ?_) w
  jvm_step X.here [X.here.top, hx, hd, h1, h2]
  exact q
theorem own_goto (X : Stand p l e R s m args below meth c T locs cells slots) (hx : p.tables.exec = Jvm.exec) {o : Int} (hd : decode c.code pc = .ok (.goto o, 3)) (ho : 0 ≤ (pc : Int) + o) (hpc : ((pc : Int) + o).toNat = pc') (w : own_WP p e below s Q k n (T.setTop (mkF m pc' ls rest))) : own_WP p e below s Q k n (T.setTop (mkF m pc ls rest)) :=
  own_of (fun t q => XS.goto X.here hx rfl (pc0 := pc) (pc' := pc') rfl hd ho hpc q) w
theorem own_icmp_lt (X : Stand p l e R s m args below meth c T locs cells slots) (hx : p.tables.exec = Jvm.exec) {x y : Int32} {o : Int} {pf pt : Nat} (hd : decode c.code pc = .ok (.if_icmp .lt o, 3)) (hpf : pc + 3 = pf) (ho : 0 ≤ (pc : Int) + o) (hpt : ((pc : Int) + o).toNat = pt)
    (yes : x < y → own_WP p e below s Q k n (T.setTop (mkF m pt ls rest))) (no : ¬ x < y → own_WP p e below s Q k n (T.setTop (mkF m pf ls rest))) : own_WP p e below s Q k n (T.setTop (mkF m pc ls (.int y :: .int x :: rest))) := by
  subst hpf
  by_cases hq : x < y
  · exact own_of (fun t q => XS.icmpYes X.here hx rfl (pc0 := pc) (pc' := pt) rfl hd rfl ((tlt hq).1) ho hpt q) (yes hq)
  · exact own_of (fun t q => XS.icmpNo X.here hx rfl hd rfl ((flt hq).1) q) (no hq)
theorem own_if_lt (X : Stand p l e R s m args below meth c T locs cells slots) (hx : p.tables.exec = Jvm.exec) {x : Int32} {o : Int} {pf pt : Nat} (hd : decode c.code pc = .ok (.ifCond .lt o, 3)) (hpf : pc + 3 = pf) (ho : 0 ≤ (pc : Int) + o) (hpt : ((pc : Int) + o).toNat = pt)
    (yes : x < 0 → own_WP p e below s Q k n (T.setTop (mkF m pt ls rest))) (no : ¬ x < 0 → own_WP p e below s Q k n (T.setTop (mkF m pf ls rest))) : own_WP p e below s Q k n (T.setTop (mkF m pc ls (.int x :: rest))) := by
  subst hpf
  by_cases hq : x < 0
  · exact own_of (fun t q => XS.ifYes X.here hx rfl (pc0 := pc) (pc' := pt) rfl hd rfl ((if0 _ _).trans (tlt hq).1) ho hpt q) (yes hq)
  · exact own_of (fun t q => XS.ifNo X.here hx rfl hd rfl ((if0 _ _).trans (flt hq).1) q) (no hq)
theorem own_ifl_lt (X : Stand p l e R s m args below meth c T locs cells slots) (hx : p.tables.exec = Jvm.exec) {x y : Int64} {o : Int} {pf pt : Nat} (hd : decode c.code pc = .ok (.ifCond .lt o, 3)) (hpf : pc + 3 = pf) (ho : 0 ≤ (pc : Int) + o) (hpt : ((pc : Int) + o).toNat = pt)
    (yes : x < y → own_WP p e below s Q k n (T.setTop (mkF m pt ls rest))) (no : ¬ x < y → own_WP p e below s Q k n (T.setTop (mkF m pf ls rest))) : own_WP p e below s Q k n (T.setTop (mkF m pc ls (.int (lcmpW x y) :: rest))) := by
  subst hpf
  by_cases hq : x < y
  · exact own_of (fun t q => XS.ifYes X.here hx rfl (pc0 := pc) (pc' := pt) rfl hd rfl ((if0 _ _).trans (tlt ((lw_lt x y).mpr hq)).1) ho hpt q) (yes hq)
  · exact own_of (fun t q => XS.ifNo X.here hx rfl hd rfl ((if0 _ _).trans (flt (fun z => hq ((lw_lt x y).mp z))).1) q) (no hq)
theorem own_icmp_ge (X : Stand p l e R s m args below meth c T locs cells slots) (hx : p.tables.exec = Jvm.exec) {x y : Int32} {o : Int} {pf pt : Nat} (hd : decode c.code pc = .ok (.if_icmp .ge o, 3)) (hpf : pc + 3 = pf) (ho : 0 ≤ (pc : Int) + o) (hpt : ((pc : Int) + o).toNat = pt)
    (yes : ¬ x < y → own_WP p e below s Q k n (T.setTop (mkF m pt ls rest))) (no : x < y → own_WP p e below s Q k n (T.setTop (mkF m pf ls rest))) : own_WP p e below s Q k n (T.setTop (mkF m pc ls (.int y :: .int x :: rest))) := by
  subst hpf
  by_cases hq : ¬ x < y
  · exact own_of (fun t q => XS.icmpYes X.here hx rfl (pc0 := pc) (pc' := pt) rfl hd rfl ((flt hq).2.1) ho hpt q) (yes hq)
  · exact own_of (fun t q => XS.icmpNo X.here hx rfl hd rfl ((tlt (Classical.not_not.mp hq)).2.1) q) (no (Classical.not_not.mp hq))
theorem own_if_ge (X : Stand p l e R s m args below meth c T locs cells slots) (hx : p.tables.exec = Jvm.exec) {x : Int32} {o : Int} {pf pt : Nat} (hd : decode c.code pc = .ok (.ifCond .ge o, 3)) (hpf : pc + 3 = pf) (ho : 0 ≤ (pc : Int) + o) (hpt : ((pc : Int) + o).toNat = pt)
    (yes : ¬ x < 0 → own_WP p e below s Q k n (T.setTop (mkF m pt ls rest))) (no : x < 0 → own_WP p e below s Q k n (T.setTop (mkF m pf ls rest))) : own_WP p e below s Q k n (T.setTop (mkF m pc ls (.int x :: rest))) := by
  subst hpf
  by_cases hq : ¬ x < 0
  · exact own_of (fun t q => XS.ifYes X.here hx rfl (pc0 := pc) (pc' := pt) rfl hd rfl ((if0 _ _).trans (flt hq).2.1) ho hpt q) (yes hq)
  · exact own_of (fun t q => XS.ifNo X.here hx rfl hd rfl ((if0 _ _).trans (tlt (Classical.not_not.mp hq)).2.1) q) (no (Classical.not_not.mp hq))
theorem own_ifl_ge (X : Stand p l e R s m args below meth c T locs cells slots) (hx : p.tables.exec = Jvm.exec) {x y : Int64} {o : Int} {pf pt : Nat} (hd : decode c.code pc = .ok (.ifCond .ge o, 3)) (hpf : pc + 3 = pf) (ho : 0 ≤ (pc : Int) + o) (hpt : ((pc : Int) + o).toNat = pt)
    (yes : ¬ x < y → own_WP p e below s Q k n (T.setTop (mkF m pt ls rest))) (no : x < y → own_WP p e below s Q k n (T.setTop (mkF m pf ls rest))) : own_WP p e below s Q k n (T.setTop (mkF m pc ls (.int (lcmpW x y) :: rest))) := by
  subst hpf
  by_cases hq : ¬ x < y
  · exact own_of (fun t q => XS.ifYes X.here hx rfl (pc0 := pc) (pc' := pt) rfl hd rfl ((if0 _ _).trans (flt (fun z => hq ((lw_lt x y).mp z))).2.1) ho hpt q) (yes hq)
  · exact own_of (fun t q => XS.ifNo X.here hx rfl hd rfl ((if0 _ _).trans (tlt ((lw_lt x y).mpr (Classical.not_not.mp hq))).2.1) q) (no (Classical.not_not.mp hq))
theorem own_icmp_gt (X : Stand p l e R s m args below meth c T locs cells slots) (hx : p.tables.exec = Jvm.exec) {x y : Int32} {o : Int} {pf pt : Nat} (hd : decode c.code pc = .ok (.if_icmp .gt o, 3)) (hpf : pc + 3 = pf) (ho : 0 ≤ (pc : Int) + o) (hpt : ((pc : Int) + o).toNat = pt)
    (yes : y < x → own_WP p e below s Q k n (T.setTop (mkF m pt ls rest))) (no : ¬ y < x → own_WP p e below s Q k n (T.setTop (mkF m pf ls rest))) : own_WP p e below s Q k n (T.setTop (mkF m pc ls (.int y :: .int x :: rest))) := by
  subst hpf
  by_cases hq : y < x
  · exact own_of (fun t q => XS.icmpYes X.here hx rfl (pc0 := pc) (pc' := pt) rfl hd rfl ((tlt hq).2.2.1) ho hpt q) (yes hq)
  · exact own_of (fun t q => XS.icmpNo X.here hx rfl hd rfl ((flt hq).2.2.1) q) (no hq)
theorem own_if_gt (X : Stand p l e R s m args below meth c T locs cells slots) (hx : p.tables.exec = Jvm.exec) {x : Int32} {o : Int} {pf pt : Nat} (hd : decode c.code pc = .ok (.ifCond .gt o, 3)) (hpf : pc + 3 = pf) (ho : 0 ≤ (pc : Int) + o) (hpt : ((pc : Int) + o).toNat = pt)
    (yes : 0 < x → own_WP p e below s Q k n (T.setTop (mkF m pt ls rest))) (no : ¬ 0 < x → own_WP p e below s Q k n (T.setTop (mkF m pf ls rest))) : own_WP p e below s Q k n (T.setTop (mkF m pc ls (.int x :: rest))) := by
  subst hpf
  by_cases hq : 0 < x
  · exact own_of (fun t q => XS.ifYes X.here hx rfl (pc0 := pc) (pc' := pt) rfl hd rfl ((if0 _ _).trans (tlt hq).2.2.1) ho hpt q) (yes hq)
  · exact own_of (fun t q => XS.ifNo X.here hx rfl hd rfl ((if0 _ _).trans (flt hq).2.2.1) q) (no hq)
theorem own_ifl_gt (X : Stand p l e R s m args below meth c T locs cells slots) (hx : p.tables.exec = Jvm.exec) {x y : Int64} {o : Int} {pf pt : Nat} (hd : decode c.code pc = .ok (.ifCond .gt o, 3)) (hpf : pc + 3 = pf) (ho : 0 ≤ (pc : Int) + o) (hpt : ((pc : Int) + o).toNat = pt)
    (yes : y < x → own_WP p e below s Q k n (T.setTop (mkF m pt ls rest))) (no : ¬ y < x → own_WP p e below s Q k n (T.setTop (mkF m pf ls rest))) : own_WP p e below s Q k n (T.setTop (mkF m pc ls (.int (lcmpW x y) :: rest))) := by
  subst hpf
  by_cases hq : y < x
  · exact own_of (fun t q => XS.ifYes X.here hx rfl (pc0 := pc) (pc' := pt) rfl hd rfl ((if0 _ _).trans (tlt ((lw_gt x y).mpr hq)).2.2.1) ho hpt q) (yes hq)
  · exact own_of (fun t q => XS.ifNo X.here hx rfl hd rfl ((if0 _ _).trans (flt (fun z => hq ((lw_gt x y).mp z))).2.2.1) q) (no hq)
theorem own_icmp_le (X : Stand p l e R s m args below meth c T locs cells slots) (hx : p.tables.exec = Jvm.exec) {x y : Int32} {o : Int} {pf pt : Nat} (hd : decode c.code pc = .ok (.if_icmp .le o, 3)) (hpf : pc + 3 = pf) (ho : 0 ≤ (pc : Int) + o) (hpt : ((pc : Int) + o).toNat = pt)
    (yes : ¬ y < x → own_WP p e below s Q k n (T.setTop (mkF m pt ls rest))) (no : y < x → own_WP p e below s Q k n (T.setTop (mkF m pf ls rest))) : own_WP p e below s Q k n (T.setTop (mkF m pc ls (.int y :: .int x :: rest))) := by
  subst hpf
  by_cases hq : ¬ y < x
  · exact own_of (fun t q => XS.icmpYes X.here hx rfl (pc0 := pc) (pc' := pt) rfl hd rfl ((flt hq).2.2.2) ho hpt q) (yes hq)
  · exact own_of (fun t q => XS.icmpNo X.here hx rfl hd rfl ((tlt (Classical.not_not.mp hq)).2.2.2) q) (no (Classical.not_not.mp hq))
theorem own_if_le (X : Stand p l e R s m args below meth c T locs cells slots) (hx : p.tables.exec = Jvm.exec) {x : Int32} {o : Int} {pf pt : Nat} (hd : decode c.code pc = .ok (.ifCond .le o, 3)) (hpf : pc + 3 = pf) (ho : 0 ≤ (pc : Int) + o) (hpt : ((pc : Int) + o).toNat = pt)
    (yes : ¬ 0 < x → own_WP p e below s Q k n (T.setTop (mkF m pt ls rest))) (no : 0 < x → own_WP p e below s Q k n (T.setTop (mkF m pf ls rest))) : own_WP p e below s Q k n (T.setTop (mkF m pc ls (.int x :: rest))) := by
  subst hpf
  by_cases hq : ¬ 0 < x
  · exact own_of (fun t q => XS.ifYes X.here hx rfl (pc0 := pc) (pc' := pt) rfl hd rfl ((if0 _ _).trans (flt hq).2.2.2) ho hpt q) (yes hq)
  · exact own_of (fun t q => XS.ifNo X.here hx rfl hd rfl ((if0 _ _).trans (tlt (Classical.not_not.mp hq)).2.2.2) q) (no (Classical.not_not.mp hq))
theorem own_ifl_le (X : Stand p l e R s m args below meth c T locs cells slots) (hx : p.tables.exec = Jvm.exec) {x y : Int64} {o : Int} {pf pt : Nat} (hd : decode c.code pc = .ok (.ifCond .le o, 3)) (hpf : pc + 3 = pf) (ho : 0 ≤ (pc : Int) + o) (hpt : ((pc : Int) + o).toNat = pt)
    (yes : ¬ y < x → own_WP p e below s Q k n (T.setTop (mkF m pt ls rest))) (no : y < x → own_WP p e below s Q k n (T.setTop (mkF m pf ls rest))) : own_WP p e below s Q k n (T.setTop (mkF m pc ls (.int (lcmpW x y) :: rest))) := by
  subst hpf
  by_cases hq : ¬ y < x
  · exact own_of (fun t q => XS.ifYes X.here hx rfl (pc0 := pc) (pc' := pt) rfl hd rfl ((if0 _ _).trans (flt (fun z => hq ((lw_gt x y).mp z))).2.2.2) ho hpt q) (yes hq)
  · exact own_of (fun t q => XS.ifNo X.here hx rfl hd rfl ((if0 _ _).trans (tlt ((lw_gt x y).mpr (Classical.not_not.mp hq))).2.2.2) q) (no (Classical.not_not.mp hq))
theorem own_icmp_eq (X : Stand p l e R s m args below meth c T locs cells slots) (hx : p.tables.exec = Jvm.exec) {x y : Int32} {o : Int} {pf pt : Nat} (hd : decode c.code pc = .ok (.if_icmp .eq o, 3)) (hpf : pc + 3 = pf) (ho : 0 ≤ (pc : Int) + o) (hpt : ((pc : Int) + o).toNat = pt)
    (yes : x = y → own_WP p e below s Q k n (T.setTop (mkF m pt ls rest))) (no : ¬ x = y → own_WP p e below s Q k n (T.setTop (mkF m pf ls rest))) : own_WP p e below s Q k n (T.setTop (mkF m pc ls (.int y :: .int x :: rest))) := by
  subst hpf
  by_cases hq : x = y
  · exact own_of (fun t q => XS.icmpYes X.here hx rfl (pc0 := pc) (pc' := pt) rfl hd rfl ((teq hq).1) ho hpt q) (yes hq)
  · exact own_of (fun t q => XS.icmpNo X.here hx rfl hd rfl ((feq hq).1) q) (no hq)
theorem own_if_eq (X : Stand p l e R s m args below meth c T locs cells slots) (hx : p.tables.exec = Jvm.exec) {x : Int32} {o : Int} {pf pt : Nat} (hd : decode c.code pc = .ok (.ifCond .eq o, 3)) (hpf : pc + 3 = pf) (ho : 0 ≤ (pc : Int) + o) (hpt : ((pc : Int) + o).toNat = pt)
    (yes : x = 0 → own_WP p e below s Q k n (T.setTop (mkF m pt ls rest))) (no : ¬ x = 0 → own_WP p e below s Q k n (T.setTop (mkF m pf ls rest))) : own_WP p e below s Q k n (T.setTop (mkF m pc ls (.int x :: rest))) := by
  subst hpf
  by_cases hq : x = 0
  · exact own_of (fun t q => XS.ifYes X.here hx rfl (pc0 := pc) (pc' := pt) rfl hd rfl ((if0 _ _).trans (teq hq).1) ho hpt q) (yes hq)
  · exact own_of (fun t q => XS.ifNo X.here hx rfl hd rfl ((if0 _ _).trans (feq hq).1) q) (no hq)
theorem own_ifl_eq (X : Stand p l e R s m args below meth c T locs cells slots) (hx : p.tables.exec = Jvm.exec) {x y : Int64} {o : Int} {pf pt : Nat} (hd : decode c.code pc = .ok (.ifCond .eq o, 3)) (hpf : pc + 3 = pf) (ho : 0 ≤ (pc : Int) + o) (hpt : ((pc : Int) + o).toNat = pt)
    (yes : x = y → own_WP p e below s Q k n (T.setTop (mkF m pt ls rest))) (no : ¬ x = y → own_WP p e below s Q k n (T.setTop (mkF m pf ls rest))) : own_WP p e below s Q k n (T.setTop (mkF m pc ls (.int (lcmpW x y) :: rest))) := by
  subst hpf
  by_cases hq : x = y
  · exact own_of (fun t q => XS.ifYes X.here hx rfl (pc0 := pc) (pc' := pt) rfl hd rfl ((if0 _ _).trans (teq ((lw_eq x y).mpr hq)).1) ho hpt q) (yes hq)
  · exact own_of (fun t q => XS.ifNo X.here hx rfl hd rfl ((if0 _ _).trans (feq (fun z => hq ((lw_eq x y).mp z))).1) q) (no hq)
theorem own_icmp_ne (X : Stand p l e R s m args below meth c T locs cells slots) (hx : p.tables.exec = Jvm.exec) {x y : Int32} {o : Int} {pf pt : Nat} (hd : decode c.code pc = .ok (.if_icmp .ne o, 3)) (hpf : pc + 3 = pf) (ho : 0 ≤ (pc : Int) + o) (hpt : ((pc : Int) + o).toNat = pt)
    (yes : ¬ x = y → own_WP p e below s Q k n (T.setTop (mkF m pt ls rest))) (no : x = y → own_WP p e below s Q k n (T.setTop (mkF m pf ls rest))) : own_WP p e below s Q k n (T.setTop (mkF m pc ls (.int y :: .int x :: rest))) := by
  subst hpf
  by_cases hq : ¬ x = y
  · exact own_of (fun t q => XS.icmpYes X.here hx rfl (pc0 := pc) (pc' := pt) rfl hd rfl ((feq hq).2) ho hpt q) (yes hq)
  · exact own_of (fun t q => XS.icmpNo X.here hx rfl hd rfl ((teq (Classical.not_not.mp hq)).2) q) (no (Classical.not_not.mp hq))
theorem own_if_ne (X : Stand p l e R s m args below meth c T locs cells slots) (hx : p.tables.exec = Jvm.exec) {x : Int32} {o : Int} {pf pt : Nat} (hd : decode c.code pc = .ok (.ifCond .ne o, 3)) (hpf : pc + 3 = pf) (ho : 0 ≤ (pc : Int) + o) (hpt : ((pc : Int) + o).toNat = pt)
    (yes : ¬ x = 0 → own_WP p e below s Q k n (T.setTop (mkF m pt ls rest))) (no : x = 0 → own_WP p e below s Q k n (T.setTop (mkF m pf ls rest))) : own_WP p e below s Q k n (T.setTop (mkF m pc ls (.int x :: rest))) := by
  subst hpf
  by_cases hq : ¬ x = 0
  · exact own_of (fun t q => XS.ifYes X.here hx rfl (pc0 := pc) (pc' := pt) rfl hd rfl ((if0 _ _).trans (feq hq).2) ho hpt q) (yes hq)
  · exact own_of (fun t q => XS.ifNo X.here hx rfl hd rfl ((if0 _ _).trans (teq (Classical.not_not.mp hq)).2) q) (no (Classical.not_not.mp hq))
theorem own_ifl_ne (X : Stand p l e R s m args below meth c T locs cells slots) (hx : p.tables.exec = Jvm.exec) {x y : Int64} {o : Int} {pf pt : Nat} (hd : decode c.code pc = .ok (.ifCond .ne o, 3)) (hpf : pc + 3 = pf) (ho : 0 ≤ (pc : Int) + o) (hpt : ((pc : Int) + o).toNat = pt)
    (yes : ¬ x = y → own_WP p e below s Q k n (T.setTop (mkF m pt ls rest))) (no : x = y → own_WP p e below s Q k n (T.setTop (mkF m pf ls rest))) : own_WP p e below s Q k n (T.setTop (mkF m pc ls (.int (lcmpW x y) :: rest))) := by
  subst hpf
  by_cases hq : ¬ x = y
  · exact own_of (fun t q => XS.ifYes X.here hx rfl (pc0 := pc) (pc' := pt) rfl hd rfl ((if0 _ _).trans (feq (fun z => hq ((lw_eq x y).mp z))).2) ho hpt q) (yes hq)
  · exact own_of (fun t q => XS.ifNo X.here hx rfl hd rfl ((if0 _ _).trans (teq ((lw_eq x y).mpr (Classical.not_not.mp hq))).2) q) (no (Classical.not_not.mp hq))
theorem own_getF (X : Stand p l e R s m args below meth c T locs cells slots) (hx : p.tables.exec = Jvm.exec) (hZ : Z.Warmed39 s.vm) {own R0 O nm d host : String} {idx : Nat} (hown : s.vm.findClass own = some m.cls) (w1 : (Jvm.Cond.fieldLink own idx R0 nm d).before a0 Z = true ∨ (Jvm.Cond.fieldLinkNest own idx R0 nm d host).before a0 Z = true) (via : Via Z R0 O nm d) (eT : T.heap = h) {b : Addr} {v : Value} (F : Fld Z h b O nm d v) (hd : decode c.code pc = .ok (.getfield idx, 3)) (hpc : pc + 3 = pc')
    (w : ∀ T', Stand p l e R s m args below meth c T' locs cells slots → T'.heap = h → own_WP p e below s Q k n (T'.setTop (mkF m pc' ls (v :: rest)))) : own_WP p e below s Q k n (T.setTop (mkF m pc ls (.ref b :: rest))) := by
  subst hpc
  obtain ⟨T', X', e', st⟩ := getF X hx hZ hown w1 via eT F (g := mkF m pc ls (.ref b :: rest)) rfl rfl hd
  exact own_of st (w T' X' e')
theorem own_putF (X : Stand p l e R s m args below meth c T locs cells slots) (hx : p.tables.exec = Jvm.exec) (hZ : Z.Warmed39 s.vm) {own R0 O nm d host C : String} {idx kk : Nat} {ty : FieldType} (hown : s.vm.findClass own = some m.cls) (w1 : (Jvm.Cond.fieldLink own idx R0 nm d).before a0 Z = true ∨ (Jvm.Cond.fieldLinkNest own idx R0 nm d host).before a0 Z = true) (via : Via Z R0 O nm d) (eT : T.heap = h) {b : Addr} {v old : Value} (F : Fld Z h b O nm d old) (E : Exa Z h b C) (L : (Jvm.Cond.lays C O nm d).before a0 Z = true ∨ ((Jvm.Cond.laysFinal C O nm d).before a0 Z = true ∧ own = O ∧ meth.name = "<init>")) (wi : (Jvm.Cond.instantiable C kk).before a0 Z = true) (hty : parseFieldDescriptor d = some ty) (hn : narrow ty v = v) (hf : fits ty v = true) (hd : decode c.code pc = .ok (.putfield idx, 3)) (hpc : pc + 3 = pc')
    (w : ∀ T' h', Stand p l e R s m args below meth c T' (locs ++ [⟨b, Jvm.RoadKit.slotOf Z O nm d⟩]) cells slots → T'.heap = h' → Wr h h' b (Jvm.RoadKit.slotOf Z O nm d) v → own_WP p e below s Q k n (T'.setTop (mkF m pc' ls rest))) : own_WP p e below s Q k n (T.setTop (mkF m pc ls (v :: .ref b :: rest))) := by
  subst hpc
  obtain ⟨T', h', X', e', W', st⟩ := putF X hx hZ hown w1 via eT F E L wi hty hn hf (g := mkF m pc ls (v :: .ref b :: rest)) rfl rfl hd
  exact own_of st (w T' h' X' e' W')
theorem own_new (X : Stand p l e R s m args below meth c T locs cells slots) (hx : p.tables.exec = Jvm.exec) (hZ : Z.Warmed39 s.vm) {own C : String} {idx nn : Nat} (hown : s.vm.findClass own = some m.cls) (w1 : (Jvm.Cond.classLink own idx C).before a0 Z = true) (wi : (Jvm.Cond.instantiable C nn).before a0 Z = true) (wz : (Jvm.Cond.initialized C).before a0 Z = true) (eT : T.heap = h) (hd : decode c.code pc = .ok (.new idx, 3)) (hc : cells + 1 ≤ R.cells) (hl : slots + nn ≤ R.slots) (hpc : pc + 3 = pc')
    (w : ∀ T' h' b, b = h.size → Stand p l e R s m args below meth c T' locs (cells + 1) (slots + nn) → T'.heap = h' → Ext h h' → Exa Z h' b C → (∀ {O nm d : String} {ty : FieldType}, Laid Z a0 C O nm d → parseFieldDescriptor d = some ty → Fld Z h' b O nm d (defaultValue ty)) → own_WP p e below s Q k n (T'.setTop (mkF m pc' ls (.ref b :: rest)))) : own_WP p e below s Q k n (T.setTop (mkF m pc ls rest)) := by
  subst hpc
  obtain ⟨T', h', X', e', E', A', D', -, st⟩ := newO X hx hZ hown w1 wi wz eT (g := mkF m pc ls rest) rfl hd hc hl
  exact own_of st (w T' h' _ rfl X' e' E' A' D')
theorem own_newP (X : Stand p l e R s m args below meth c T locs cells slots) (hx : p.tables.exec = Jvm.exec) (hZ : Z.Warmed39 s.vm) {aty : ArrayType} (w1 : (Jvm.Cond.arrayClass (newarray.typeOf aty)).before a0 Z = true) (eT : T.heap = h) (hd : decode c.code pc = .ok (.newarray aty, 2)) {z : Int32} (hz : ¬ z < 0) {cap : Nat} (hcap : z.toNatClampNeg ≤ cap) (hb : cap * 8 ≤ 536870912) (hc : cells + 1 ≤ R.cells) (hl : slots + cap ≤ R.slots) (hpc : pc + 2 = pc')
    (w : ∀ T' h' cA b, b = h.size → Stand p l e R s m args below meth c T' locs (cells + 1) (slots + cap) → T'.heap = h' → Ext h h' → Arr Z h' b (newA cA (newarray.typeOf aty) z) (newarray.typeOf aty) → own_WP p e below s Q k n (T'.setTop (mkF m pc' ls (.ref b :: rest)))) : own_WP p e below s Q k n (T.setTop (mkF m pc ls (.int z :: rest))) := by
  subst hpc
  obtain ⟨T', h', cA, X', e', E', A', st⟩ := newP X hx hZ w1 eT (g := mkF m pc ls (.int z :: rest)) rfl hd rfl hz hcap hb hc hl
  exact own_of st (w T' h' cA _ rfl X' e' E' A')
theorem own_initO (X : Stand p l e R s m args below meth c T locs cells slots) (hx : p.tables.exec = Jvm.exec) (hZ : Z.Warmed39 s.vm) {own : String} {idx : Nat} (hown : s.vm.findClass own = some m.cls) (w1 : (Jvm.Cond.methodLink own idx Lib.objectInit).before a0 Z = true) (w2 : (Jvm.Cond.instanceMethod Lib.objectInit).before a0 Z = true) (w3 : (Jvm.Cond.code Lib.objectInit ⟨#[0xb1]⟩ 1 none).before a0 Z = true) (eT : T.heap = h) (hsz : ls.size = c.maxLocals) {b : Addr} (hd : decode c.code pc = .ok (.invokespecial idx, 3)) (hf : 1 ≤ R.frames) {W : Nat} (hW : (rest.map fun v => v.category).sum ≤ W) (hl : W + 12 ≤ R.locals) (hpc : pc + 3 = pc')
    (w : ∀ T', Stand p l e R s m args below meth c T' locs cells slots → T'.heap = h → own_WP p e below s Q k n (T'.setTop (mkF m pc' ls rest))) : own_WP p e below s Q k n (T.setTop (mkF m pc ls (.ref b :: rest))) := by
  subst hpc
  obtain ⟨T', X', e', st⟩ := initO X hx hZ hown w1 w2 w3 eT (g := mkF m pc ls (.ref b :: rest)) rfl hsz rfl hd hf (W := W) (by show 2 * 0 + _ ≤ _; omega) hl
  exact own_of st (w T' X' e')
theorem own_callS (X : Stand p l e R s m args below meth c T locs cells slots) (hx : p.tables.exec = Jvm.exec) (hZ : Z.Warmed39 s.vm) {own : String} {idx : Nat} {y : MethodName} {bytes : ByteArray} {maxL : Nat} {ret : Option FieldType} {rm : Room} {as' : Array Value} {Q' : Option Value → Heap → List Loc → Prop} (hown : s.vm.findClass own = some m.cls) (w1 : (Jvm.Cond.methodLink own idx y).before a0 Z = true) (w2 : (Jvm.Cond.static y).before a0 Z = true) (w3 : (Jvm.Cond.initialized y.cls).before a0 Z = true) (w4 : (Jvm.Cond.code y bytes maxL ret).before a0 Z = true) (hy : y.cls ≠ "java/lang/invoke/MethodHandle" ∧ y.cls ≠ "java/lang/invoke/VarHandle")
    (C : own_Con l Z y bytes maxL ret rm as' h Q') (eT : T.heap = h) {ps : List FieldType} {rt : Option FieldType} (hpd : parseMethodDescriptor y.desc = some ⟨ps, rt⟩) (argsL rest : List Value) (ha : argsL.toArray = as') (hal : argsL.length = ps.length) {st : List Value} (hst : st = argsL.reverse ++ rest) {W : Nat} (hW : (rest.map fun v => v.category).sum ≤ W) (hf : rm.frames + 1 ≤ R.frames) (hl : W + (maxL + 11) + rm.locals ≤ R.locals) (hsz : ls.size = c.maxLocals) (hd : decode c.code pc = .ok (.invokestatic idx, 3)) (hc : cells + rm.cells ≤ R.cells) (hs : slots + rm.slots ≤ R.slots) (hpc : pc + 3 = pc')
    (w : ∀ v T' L, Stand p l e R s m args below meth c T' (locs ++ L) (cells + rm.cells) (slots + rm.slots) → Q' v T'.heap L → own_WP p e below s Q k n (T'.setTop (mkF m pc' ls (v.toList ++ rest)))) : own_WP p e below s Q k n (T.setTop (mkF m pc ls st)) := by
  subst hpc hst ha
  obtain ⟨v, vm1, ⟨T', L', k', n'⟩, -, X', ⟨Lc, hQ, l1, y1, z1⟩, stp⟩ := Jvm.LawKit.callS X hx (y := y) hown (mvT hZ w1) (mvT hZ w2) (mvT hZ w3) (mvT hZ w4) hy (backOf (W := W) (C []) hZ w4 w3 hf hl) (g := mkF m pc ls (argsL.reverse ++ rest)) rfl hsz (argsL := argsL) (rest := rest) (lenOf hpd hal) rfl (by show 2 * 0 + _ ≤ _; omega) hd (fun _ _ => ⟨rfl, eT, hc, hs⟩)
  dsimp only [Pt.U, Pt.locs, Pt.cells, Pt.slots] at X' l1 y1 z1 stp hQ
  subst l1 y1 z1
  exact own_of stp (w _ _ _ X' hQ)
theorem own_callN (X : Stand p l e R s m args below meth c T locs cells slots) (hx : p.tables.exec = Jvm.exec) (hZ : Z.Warmed39 s.vm) {own : String} {idx : Nat} {y : MethodName} {bytes : ByteArray} {maxL : Nat} {rm : Room} {as' : Array Value} {Q' : Option Value → Heap → List Loc → Prop} (hy1 : y.name = "<init>") (hown : s.vm.findClass own = some m.cls) (w1 : (Jvm.Cond.methodLink own idx y).before a0 Z = true) (w2 : (Jvm.Cond.instanceMethod y).before a0 Z = true) (w3 : (Jvm.Cond.initialized y.cls).before a0 Z = true) (w4 : (Jvm.Cond.code y bytes maxL none).before a0 Z = true) (hy : y.cls ≠ "java/lang/invoke/MethodHandle" ∧ y.cls ≠ "java/lang/invoke/VarHandle")
    (C : own_Con l Z y bytes maxL none rm as' h Q') (eT : T.heap = h) {ps : List FieldType} {rt : Option FieldType} (hpd : parseMethodDescriptor y.desc = some ⟨ps, rt⟩) (b : Addr) (argsL rest : List Value) (ha : (.ref b :: argsL).toArray = as') (hal : argsL.length = ps.length) {st : List Value} (hst : st = argsL.reverse ++ .ref b :: rest) {W : Nat} (hW : (rest.map fun v => v.category).sum ≤ W) (hf : rm.frames + 1 ≤ R.frames) (hl : W + (maxL + 11) + rm.locals ≤ R.locals) (hsz : ls.size = c.maxLocals) (hd : decode c.code pc = .ok (.invokespecial idx, 3)) (hc : cells + rm.cells ≤ R.cells) (hs : slots + rm.slots ≤ R.slots) (hpc : pc + 3 = pc')
    (w : ∀ v T' L, Stand p l e R s m args below meth c T' (locs ++ L) (cells + rm.cells) (slots + rm.slots) → Q' v T'.heap L → own_WP p e below s Q k n (T'.setTop (mkF m pc' ls (v.toList ++ rest)))) : own_WP p e below s Q k n (T.setTop (mkF m pc ls st)) := by
  subst hpc hst ha
  obtain ⟨v, vm1, ⟨T', L', k', n'⟩, -, X', ⟨Lc, hQ, l1, y1, z1⟩, stp⟩ := X.specialBack hx (y := y) hy1 hown (mvT hZ w1) (mvT hZ w2) (mvT hZ w4) hy (backOf (W := W) (C []) hZ w4 w3 hf hl) (g := mkF m pc ls (argsL.reverse ++ .ref b :: rest)) rfl hsz (Steps.refl _) (a := b) (argsL := argsL) (rest := rest) (lenOf hpd hal) rfl (by show 2 * 0 + _ ≤ _; omega) hd (fun _ _ => ⟨rfl, eT, hc, hs⟩)
  dsimp only [Pt.U, Pt.locs, Pt.cells, Pt.slots] at X' l1 y1 z1 stp hQ
  subst l1 y1 z1
  exact own_of (fun t q => stp.trans q) (w _ _ _ X' hQ)
theorem own_callV (X : Stand p l e R s m args below meth c T locs cells slots) (hx : p.tables.exec = Jvm.exec) (hZ : Z.Warmed39 s.vm) {own D : String} {idx : Nat} {y z : MethodName} {bytes : ByteArray} {maxL : Nat} {ret : Option FieldType} {rm : Room} {as' : Array Value} {Q' : Option Value → Heap → List Loc → Prop} (hown : s.vm.findClass own = some m.cls) (w1 : (Jvm.Cond.methodLink own idx y).before a0 Z = true) (wd : (Jvm.Cond.declares y).before a0 Z = true) (hnf : NotFace s y) (ws : (Jvm.Cond.selects D y z).before a0 Z = true) (w2 : (Jvm.Cond.instanceMethod z).before a0 Z = true) (w3 : (Jvm.Cond.initialized z.cls).before a0 Z = true) (w4 : (Jvm.Cond.code z bytes maxL ret).before a0 Z = true) (hy : y.cls ≠ "java/lang/invoke/MethodHandle" ∧ y.cls ≠ "java/lang/invoke/VarHandle") {b : Addr} (E : Exa Z h b D)
    (C : own_Con l Z z bytes maxL ret rm as' h Q') (eT : T.heap = h) {ps : List FieldType} {rt : Option FieldType} (hpd : parseMethodDescriptor y.desc = some ⟨ps, rt⟩) (argsL rest : List Value) (ha : (.ref b :: argsL).toArray = as') (hal : argsL.length = ps.length) {st : List Value} (hst : st = argsL.reverse ++ .ref b :: rest) {W : Nat} (hW : (rest.map fun v => v.category).sum ≤ W) (hf : rm.frames + 1 ≤ R.frames) (hl : W + (maxL + 11) + rm.locals ≤ R.locals) (hsz : ls.size = c.maxLocals) (hd : decode c.code pc = .ok (.invokevirtual idx, 3)) (hc : cells + rm.cells ≤ R.cells) (hs : slots + rm.slots ≤ R.slots) (hpc : pc + 3 = pc')
    (w : ∀ v T' L, Stand p l e R s m args below meth c T' (locs ++ L) (cells + rm.cells) (slots + rm.slots) → Q' v T'.heap L → own_WP p e below s Q k n (T'.setTop (mkF m pc' ls (v.toList ++ rest)))) : own_WP p e below s Q k n (T.setTop (mkF m pc ls st)) := by
  subst hpc hst ha
  obtain ⟨cq, kq, qa, qb, qc⟩ := isOf (T := T) hZ eT E
  obtain ⟨v, vm1, ⟨T', L', k', n'⟩, -, X', ⟨Lc, hQ, l1, y1, z1⟩, stp⟩ := X.virtualBack hx (y := y) (z := z) hown (mvT hZ w1) (mvT hZ wd) hnf (mvT hZ ws) (mvT hZ w2) hy (backOf (W := W) (C []) hZ w4 w3 hf hl) qa qc (g := mkF m pc ls (argsL.reverse ++ .ref b :: rest)) rfl hsz (Steps.refl _) (argsL := argsL) (rest := rest) (lenOf hpd hal) rfl (by show 2 * 0 + _ ≤ _; omega) hd (fun _ _ => ⟨rfl, eT, hc, hs⟩)
  dsimp only [Pt.U, Pt.locs, Pt.cells, Pt.slots] at X' l1 y1 z1 stp hQ
  subst l1 y1 z1
  exact own_of (fun t q => stp.trans q) (w _ _ _ X' hQ)

theorem own_laload (X : Stand p l e R s m args below meth c T locs cells slots) (hx : p.tables.exec = Jvm.exec) (hZ : Z.Warmed39 s.vm) (eT : T.heap = h) {b : Addr} {kk : ClassId} {z j : Int32} {vs : List Value} {dv v : Value} (F : Arv Z h b kk .long z vs dv) (hj : ¬ j < 0 ∧ j < z) (hv : vs.getD j.toNatClampNeg dv = v) (hd : decode c.code pc = .ok (.laload, 1)) (hpc : pc + 1 = pc') (w : own_WP p e below s Q k n (T.setTop (mkF m pc' ls (v :: rest)))) : own_WP p e below s Q k n (T.setTop (mkF m pc ls (.int j :: .ref b :: rest))) := by
  subst hpc
  obtain ⟨cl, A, q1, S, q3, H, G⟩ := F
  exact own_of (fun t q => X.laload hx (j := j) (v := v) (by rw [eT]; exact A.1) (State.isArrayOf_alike hZ.alike A.2.1) A.2.2 (inb_of S hj) (H.at (inb_of S hj) hv) (g := mkF m pc ls (.int j :: .ref b :: rest)) rfl rfl hd _ q) w
theorem own_baload (X : Stand p l e R s m args below meth c T locs cells slots) (hx : p.tables.exec = Jvm.exec) (hZ : Z.Warmed39 s.vm) (eT : T.heap = h) {b : Addr} {kk : ClassId} {z j : Int32} {vs : List Value} {dv v : Value} (F : Arv Z h b kk .byte z vs dv) (hj : ¬ j < 0 ∧ j < z) (hv : vs.getD j.toNatClampNeg dv = v) (hd : decode c.code pc = .ok (.baload, 1)) (hpc : pc + 1 = pc') (w : own_WP p e below s Q k n (T.setTop (mkF m pc' ls (v :: rest)))) : own_WP p e below s Q k n (T.setTop (mkF m pc ls (.int j :: .ref b :: rest))) := by
  subst hpc
  obtain ⟨cl, A, q1, S, q3, H, G⟩ := F
  exact own_of (fun t q => X.baloadBytes hx (j := j) (v := v) (by rw [eT]; exact A.1) (State.isArrayOf_alike hZ.alike A.2.1) A.2.2 (inb_of S hj) (H.at (inb_of S hj) hv) (g := mkF m pc ls (.int j :: .ref b :: rest)) rfl rfl hd _ q) w
theorem own_iaload (X : Stand p l e R s m args below meth c T locs cells slots) (hx : p.tables.exec = Jvm.exec) (hZ : Z.Warmed39 s.vm) (eT : T.heap = h) {b : Addr} {kk : ClassId} {z j : Int32} {vs : List Value} {dv v : Value} (F : Arv Z h b kk .int z vs dv) (hj : ¬ j < 0 ∧ j < z) (hv : vs.getD j.toNatClampNeg dv = v) (hd : decode c.code pc = .ok (.iaload, 1)) (hpc : pc + 1 = pc') (w : own_WP p e below s Q k n (T.setTop (mkF m pc' ls (v :: rest)))) : own_WP p e below s Q k n (T.setTop (mkF m pc ls (.int j :: .ref b :: rest))) := by
  subst hpc
  obtain ⟨cl, A, q1, S, q3, H, G⟩ := F
  exact own_of (fun t q => X.iaload hx (j := j) (v := v) (by rw [eT]; exact A.1) (State.isArrayOf_alike hZ.alike A.2.1) A.2.2 (inb_of S hj) (H.at (inb_of S hj) hv) (g := mkF m pc ls (.int j :: .ref b :: rest)) rfl rfl hd _ q) w
theorem own_caload (X : Stand p l e R s m args below meth c T locs cells slots) (hx : p.tables.exec = Jvm.exec) (hZ : Z.Warmed39 s.vm) (eT : T.heap = h) {b : Addr} {kk : ClassId} {z j : Int32} {vs : List Value} {dv v : Value} (F : Arv Z h b kk .char z vs dv) (hj : ¬ j < 0 ∧ j < z) (hv : vs.getD j.toNatClampNeg dv = v) (hd : decode c.code pc = .ok (.caload, 1)) (hpc : pc + 1 = pc') (w : own_WP p e below s Q k n (T.setTop (mkF m pc' ls (v :: rest)))) : own_WP p e below s Q k n (T.setTop (mkF m pc ls (.int j :: .ref b :: rest))) := by
  subst hpc
  obtain ⟨cl, A, q1, S, q3, H, G⟩ := F
  exact own_of (fun t q => X.caload hx (j := j) (v := v) (by rw [eT]; exact A.1) (State.isArrayOf_alike hZ.alike A.2.1) A.2.2 (inb_of S hj) (H.at (inb_of S hj) hv) (g := mkF m pc ls (.int j :: .ref b :: rest)) rfl rfl hd _ q) w
theorem own_lastore (X : Stand p l e R s m args below meth c T locs cells slots) (hx : p.tables.exec = Jvm.exec) (hZ : Z.Warmed39 s.vm) (eT : T.heap = h) {b : Addr} {kk : ClassId} {z j : Int32} {vs : List Value} {dv : Value} {x : Int64} (F : Arv Z h b kk .long z vs dv) (hj : ¬ j < 0 ∧ j < z) (i : Nat) (hi : j.toNatClampNeg = i) (hlen : i < vs.length) (hd : decode c.code pc = .ok (.lastore, 1)) (hpc : pc + 1 = pc') (w : ∀ T' h', Stand p l e R s m args below meth c T' (locs ++ [⟨b, j.toNatClampNeg⟩]) cells slots → T'.heap = h' → Wr h h' b j.toNatClampNeg (.long x) → Arv Z h' b kk .long z (vs.set i (.long x)) dv → own_WP p e below s Q k n (T'.setTop (mkF m pc' ls rest))) : own_WP p e below s Q k n (T.setTop (mkF m pc ls (.long x :: .int j :: .ref b :: rest))) := by
  subst hpc
  obtain ⟨cl, A, q1, S, q3, H, G⟩ := F
  obtain ⟨T', h', X', e', W', st⟩ := stJ X hx hZ eT A (j := j) (inb_of S hj) (g := mkF m pc ls (.long x :: .int j :: .ref b :: rest)) rfl rfl hd
  exact own_of st (w T' h' X' e' W' (Arv.set A q1 S q3 H G rfl W' i hi hlen))
theorem own_bastore (X : Stand p l e R s m args below meth c T locs cells slots) (hx : p.tables.exec = Jvm.exec) (hZ : Z.Warmed39 s.vm) (eT : T.heap = h) {b : Addr} {kk : ClassId} {z j : Int32} {vs : List Value} {dv : Value} {x : Int32} (F : Arv Z h b kk .byte z vs dv) (hj : ¬ j < 0 ∧ j < z) (i : Nat) (hi : j.toNatClampNeg = i) (hlen : i < vs.length) (hd : decode c.code pc = .ok (.bastore, 1)) (hpc : pc + 1 = pc') (w : ∀ T' h', Stand p l e R s m args below meth c T' (locs ++ [⟨b, j.toNatClampNeg⟩]) cells slots → T'.heap = h' → Wr h h' b j.toNatClampNeg (.int (nar .byte x)) → Arv Z h' b kk .byte z (vs.set i (.int (nar .byte x))) dv → own_WP p e below s Q k n (T'.setTop (mkF m pc' ls rest))) : own_WP p e below s Q k n (T.setTop (mkF m pc ls (.int x :: .int j :: .ref b :: rest))) := by
  subst hpc
  obtain ⟨cl, A, q1, S, q3, H, G⟩ := F
  obtain ⟨T', h', X', e', W', st⟩ := stB X hx hZ eT A (j := j) (inb_of S hj) (g := mkF m pc ls (.int x :: .int j :: .ref b :: rest)) rfl rfl hd
  exact own_of st (w T' h' X' e' W' (Arv.set A q1 S q3 H G (fits_nar_byte x) W' i hi hlen))
theorem own_iastore (X : Stand p l e R s m args below meth c T locs cells slots) (hx : p.tables.exec = Jvm.exec) (hZ : Z.Warmed39 s.vm) (eT : T.heap = h) {b : Addr} {kk : ClassId} {z j : Int32} {vs : List Value} {dv : Value} {x : Int32} (F : Arv Z h b kk .int z vs dv) (hj : ¬ j < 0 ∧ j < z) (i : Nat) (hi : j.toNatClampNeg = i) (hlen : i < vs.length) (hd : decode c.code pc = .ok (.iastore, 1)) (hpc : pc + 1 = pc') (w : ∀ T' h', Stand p l e R s m args below meth c T' (locs ++ [⟨b, j.toNatClampNeg⟩]) cells slots → T'.heap = h' → Wr h h' b j.toNatClampNeg (.int x) → Arv Z h' b kk .int z (vs.set i (.int x)) dv → own_WP p e below s Q k n (T'.setTop (mkF m pc' ls rest))) : own_WP p e below s Q k n (T.setTop (mkF m pc ls (.int x :: .int j :: .ref b :: rest))) := by
  subst hpc
  obtain ⟨cl, A, q1, S, q3, H, G⟩ := F
  obtain ⟨T', h', X', e', W', st⟩ := stI X hx hZ eT A (j := j) (inb_of S hj) (g := mkF m pc ls (.int x :: .int j :: .ref b :: rest)) rfl rfl hd
  exact own_of st (w T' h' X' e' W' (Arv.set A q1 S q3 H G rfl W' i hi hlen))
theorem own_arrlen (X : Stand p l e R s m args below meth c T locs cells slots) (hx : p.tables.exec = Jvm.exec) (hZ : Z.Warmed39 s.vm) (eT : T.heap = h) {b : Addr} {kk : ClassId} {z : Int32} {vs : List Value} {dv : Value} {ty : FieldType} (F : Arv Z h b kk ty z vs dv) (hd : decode c.code pc = .ok (.arraylength, 1)) (hpc : pc + 1 = pc') (w : own_WP p e below s Q k n (T.setTop (mkF m pc' ls (.int z :: rest)))) : own_WP p e below s Q k n (T.setTop (mkF m pc ls (.ref b :: rest))) := by
  subst hpc
  obtain ⟨cl, A, q1, S, q3, H, G⟩ := F
  refine own_of (fun t q => X.arraylength hx (by rw [eT]; exact A.1) (State.isArrayOf_alike hZ.alike A.2.1) (g := mkF m pc ls (.ref b :: rest)) rfl rfl hd _ ?_) w
  rw [len_of S q3]
  exact q
end OwnWP

theorem own_bvU (x : Int64) (q : Int32) (k : Nat) (hk : q.toBitVec.toNat % 64 = k) : ((x.toUInt64 >>> (q &&& 0x3f).toInt64.toUInt64).toInt64).toBitVec = x.toBitVec >>> k := by
  have h5 := (sm64 q k hk).2
  show x.toBitVec >>> ((q &&& 0x3f).toInt64.toBitVec % 64) = _
  rw [BitVec.ushiftRight_eq', BitVec.toNat_umod, (sm64 q k hk).1, BitVec.toNat_ofNat]
  congr 1
  show k % 2 ^ 64 % 64 = k
  omega
theorem own_bvL (x : Int64) (q : Int32) (k : Nat) (hk : q.toBitVec.toNat % 64 = k) : (x <<< (q &&& 0x3f).toInt64).toBitVec = x.toBitVec <<< k := by
  show x.toBitVec <<< ((q &&& 0x3f).toInt64.toBitVec.smod 64) = _
  rw [BitVec.shiftLeft_eq', (sm64 q k hk).1, smod64 k (sm64 q k hk).2]

def own_sh (k : Int32) (x : Int64) : Int64 := (x.toUInt64 >>> (k &&& 0x3f).toInt64.toUInt64).toInt64
def own_m1 (x : Int64) : Int64 := (x ^^^ own_sh 30 x) * (-4658895280553007687)
def own_m2 (x : Int64) : Int64 := (x ^^^ own_sh 27 x) * (-7723592293110705685)
def own_m3 (x : Int64) : Int64 := x ^^^ own_sh 31 x
def own_mix (x : Int64) : Int64 := own_m3 (own_m2 (own_m1 x))
theorem own_self0 (d : BitVec 64) (k : Nat) (hk : 0 < k) (h : d = d >>> k) : d = 0#64 := by
  have h1 : d.toNat = d.toNat / 2 ^ k := by
    have := congrArg BitVec.toNat h
    rwa [BitVec.toNat_ushiftRight, Nat.shiftRight_eq_div_pow] at this
  apply BitVec.eq_of_toNat_eq
  show d.toNat = 0
  by_cases h0 : d.toNat = 0
  · exact h0
  · have h2 : d.toNat / 2 ^ k < d.toNat := Nat.div_lt_self (by omega) (Nat.one_lt_two_pow (by omega))
    omega
theorem own_xsinj (q : Int32) (k : Nat) (hk : q.toBitVec.toNat % 64 = k) (h0 : 0 < k) {x y : Int64} (h : x ^^^ own_sh q x = y ^^^ own_sh q y) : x = y := by
  have hb : x.toBitVec ^^^ (x.toBitVec >>> k) = y.toBitVec ^^^ (y.toBitVec >>> k) := by
    have := congrArg Int64.toBitVec h
    rwa [Int64.toBitVec_xor, Int64.toBitVec_xor, own_sh, own_sh, own_bvU x q k hk, own_bvU y q k hk] at this
  apply Int64.toBitVec_inj.mp
  generalize x.toBitVec = a at hb
  generalize y.toBitVec = b at hb
  have hd : (a ^^^ b) = (a ^^^ b) >>> k := by
    rw [BitVec.ushiftRight_xor_distrib]
    have h1 : a ^^^ a >>> k ^^^ b ^^^ a >>> k = b ^^^ b >>> k ^^^ b ^^^ a >>> k := congrArg (fun z => z ^^^ b ^^^ (a >>> k)) hb
    have e1 : a ^^^ a >>> k ^^^ b ^^^ a >>> k = a ^^^ b := by
      rw [BitVec.xor_assoc a, BitVec.xor_comm (a >>> k) b, ← BitVec.xor_assoc, BitVec.xor_assoc, BitVec.xor_self, BitVec.xor_zero]
    have e2 : b ^^^ b >>> k ^^^ b ^^^ a >>> k = a >>> k ^^^ b >>> k := by
      rw [BitVec.xor_comm b (b >>> k), BitVec.xor_assoc (b >>> k) b b, BitVec.xor_self, BitVec.xor_zero, BitVec.xor_comm]
    rw [e1, e2] at h1
    exact h1
  have hz := own_self0 _ k h0 hd
  exact BitVec.xor_eq_zero_iff.mp hz
theorem own_mulinj (c d : Int64) (hcd : c * d = 1) {x y : Int64} (h : x * c = y * c) : x = y := by
  have h1 := congrArg (fun z => z * d) h
  simp only [Int64.mul_assoc, hcd, Int64.mul_one] at h1
  exact h1
theorem own_mixinj {x y : Int64} (h : own_mix x = own_mix y) : x = y := by
  have h3 := own_xsinj 31 31 (by decide) (by decide) h
  have h2 := own_xsinj 27 27 (by decide) (by decide) (own_mulinj _ (3573116690164977347) (by decide) h3)
  exact own_xsinj 30 30 (by decide) (by decide) (own_mulinj _ (-7575587736534282103) (by decide) h2)
theorem own_addinj (g : Int64) {x y : Int64} (h : x + g = y + g) : x = y := by
  have h1 := congrArg (fun z => z - g) h
  simpa using h1

theorem d1_0 : decode prog_107_method_1_code 0 = .ok (.aload_n 0, 1) := by decide +kernel
theorem d1_1 : decode prog_107_method_1_code 1 = .ok (.invokespecial 1, 3) := by decide +kernel
theorem d1_4 : decode prog_107_method_1_code 4 = .ok (.aload_n 0, 1) := by decide +kernel
theorem d1_5 : decode prog_107_method_1_code 5 = .ok (.lload_n 1, 1) := by decide +kernel
theorem d1_6 : decode prog_107_method_1_code 6 = .ok (.putfield 7, 3) := by decide +kernel
theorem d1_9 : decode prog_107_method_1_code 9 = .ok (.return_, 1) := by decide +kernel
theorem pn_1 : plainFor (⟨"com/example/violetear/violetear/replay/SeededRandom", "<init>", "(J)V"⟩ : MethodName) = true := plainFor_of_name (by first | (simp [plainName, overriddenIn]; done) | decide +kernel)
theorem ef_con1 (m : MethodId) (a1 : Addr) (w2 : Int64) : entryFrame m #[(.ref a1), (.long w2)] 3 = mkF m 0 #[.val (.ref a1), .val (.long w2), .second] [] := by first | (simp [entryFrame, mkF, argsToLocals, Value.category]; done) | rfl
set_option maxRecDepth 65536 in
set_option maxHeartbeats 4000000 in
theorem con1 (l : Launch) (Z : State) (a0 : Array Value) (hw : ∀ d ∈ tables_1, d.before a0 Z = true) (a1 : Addr) (w2 : Int64) (h0 : Heap) (n0 : Nat) (Z0 : n0 ≤ h0.size) (E1 : Exa Z h0 a1 "com/example/violetear/violetear/replay/SeededRandom") (F1 : Fld Z h0 a1 "com/example/violetear/violetear/replay/SeededRandom" "state" "J" (.long (0 : Int64))) (g_a1 : n0 ≤ a1) :
    own_Con l Z (⟨"com/example/violetear/violetear/replay/SeededRandom", "<init>", "(J)V"⟩ : MethodName) prog_107_method_1_code 3 none ({ frames := 1, cells := 0, slots := 0, locals := 12 } : Room) #[(.ref a1), (.long w2)] h0 (fun v h L => v = none ∧ Fr n0 L ∧ Keep h0 h [a1] ∧ Exa Z h a1 "com/example/violetear/violetear/replay/SeededRandom" ∧ Fld Z h a1 "com/example/violetear/violetear/replay/SeededRandom" "state" "J" (.long w2)) := by
  refine own_Con_of pn_1 ?_
  intro p e s m below meth c s₁ X0 hx hby hml hret hlk hnm hown hZ e0
  have hown : s.vm.findClass "com/example/violetear/violetear/replay/SeededRandom" = some m.cls := hown
  have hml : c.maxLocals = 3 := hml
  have N0 := Fr.nil n0
  show own_WP _ _ _ _ _ _ _ (s₁.setTop (entryFrame m #[(.ref a1), (.long w2)] 3))
  rw [ef_con1 m a1 w2]
  refine own_aloadN (pc' := 1) X0 hx (hb hby d1_0) rfl rfl rfl ?_
  refine own_initO (pc' := 4) (W := 0) X0 hx hZ hown (own_w hw 7 rfl) (own_w hw 8 rfl) (own_w hw 9 rfl) e0 (by rw [hml]; rfl) (hb hby d1_1) (by decide) (Nat.le_of_eq rfl) (by decide) rfl ?_
  intro T1 X1 e1
  refine own_aloadN (pc' := 5) X1 hx (hb hby d1_4) rfl rfl rfl ?_
  refine own_lloadN (pc' := 6) X1 hx (hb hby d1_5) rfl rfl ?_
  refine own_putF (pc' := 9) X1 hx hZ hown (host := "") (Or.inl (own_w hw 10 rfl)) Via.refl e1 F1 E1 (Or.inl (own_w hw 11 rfl)) (own_w hw 2 rfl) (ty := .long) (by decide) rfl rfl (hb hby d1_6) rfl ?_
  intro T2 h2 X2 e2 W2
  have z2 : n0 ≤ h2.size := Nat.le_trans Z0 (Keep.of_wr W2).1
  have F2 := F1.same W2
  have N2 := Fr.snoc X2 N0 g_a1
  have K2 : Keep h0 h2 [a1] := (Keep.refl h0 [a1]).wr W2 (Or.inl (List.mem_of_getElem? (i := 0) rfl))
  have f3 := (E1.wr W2)
  refine own_ret0 X2 hx hlk hret (hb hby d1_9) (by decide) (by decide) ?_
  rw [e2]
  exact ⟨rfl, N2, K2, f3, F2⟩
theorem d3_0 : decode prog_107_method_2_code 0 = .ok (.aload_n 0, 1) := by decide +kernel
theorem d3_1 : decode prog_107_method_2_code 1 = .ok (.dup, 1) := by decide +kernel
theorem d3_2 : decode prog_107_method_2_code 2 = .ok (.getfield 7, 3) := by decide +kernel
theorem d3_5 : decode prog_107_method_2_code 5 = .ok (.ldc2_w 13, 3) := by decide +kernel
theorem d3_8 : decode prog_107_method_2_code 8 = .ok (.ladd, 1) := by decide +kernel
theorem d3_9 : decode prog_107_method_2_code 9 = .ok (.putfield 7, 3) := by decide +kernel
theorem d3_12 : decode prog_107_method_2_code 12 = .ok (.aload_n 0, 1) := by decide +kernel
theorem d3_13 : decode prog_107_method_2_code 13 = .ok (.getfield 7, 3) := by decide +kernel
theorem d3_16 : decode prog_107_method_2_code 16 = .ok (.lstore_n 1, 1) := by decide +kernel
theorem d3_17 : decode prog_107_method_2_code 17 = .ok (.lload_n 1, 1) := by decide +kernel
theorem d3_18 : decode prog_107_method_2_code 18 = .ok (.lload_n 1, 1) := by decide +kernel
theorem d3_19 : decode prog_107_method_2_code 19 = .ok (.bipush 30, 2) := by decide +kernel
theorem d3_21 : decode prog_107_method_2_code 21 = .ok (.lushr, 1) := by decide +kernel
theorem d3_22 : decode prog_107_method_2_code 22 = .ok (.lxor, 1) := by decide +kernel
theorem d3_23 : decode prog_107_method_2_code 23 = .ok (.ldc2_w 15, 3) := by decide +kernel
theorem d3_26 : decode prog_107_method_2_code 26 = .ok (.lmul, 1) := by decide +kernel
theorem d3_27 : decode prog_107_method_2_code 27 = .ok (.lstore_n 1, 1) := by decide +kernel
theorem d3_28 : decode prog_107_method_2_code 28 = .ok (.lload_n 1, 1) := by decide +kernel
theorem d3_29 : decode prog_107_method_2_code 29 = .ok (.lload_n 1, 1) := by decide +kernel
theorem d3_30 : decode prog_107_method_2_code 30 = .ok (.bipush 27, 2) := by decide +kernel
theorem d3_32 : decode prog_107_method_2_code 32 = .ok (.lushr, 1) := by decide +kernel
theorem d3_33 : decode prog_107_method_2_code 33 = .ok (.lxor, 1) := by decide +kernel
theorem d3_34 : decode prog_107_method_2_code 34 = .ok (.ldc2_w 17, 3) := by decide +kernel
theorem d3_37 : decode prog_107_method_2_code 37 = .ok (.lmul, 1) := by decide +kernel
theorem d3_38 : decode prog_107_method_2_code 38 = .ok (.lstore_n 1, 1) := by decide +kernel
theorem d3_39 : decode prog_107_method_2_code 39 = .ok (.lload_n 1, 1) := by decide +kernel
theorem d3_40 : decode prog_107_method_2_code 40 = .ok (.lload_n 1, 1) := by decide +kernel
theorem d3_41 : decode prog_107_method_2_code 41 = .ok (.bipush 31, 2) := by decide +kernel
theorem d3_43 : decode prog_107_method_2_code 43 = .ok (.lushr, 1) := by decide +kernel
theorem d3_44 : decode prog_107_method_2_code 44 = .ok (.lxor, 1) := by decide +kernel
theorem d3_45 : decode prog_107_method_2_code 45 = .ok (.lreturn, 1) := by decide +kernel
theorem pn_3 : plainFor (⟨"com/example/violetear/violetear/replay/SeededRandom", "nextLong", "()J"⟩ : MethodName) = true := plainFor_of_name (by first | (simp [plainName, overriddenIn]; done) | decide +kernel)
theorem ef_con3 (m : MethodId) (a1 : Addr) : entryFrame m #[(.ref a1)] 3 = mkF m 0 #[.val (.ref a1), .unset, .unset] [] := by first | (simp [entryFrame, mkF, argsToLocals, Value.category]; done) | rfl
set_option maxRecDepth 65536 in
set_option maxHeartbeats 4000000 in
theorem con3 (l : Launch) (Z : State) (a0 : Array Value) (hw : ∀ d ∈ tables_1, d.before a0 Z = true) (a1 : Addr) (h0 : Heap) (n0 : Nat) (Z0 : n0 ≤ h0.size) (w2 : Int64) (E1 : Exa Z h0 a1 "com/example/violetear/violetear/replay/SeededRandom") (F1 : Fld Z h0 a1 "com/example/violetear/violetear/replay/SeededRandom" "state" "J" (.long w2)) (g_a1 : n0 ≤ a1) :
    own_Con l Z (⟨"com/example/violetear/violetear/replay/SeededRandom", "nextLong", "()J"⟩ : MethodName) prog_107_method_2_code 3 (some .long) ({ frames := 0, cells := 0, slots := 0, locals := 0 } : Room) #[(.ref a1)] h0 (fun v h L => v = some (.long (own_mix (w2 + (-7046029254386353131 : Int64)))) ∧ Fr n0 L ∧ Keep h0 h [a1] ∧ Exa Z h a1 "com/example/violetear/violetear/replay/SeededRandom" ∧ Fld Z h a1 "com/example/violetear/violetear/replay/SeededRandom" "state" "J" (.long (w2 + (-7046029254386353131 : Int64)))) := by
  refine own_Con_of pn_3 ?_
  intro p e s m below meth c s₁ X0 hx hby hml hret hlk hnm hown hZ e0
  have hown : s.vm.findClass "com/example/violetear/violetear/replay/SeededRandom" = some m.cls := hown
  have hml : c.maxLocals = 3 := hml
  have N0 := Fr.nil n0
  show own_WP _ _ _ _ _ _ _ (s₁.setTop (entryFrame m #[(.ref a1)] 3))
  rw [ef_con3 m a1]
  refine own_aloadN (pc' := 1) X0 hx (hb hby d3_0) rfl rfl rfl ?_
  refine own_dup (pc' := 2) X0 hx (hb hby d3_1) rfl rfl ?_
  refine own_getF (pc' := 5) X0 hx hZ hown (host := "") (Or.inl (own_w hw 10 rfl)) Via.refl e0 F1 (hb hby d3_2) rfl ?_
  intro T1 X1 e1
  refine own_ldc2Long (pc' := 8) X1 hx hZ hown (own_w hw 17 rfl) (hb hby d3_5) rfl ?_
  refine own_ladd (pc' := 9) X1 hx (hb hby d3_8) rfl ?_
  obtain ⟨v3, hv3⟩ : ∃ z : Int64, z = (w2 + (-7046029254386353131 : Int64)) := ⟨_, rfl⟩
  rw [← hv3]
  refine own_putF (pc' := 12) X1 hx hZ hown (host := "") (Or.inl (own_w hw 10 rfl)) Via.refl e1 F1 E1 (Or.inl (own_w hw 11 rfl)) (own_w hw 2 rfl) (ty := .long) (by decide) rfl rfl (hb hby d3_9) rfl ?_
  intro T2 h2 X2 e2 W2
  have z2 : n0 ≤ h2.size := Nat.le_trans Z0 (Keep.of_wr W2).1
  have F2 := F1.same W2
  have N2 := Fr.snoc X2 N0 g_a1
  have K2 : Keep h0 h2 [a1] := (Keep.refl h0 [a1]).wr W2 (Or.inl (List.mem_of_getElem? (i := 0) rfl))
  refine own_aloadN (pc' := 13) X2 hx (hb hby d3_12) rfl rfl rfl ?_
  refine own_getF (pc' := 16) X2 hx hZ hown (host := "") (Or.inl (own_w hw 10 rfl)) Via.refl e2 F2 (hb hby d3_13) rfl ?_
  intro T4 X4 e4
  refine own_lstoreN (pc' := 17) (l' := #[.val (.ref a1), .val (.long v3), .second]) X4 hx (hb hby d3_16) rfl rfl rfl ?_
  refine own_lloadN (pc' := 18) X4 hx (hb hby d3_17) rfl rfl ?_
  refine own_lloadN (pc' := 19) X4 hx (hb hby d3_18) rfl rfl ?_
  refine own_bipush (pc' := 21) X4 hx (30 : Int32) (hb hby d3_19) rfl rfl ?_
  refine own_lushr (pc' := 22) X4 hx (hb hby d3_21) rfl ?_
  refine own_lxor (pc' := 23) X4 hx (hb hby d3_22) rfl ?_
  refine own_ldc2Long (pc' := 26) X4 hx hZ hown (own_w hw 18 rfl) (hb hby d3_23) rfl ?_
  refine own_lmul (pc' := 27) X4 hx (hb hby d3_26) rfl ?_
  obtain ⟨v5, hv5⟩ : ∃ z : Int64, z = ((v3 ^^^ ((v3.toUInt64 >>> ((30 : Int32) &&& 0x3f).toInt64.toUInt64).toInt64)) * (-4658895280553007687 : Int64)) := ⟨_, rfl⟩
  refine own_lstoreN (pc' := 28) (l' := #[.val (.ref a1), .val (.long v5), .second]) X4 hx (hb hby d3_27) hv5 rfl rfl ?_
  refine own_lloadN (pc' := 29) X4 hx (hb hby d3_28) rfl rfl ?_
  refine own_lloadN (pc' := 30) X4 hx (hb hby d3_29) rfl rfl ?_
  refine own_bipush (pc' := 32) X4 hx (27 : Int32) (hb hby d3_30) rfl rfl ?_
  refine own_lushr (pc' := 33) X4 hx (hb hby d3_32) rfl ?_
  refine own_lxor (pc' := 34) X4 hx (hb hby d3_33) rfl ?_
  refine own_ldc2Long (pc' := 37) X4 hx hZ hown (own_w hw 19 rfl) (hb hby d3_34) rfl ?_
  refine own_lmul (pc' := 38) X4 hx (hb hby d3_37) rfl ?_
  obtain ⟨v6, hv6⟩ : ∃ z : Int64, z = ((v5 ^^^ ((v5.toUInt64 >>> ((27 : Int32) &&& 0x3f).toInt64.toUInt64).toInt64)) * (-7723592293110705685 : Int64)) := ⟨_, rfl⟩
  refine own_lstoreN (pc' := 39) (l' := #[.val (.ref a1), .val (.long v6), .second]) X4 hx (hb hby d3_38) hv6 rfl rfl ?_
  refine own_lloadN (pc' := 40) X4 hx (hb hby d3_39) rfl rfl ?_
  refine own_lloadN (pc' := 41) X4 hx (hb hby d3_40) rfl rfl ?_
  refine own_bipush (pc' := 43) X4 hx (31 : Int32) (hb hby d3_41) rfl rfl ?_
  refine own_lushr (pc' := 44) X4 hx (hb hby d3_43) rfl ?_
  refine own_lxor (pc' := 45) X4 hx (hb hby d3_44) rfl ?_
  have f7 := (E1.wr W2)
  refine own_retJ X4 hx hlk hret (hb hby d3_45) (by decide) (by decide) ?_
  rw [e4]
  refine ⟨?_, N2, K2, f7, ?_⟩
  · subst_vars; rfl
  · subst_vars; exact F2
theorem pn_0 : plainFor x = true := plainFor_of_name (by first | (simp [plainName, overriddenIn]; done) | decide +kernel)
theorem ef_con0 (m : MethodId) (p0 : Int64) (p1 : Int64) : entryFrame m #[(.long p0), (.long p1)] 25 = mkF m 0 #[.val (.long p0), .second, .val (.long p1), .second, .unset, .unset, .unset, .unset, .unset, .unset, .unset, .unset, .unset, .unset, .unset, .unset, .unset, .unset, .unset, .unset, .unset, .unset, .unset, .unset, .unset] [] := by first | (simp [entryFrame, mkF, argsToLocals, Value.category]; done) | rfl
theorem pd0 : parseMethodDescriptor "(J)V" = some ⟨[.long], none⟩ := by decide +kernel
theorem pd1 : parseMethodDescriptor "()J" = some ⟨[], some .long⟩ := by decide +kernel
set_option maxRecDepth 65536 in
set_option maxHeartbeats 4000000 in
theorem con0 (l : Launch) (Z : State) (a0 : Array Value) (hw : ∀ d ∈ tables_1, d.before a0 Z = true) (p0 : Int64) (p1 : Int64) (h0 : Heap) (n0 : Nat) (Z0 : n0 ≤ h0.size) :
    own_Con l Z x code maxLocals ret room_1 #[(.long p0), (.long p1)] h0 (fun v h L => v = some (.int 1) ∧ Fr n0 L) := by
  refine own_Con_of pn_0 ?_
  intro p e s m below meth c s₁ X0 hx hby hml hret hlk hnm hown hZ e0
  have hown : s.vm.findClass "com/example/violetear/violetear/replay/SeededRandomNextLongPinLaw" = some m.cls := hown
  have hml : c.maxLocals = 25 := hml
  have hret : meth.sig.returnType = (some .boolean) := hret
  have N0 := Fr.nil n0
  show own_WP _ _ _ _ _ _ _ (s₁.setTop (entryFrame m #[(.long p0), (.long p1)] 25))
  rw [ef_con0 m p0 p1]
  refine own_ldc2Long (pc' := 3) X0 hx hZ hown (own_w hw 0 rfl) (hb hby at_0) rfl ?_
  refine own_lstore (pc' := 5) (l' := #[.val (.long p0), .second, .val (.long p1), .second, .val (.long (-7046029254386353131 : Int64)), .second, .unset, .unset, .unset, .unset, .unset, .unset, .unset, .unset, .unset, .unset, .unset, .unset, .unset, .unset, .unset, .unset, .unset, .unset, .unset]) X0 hx (hb hby at_3) rfl rfl rfl ?_
  refine own_new (pc' := 8) X0 hx hZ hown (own_w hw 1 rfl) (own_w hw 2 rfl) (own_w hw 3 rfl) e0 (hb hby at_5) (by decide) (by decide) rfl ?_
  intro T1 h1 b1 g1 X1 e1 E1 A1 D1
  have g_b1 : n0 ≤ b1 := Nat.le_trans Z0 (Nat.le_of_eq g1.symm)
  have z1 : n0 ≤ h1.size := Nat.le_trans Z0 E1.1
  have F1_state : Fld Z h1 b1 "com/example/violetear/violetear/replay/SeededRandom" "state" "J" (.long (0 : Int64)) := D1 (Or.inl (own_w hw 11 rfl)) (ty := .long) (by decide)
  refine own_dup (pc' := 9) X1 hx (hb hby at_8) rfl rfl ?_
  refine own_lloadN (pc' := 10) X1 hx (hb hby at_9) rfl rfl ?_
  refine own_callN (pc' := 13) (W := 1) (y := (⟨"com/example/violetear/violetear/replay/SeededRandom", "<init>", "(J)V"⟩ : MethodName)) X1 hx hZ rfl hown (own_w hw 4 rfl) (own_w hw 5 rfl) (own_w hw 3 rfl) (own_w hw 6 rfl) (by decide) (con1 l Z a0 hw b1 p0 _ n0 z1 A1 F1_state g_b1) e1 pd0 b1 [(.long p0)] [(.ref b1)] rfl rfl rfl (Nat.le_of_eq rfl) (by decide) (by decide) (by rw [hml]; rfl) (hb hby at_10) (by decide) (by decide) rfl ?_
  intro v2 T2 L2 X2 q2
  obtain ⟨rfl, M2, K2, E2q, F2q⟩ := q2
  obtain ⟨h2, e2⟩ : ∃ z, z = T2.heap := ⟨_, rfl⟩
  rw [← e2] at K2 E2q F2q
  have e2 := e2.symm
  have z2 : n0 ≤ h2.size := Nat.le_trans z1 K2.1
  have N2 := Fr.app N0 M2
  show own_WP _ _ _ _ _ _ _ (T2.setTop (mkF m 13 #[.val (.long p0), .second, .val (.long p1), .second, .val (.long (-7046029254386353131 : Int64)), .second, .unset, .unset, .unset, .unset, .unset, .unset, .unset, .unset, .unset, .unset, .unset, .unset, .unset, .unset, .unset, .unset, .unset, .unset, .unset] [(.ref b1)]))
  refine own_astore (pc' := 15) (l' := #[.val (.long p0), .second, .val (.long p1), .second, .val (.long (-7046029254386353131 : Int64)), .second, .val (.ref b1), .unset, .unset, .unset, .unset, .unset, .unset, .unset, .unset, .unset, .unset, .unset, .unset, .unset, .unset, .unset, .unset, .unset, .unset]) X2 hx (hb hby at_13) rfl rfl rfl ?_
  refine own_new (pc' := 18) X2 hx hZ hown (own_w hw 1 rfl) (own_w hw 2 rfl) (own_w hw 3 rfl) e2 (hb hby at_15) (by decide) (by decide) rfl ?_
  intro T3 h3 b3 g3 X3 e3 E3 A3 D3
  have ne_b1_b3 : b1 ≠ b3 := Nat.ne_of_lt (Nat.lt_of_lt_of_le E2q.lt (Nat.le_of_eq g3.symm))
  have ne_b3_b1 := ne_b1_b3.symm
  have g_b3 : n0 ≤ b3 := Nat.le_trans z2 (Nat.le_of_eq g3.symm)
  have z3 : n0 ≤ h3.size := Nat.le_trans z2 E3.1
  have F3_state : Fld Z h3 b3 "com/example/violetear/violetear/replay/SeededRandom" "state" "J" (.long (0 : Int64)) := D3 (Or.inl (own_w hw 11 rfl)) (ty := .long) (by decide)
  refine own_dup (pc' := 19) X3 hx (hb hby at_18) rfl rfl ?_
  refine own_lloadN (pc' := 20) X3 hx (hb hby at_19) rfl rfl ?_
  refine own_lload (pc' := 22) X3 hx (hb hby at_20) rfl rfl ?_
  refine own_ladd (pc' := 23) X3 hx (hb hby at_22) rfl ?_
  refine own_callN (pc' := 26) (W := 1) (y := (⟨"com/example/violetear/violetear/replay/SeededRandom", "<init>", "(J)V"⟩ : MethodName)) X3 hx hZ rfl hown (own_w hw 4 rfl) (own_w hw 5 rfl) (own_w hw 3 rfl) (own_w hw 6 rfl) (by decide) (con1 l Z a0 hw b3 (p0 + (-7046029254386353131 : Int64)) _ n0 z3 A3 F3_state g_b3) e3 pd0 b3 [(.long (p0 + (-7046029254386353131 : Int64)))] [(.ref b3)] rfl rfl rfl (Nat.le_of_eq rfl) (by decide) (by decide) (by rw [hml]; rfl) (hb hby at_23) (by decide) (by decide) rfl ?_
  intro v4 T4 L4 X4 q4
  obtain ⟨rfl, M4, K4, E4q, F4q⟩ := q4
  obtain ⟨h4, e4⟩ : ∃ z, z = T4.heap := ⟨_, rfl⟩
  rw [← e4] at K4 E4q F4q
  have e4 := e4.symm
  have z4 : n0 ≤ h4.size := Nat.le_trans z3 K4.1
  have N4 := Fr.app N2 M4
  show own_WP _ _ _ _ _ _ _ (T4.setTop (mkF m 26 #[.val (.long p0), .second, .val (.long p1), .second, .val (.long (-7046029254386353131 : Int64)), .second, .val (.ref b1), .unset, .unset, .unset, .unset, .unset, .unset, .unset, .unset, .unset, .unset, .unset, .unset, .unset, .unset, .unset, .unset, .unset, .unset] [(.ref b3)]))
  refine own_astore (pc' := 28) (l' := #[.val (.long p0), .second, .val (.long p1), .second, .val (.long (-7046029254386353131 : Int64)), .second, .val (.ref b1), .val (.ref b3), .unset, .unset, .unset, .unset, .unset, .unset, .unset, .unset, .unset, .unset, .unset, .unset, .unset, .unset, .unset, .unset, .unset]) X4 hx (hb hby at_26) rfl rfl rfl ?_
  refine own_new (pc' := 31) X4 hx hZ hown (own_w hw 1 rfl) (own_w hw 2 rfl) (own_w hw 3 rfl) e4 (hb hby at_28) (by decide) (by decide) rfl ?_
  intro T5 h5 b5 g5 X5 e5 E5 A5 D5
  have f6 := ((E2q.ext E3).keep K4)
  have ne_b1_b5 : b1 ≠ b5 := Nat.ne_of_lt (Nat.lt_of_lt_of_le f6.lt (Nat.le_of_eq g5.symm))
  have ne_b5_b1 := ne_b1_b5.symm
  have ne_b3_b5 : b3 ≠ b5 := Nat.ne_of_lt (Nat.lt_of_lt_of_le E4q.lt (Nat.le_of_eq g5.symm))
  have ne_b5_b3 := ne_b3_b5.symm
  have g_b5 : n0 ≤ b5 := Nat.le_trans z4 (Nat.le_of_eq g5.symm)
  have z5 : n0 ≤ h5.size := Nat.le_trans z4 E5.1
  have F5_state : Fld Z h5 b5 "com/example/violetear/violetear/replay/SeededRandom" "state" "J" (.long (0 : Int64)) := D5 (Or.inl (own_w hw 11 rfl)) (ty := .long) (by decide)
  refine own_dup (pc' := 32) X5 hx (hb hby at_31) rfl rfl ?_
  refine own_lloadN (pc' := 33) X5 hx (hb hby at_32) rfl rfl ?_
  refine own_callN (pc' := 36) (W := 1) (y := (⟨"com/example/violetear/violetear/replay/SeededRandom", "<init>", "(J)V"⟩ : MethodName)) X5 hx hZ rfl hown (own_w hw 4 rfl) (own_w hw 5 rfl) (own_w hw 3 rfl) (own_w hw 6 rfl) (by decide) (con1 l Z a0 hw b5 p1 _ n0 z5 A5 F5_state g_b5) e5 pd0 b5 [(.long p1)] [(.ref b5)] rfl rfl rfl (Nat.le_of_eq rfl) (by decide) (by decide) (by rw [hml]; rfl) (hb hby at_33) (by decide) (by decide) rfl ?_
  intro v7 T7 L7 X7 q7
  obtain ⟨rfl, M7, K7, E7q, F7q⟩ := q7
  obtain ⟨h7, e7⟩ : ∃ z, z = T7.heap := ⟨_, rfl⟩
  rw [← e7] at K7 E7q F7q
  have e7 := e7.symm
  have z7 : n0 ≤ h7.size := Nat.le_trans z5 K7.1
  have N7 := Fr.app N4 M7
  show own_WP _ _ _ _ _ _ _ (T7.setTop (mkF m 36 #[.val (.long p0), .second, .val (.long p1), .second, .val (.long (-7046029254386353131 : Int64)), .second, .val (.ref b1), .val (.ref b3), .unset, .unset, .unset, .unset, .unset, .unset, .unset, .unset, .unset, .unset, .unset, .unset, .unset, .unset, .unset, .unset, .unset] [(.ref b5)]))
  refine own_astore (pc' := 38) (l' := #[.val (.long p0), .second, .val (.long p1), .second, .val (.long (-7046029254386353131 : Int64)), .second, .val (.ref b1), .val (.ref b3), .val (.ref b5), .unset, .unset, .unset, .unset, .unset, .unset, .unset, .unset, .unset, .unset, .unset, .unset, .unset, .unset, .unset, .unset]) X7 hx (hb hby at_36) rfl rfl rfl ?_
  refine own_new (pc' := 41) X7 hx hZ hown (own_w hw 1 rfl) (own_w hw 2 rfl) (own_w hw 3 rfl) e7 (hb hby at_38) (by decide) (by decide) rfl ?_
  intro T8 h8 b8 g8 X8 e8 E8 A8 D8
  have f9 := ((f6.ext E5).keep K7)
  have ne_b1_b8 : b1 ≠ b8 := Nat.ne_of_lt (Nat.lt_of_lt_of_le f9.lt (Nat.le_of_eq g8.symm))
  have ne_b8_b1 := ne_b1_b8.symm
  have f10 := ((E4q.ext E5).keep K7)
  have ne_b3_b8 : b3 ≠ b8 := Nat.ne_of_lt (Nat.lt_of_lt_of_le f10.lt (Nat.le_of_eq g8.symm))
  have ne_b8_b3 := ne_b3_b8.symm
  have ne_b5_b8 : b5 ≠ b8 := Nat.ne_of_lt (Nat.lt_of_lt_of_le E7q.lt (Nat.le_of_eq g8.symm))
  have ne_b8_b5 := ne_b5_b8.symm
  have g_b8 : n0 ≤ b8 := Nat.le_trans z7 (Nat.le_of_eq g8.symm)
  have z8 : n0 ≤ h8.size := Nat.le_trans z7 E8.1
  have F8_state : Fld Z h8 b8 "com/example/violetear/violetear/replay/SeededRandom" "state" "J" (.long (0 : Int64)) := D8 (Or.inl (own_w hw 11 rfl)) (ty := .long) (by decide)
  refine own_dup (pc' := 42) X8 hx (hb hby at_41) rfl rfl ?_
  refine own_lconst0 (pc' := 43) X8 hx (hb hby at_42) rfl ?_
  refine own_callN (pc' := 46) (W := 1) (y := (⟨"com/example/violetear/violetear/replay/SeededRandom", "<init>", "(J)V"⟩ : MethodName)) X8 hx hZ rfl hown (own_w hw 4 rfl) (own_w hw 5 rfl) (own_w hw 3 rfl) (own_w hw 6 rfl) (by decide) (con1 l Z a0 hw b8 (0 : Int64) _ n0 z8 A8 F8_state g_b8) e8 pd0 b8 [(.long (0 : Int64))] [(.ref b8)] rfl rfl rfl (Nat.le_of_eq rfl) (by decide) (by decide) (by rw [hml]; rfl) (hb hby at_43) (by decide) (by decide) rfl ?_
  intro v11 T11 L11 X11 q11
  obtain ⟨rfl, M11, K11, E11q, F11q⟩ := q11
  obtain ⟨h11, e11⟩ : ∃ z, z = T11.heap := ⟨_, rfl⟩
  rw [← e11] at K11 E11q F11q
  have e11 := e11.symm
  have z11 : n0 ≤ h11.size := Nat.le_trans z8 K11.1
  have N11 := Fr.app N7 M11
  show own_WP _ _ _ _ _ _ _ (T11.setTop (mkF m 46 #[.val (.long p0), .second, .val (.long p1), .second, .val (.long (-7046029254386353131 : Int64)), .second, .val (.ref b1), .val (.ref b3), .val (.ref b5), .unset, .unset, .unset, .unset, .unset, .unset, .unset, .unset, .unset, .unset, .unset, .unset, .unset, .unset, .unset, .unset] [(.ref b8)]))
  refine own_astore (pc' := 48) (l' := #[.val (.long p0), .second, .val (.long p1), .second, .val (.long (-7046029254386353131 : Int64)), .second, .val (.ref b1), .val (.ref b3), .val (.ref b5), .val (.ref b8), .unset, .unset, .unset, .unset, .unset, .unset, .unset, .unset, .unset, .unset, .unset, .unset, .unset, .unset, .unset]) X11 hx (hb hby at_46) rfl rfl rfl ?_
  refine own_aload (pc' := 50) X11 hx (hb hby at_48) rfl rfl rfl ?_
  have f13 := ((((((F2q.ext E3).keep K4 (ninS ne_b1_b3 nin0)).ext E5).keep K7 (ninS ne_b1_b5 nin0)).ext E8).keep K11 (ninS ne_b1_b8 nin0))
  have f14 := ((f9.ext E8).keep K11)
  refine own_callV (pc' := 53) (W := 0) (y := (⟨"com/example/violetear/violetear/replay/SeededRandom", "nextLong", "()J"⟩ : MethodName)) (z := (⟨"com/example/violetear/violetear/replay/SeededRandom", "nextLong", "()J"⟩ : MethodName)) X11 hx hZ hown (own_w hw 12 rfl) (own_w hw 13 rfl) (notFace_of_selects (args := #[]) (mvT hZ (own_w hw 15 rfl))) (own_w hw 15 rfl) (own_w hw 14 rfl) (own_w hw 3 rfl) (own_w hw 16 rfl) (by decide) f14 (con3 l Z a0 hw b1 _ n0 z11 p0 f14 f13 g_b1) e11 pd1 [] [] rfl rfl rfl (Nat.le_of_eq rfl) (by decide) (by decide) (by rw [hml]; rfl) (hb hby at_50) (by decide) (by decide) rfl ?_
  intro v12 T12 L12 X12 q12
  obtain ⟨rfl, M12, K12, E12q, F12q⟩ := q12
  obtain ⟨h12, e12⟩ : ∃ z, z = T12.heap := ⟨_, rfl⟩
  rw [← e12] at K12 E12q F12q
  have e12 := e12.symm
  have z12 : n0 ≤ h12.size := Nat.le_trans z11 K12.1
  have N12 := Fr.app N11 M12
  show own_WP _ _ _ _ _ _ _ (T12.setTop (mkF m 53 #[.val (.long p0), .second, .val (.long p1), .second, .val (.long (-7046029254386353131 : Int64)), .second, .val (.ref b1), .val (.ref b3), .val (.ref b5), .val (.ref b8), .unset, .unset, .unset, .unset, .unset, .unset, .unset, .unset, .unset, .unset, .unset, .unset, .unset, .unset, .unset] [(.long (own_mix (p0 + (-7046029254386353131 : Int64))))]))
  obtain ⟨v15, hv15⟩ : ∃ z : Int64, z = (own_mix (p0 + (-7046029254386353131 : Int64))) := ⟨_, rfl⟩
  refine own_lstore (pc' := 55) (l' := #[.val (.long p0), .second, .val (.long p1), .second, .val (.long (-7046029254386353131 : Int64)), .second, .val (.ref b1), .val (.ref b3), .val (.ref b5), .val (.ref b8), .val (.long v15), .second, .unset, .unset, .unset, .unset, .unset, .unset, .unset, .unset, .unset, .unset, .unset, .unset, .unset]) X12 hx (hb hby at_53) hv15 rfl rfl ?_
  refine own_aload (pc' := 57) X12 hx (hb hby at_55) rfl rfl rfl ?_
  refine own_callV (pc' := 60) (W := 0) (y := (⟨"com/example/violetear/violetear/replay/SeededRandom", "nextLong", "()J"⟩ : MethodName)) (z := (⟨"com/example/violetear/violetear/replay/SeededRandom", "nextLong", "()J"⟩ : MethodName)) X12 hx hZ hown (own_w hw 12 rfl) (own_w hw 13 rfl) (notFace_of_selects (args := #[]) (mvT hZ (own_w hw 15 rfl))) (own_w hw 15 rfl) (own_w hw 14 rfl) (own_w hw 3 rfl) (own_w hw 16 rfl) (by decide) E12q (con3 l Z a0 hw b1 _ n0 z12 (p0 + (-7046029254386353131 : Int64)) E12q F12q g_b1) e12 pd1 [] [] rfl rfl rfl (Nat.le_of_eq rfl) (by decide) (by decide) (by rw [hml]; rfl) (hb hby at_57) (by decide) (by decide) rfl ?_
  intro v16 T16 L16 X16 q16
  obtain ⟨rfl, M16, K16, E16q, F16q⟩ := q16
  obtain ⟨h16, e16⟩ : ∃ z, z = T16.heap := ⟨_, rfl⟩
  rw [← e16] at K16 E16q F16q
  have e16 := e16.symm
  have z16 : n0 ≤ h16.size := Nat.le_trans z12 K16.1
  have N16 := Fr.app N12 M16
  show own_WP _ _ _ _ _ _ _ (T16.setTop (mkF m 60 #[.val (.long p0), .second, .val (.long p1), .second, .val (.long (-7046029254386353131 : Int64)), .second, .val (.ref b1), .val (.ref b3), .val (.ref b5), .val (.ref b8), .val (.long v15), .second, .unset, .unset, .unset, .unset, .unset, .unset, .unset, .unset, .unset, .unset, .unset, .unset, .unset] [(.long (own_mix ((p0 + (-7046029254386353131 : Int64)) + (-7046029254386353131 : Int64))))]))
  obtain ⟨v17, hv17⟩ : ∃ z : Int64, z = (own_mix ((p0 + (-7046029254386353131 : Int64)) + (-7046029254386353131 : Int64))) := ⟨_, rfl⟩
  refine own_lstore (pc' := 62) (l' := #[.val (.long p0), .second, .val (.long p1), .second, .val (.long (-7046029254386353131 : Int64)), .second, .val (.ref b1), .val (.ref b3), .val (.ref b5), .val (.ref b8), .val (.long v15), .second, .val (.long v17), .second, .unset, .unset, .unset, .unset, .unset, .unset, .unset, .unset, .unset, .unset, .unset]) X16 hx (hb hby at_60) hv17 rfl rfl ?_
  refine own_aload (pc' := 64) X16 hx (hb hby at_62) rfl rfl rfl ?_
  have f19 := ((((((F4q.ext E5).keep K7 (ninS ne_b3_b5 nin0)).ext E8).keep K11 (ninS ne_b3_b8 nin0)).keep K12 (ninS ne_b3_b1 nin0)).keep K16 (ninS ne_b3_b1 nin0))
  have f20 := ((((f10.ext E8).keep K11).keep K12).keep K16)
  refine own_callV (pc' := 67) (W := 0) (y := (⟨"com/example/violetear/violetear/replay/SeededRandom", "nextLong", "()J"⟩ : MethodName)) (z := (⟨"com/example/violetear/violetear/replay/SeededRandom", "nextLong", "()J"⟩ : MethodName)) X16 hx hZ hown (own_w hw 12 rfl) (own_w hw 13 rfl) (notFace_of_selects (args := #[]) (mvT hZ (own_w hw 15 rfl))) (own_w hw 15 rfl) (own_w hw 14 rfl) (own_w hw 3 rfl) (own_w hw 16 rfl) (by decide) f20 (con3 l Z a0 hw b3 _ n0 z16 (p0 + (-7046029254386353131 : Int64)) f20 f19 g_b3) e16 pd1 [] [] rfl rfl rfl (Nat.le_of_eq rfl) (by decide) (by decide) (by rw [hml]; rfl) (hb hby at_64) (by decide) (by decide) rfl ?_
  intro v18 T18 L18 X18 q18
  obtain ⟨rfl, M18, K18, E18q, F18q⟩ := q18
  obtain ⟨h18, e18⟩ : ∃ z, z = T18.heap := ⟨_, rfl⟩
  rw [← e18] at K18 E18q F18q
  have e18 := e18.symm
  have z18 : n0 ≤ h18.size := Nat.le_trans z16 K18.1
  have N18 := Fr.app N16 M18
  show own_WP _ _ _ _ _ _ _ (T18.setTop (mkF m 67 #[.val (.long p0), .second, .val (.long p1), .second, .val (.long (-7046029254386353131 : Int64)), .second, .val (.ref b1), .val (.ref b3), .val (.ref b5), .val (.ref b8), .val (.long v15), .second, .val (.long v17), .second, .unset, .unset, .unset, .unset, .unset, .unset, .unset, .unset, .unset, .unset, .unset] [(.long (own_mix ((p0 + (-7046029254386353131 : Int64)) + (-7046029254386353131 : Int64))))]))
  obtain ⟨v21, hv21⟩ : ∃ z : Int64, z = (own_mix ((p0 + (-7046029254386353131 : Int64)) + (-7046029254386353131 : Int64))) := ⟨_, rfl⟩
  refine own_lstore (pc' := 69) (l' := #[.val (.long p0), .second, .val (.long p1), .second, .val (.long (-7046029254386353131 : Int64)), .second, .val (.ref b1), .val (.ref b3), .val (.ref b5), .val (.ref b8), .val (.long v15), .second, .val (.long v17), .second, .val (.long v21), .second, .unset, .unset, .unset, .unset, .unset, .unset, .unset, .unset, .unset]) X18 hx (hb hby at_67) hv21 rfl rfl ?_
  refine own_aload (pc' := 71) X18 hx (hb hby at_69) rfl rfl rfl ?_
  have f23 := (((((F7q.ext E8).keep K11 (ninS ne_b5_b8 nin0)).keep K12 (ninS ne_b5_b1 nin0)).keep K16 (ninS ne_b5_b1 nin0)).keep K18 (ninS ne_b5_b3 nin0))
  have f24 := (((((E7q.ext E8).keep K11).keep K12).keep K16).keep K18)
  refine own_callV (pc' := 74) (W := 0) (y := (⟨"com/example/violetear/violetear/replay/SeededRandom", "nextLong", "()J"⟩ : MethodName)) (z := (⟨"com/example/violetear/violetear/replay/SeededRandom", "nextLong", "()J"⟩ : MethodName)) X18 hx hZ hown (own_w hw 12 rfl) (own_w hw 13 rfl) (notFace_of_selects (args := #[]) (mvT hZ (own_w hw 15 rfl))) (own_w hw 15 rfl) (own_w hw 14 rfl) (own_w hw 3 rfl) (own_w hw 16 rfl) (by decide) f24 (con3 l Z a0 hw b5 _ n0 z18 p1 f24 f23 g_b5) e18 pd1 [] [] rfl rfl rfl (Nat.le_of_eq rfl) (by decide) (by decide) (by rw [hml]; rfl) (hb hby at_71) (by decide) (by decide) rfl ?_
  intro v22 T22 L22 X22 q22
  obtain ⟨rfl, M22, K22, E22q, F22q⟩ := q22
  obtain ⟨h22, e22⟩ : ∃ z, z = T22.heap := ⟨_, rfl⟩
  rw [← e22] at K22 E22q F22q
  have e22 := e22.symm
  have z22 : n0 ≤ h22.size := Nat.le_trans z18 K22.1
  have N22 := Fr.app N18 M22
  show own_WP _ _ _ _ _ _ _ (T22.setTop (mkF m 74 #[.val (.long p0), .second, .val (.long p1), .second, .val (.long (-7046029254386353131 : Int64)), .second, .val (.ref b1), .val (.ref b3), .val (.ref b5), .val (.ref b8), .val (.long v15), .second, .val (.long v17), .second, .val (.long v21), .second, .unset, .unset, .unset, .unset, .unset, .unset, .unset, .unset, .unset] [(.long (own_mix (p1 + (-7046029254386353131 : Int64))))]))
  obtain ⟨v25, hv25⟩ : ∃ z : Int64, z = (own_mix (p1 + (-7046029254386353131 : Int64))) := ⟨_, rfl⟩
  refine own_lstore (pc' := 76) (l' := #[.val (.long p0), .second, .val (.long p1), .second, .val (.long (-7046029254386353131 : Int64)), .second, .val (.ref b1), .val (.ref b3), .val (.ref b5), .val (.ref b8), .val (.long v15), .second, .val (.long v17), .second, .val (.long v21), .second, .val (.long v25), .second, .unset, .unset, .unset, .unset, .unset, .unset, .unset]) X22 hx (hb hby at_74) hv25 rfl rfl ?_
  refine own_aload (pc' := 78) X22 hx (hb hby at_76) rfl rfl rfl ?_
  have f27 := ((((F11q.keep K12 (ninS ne_b8_b1 nin0)).keep K16 (ninS ne_b8_b1 nin0)).keep K18 (ninS ne_b8_b3 nin0)).keep K22 (ninS ne_b8_b5 nin0))
  have f28 := ((((E11q.keep K12).keep K16).keep K18).keep K22)
  refine own_callV (pc' := 81) (W := 0) (y := (⟨"com/example/violetear/violetear/replay/SeededRandom", "nextLong", "()J"⟩ : MethodName)) (z := (⟨"com/example/violetear/violetear/replay/SeededRandom", "nextLong", "()J"⟩ : MethodName)) X22 hx hZ hown (own_w hw 12 rfl) (own_w hw 13 rfl) (notFace_of_selects (args := #[]) (mvT hZ (own_w hw 15 rfl))) (own_w hw 15 rfl) (own_w hw 14 rfl) (own_w hw 3 rfl) (own_w hw 16 rfl) (by decide) f28 (con3 l Z a0 hw b8 _ n0 z22 (0 : Int64) f28 f27 g_b8) e22 pd1 [] [] rfl rfl rfl (Nat.le_of_eq rfl) (by decide) (by decide) (by rw [hml]; rfl) (hb hby at_78) (by decide) (by decide) rfl ?_
  intro v26 T26 L26 X26 q26
  obtain ⟨rfl, M26, K26, E26q, F26q⟩ := q26
  obtain ⟨h26, e26⟩ : ∃ z, z = T26.heap := ⟨_, rfl⟩
  rw [← e26] at K26 E26q F26q
  have e26 := e26.symm
  have z26 : n0 ≤ h26.size := Nat.le_trans z22 K26.1
  have N26 := Fr.app N22 M26
  show own_WP _ _ _ _ _ _ _ (T26.setTop (mkF m 81 #[.val (.long p0), .second, .val (.long p1), .second, .val (.long (-7046029254386353131 : Int64)), .second, .val (.ref b1), .val (.ref b3), .val (.ref b5), .val (.ref b8), .val (.long v15), .second, .val (.long v17), .second, .val (.long v21), .second, .val (.long v25), .second, .unset, .unset, .unset, .unset, .unset, .unset, .unset] [(.long (own_mix ((0 : Int64) + (-7046029254386353131 : Int64))))]))
  obtain ⟨v29, hv29⟩ : ∃ z : Int64, z = (own_mix ((0 : Int64) + (-7046029254386353131 : Int64))) := ⟨_, rfl⟩
  refine own_lstore (pc' := 83) (l' := #[.val (.long p0), .second, .val (.long p1), .second, .val (.long (-7046029254386353131 : Int64)), .second, .val (.ref b1), .val (.ref b3), .val (.ref b5), .val (.ref b8), .val (.long v15), .second, .val (.long v17), .second, .val (.long v21), .second, .val (.long v25), .second, .val (.long v29), .second, .unset, .unset, .unset, .unset, .unset]) X26 hx (hb hby at_81) hv29 rfl rfl ?_
  refine own_aload (pc' := 85) X26 hx (hb hby at_83) rfl rfl rfl ?_
  refine own_callV (pc' := 88) (W := 0) (y := (⟨"com/example/violetear/violetear/replay/SeededRandom", "nextLong", "()J"⟩ : MethodName)) (z := (⟨"com/example/violetear/violetear/replay/SeededRandom", "nextLong", "()J"⟩ : MethodName)) X26 hx hZ hown (own_w hw 12 rfl) (own_w hw 13 rfl) (notFace_of_selects (args := #[]) (mvT hZ (own_w hw 15 rfl))) (own_w hw 15 rfl) (own_w hw 14 rfl) (own_w hw 3 rfl) (own_w hw 16 rfl) (by decide) E26q (con3 l Z a0 hw b8 _ n0 z26 ((0 : Int64) + (-7046029254386353131 : Int64)) E26q F26q g_b8) e26 pd1 [] [] rfl rfl rfl (Nat.le_of_eq rfl) (by decide) (by decide) (by rw [hml]; rfl) (hb hby at_85) (by decide) (by decide) rfl ?_
  intro v30 T30 L30 X30 q30
  obtain ⟨rfl, M30, K30, E30q, F30q⟩ := q30
  obtain ⟨h30, e30⟩ : ∃ z, z = T30.heap := ⟨_, rfl⟩
  rw [← e30] at K30 E30q F30q
  have e30 := e30.symm
  have z30 : n0 ≤ h30.size := Nat.le_trans z26 K30.1
  have N30 := Fr.app N26 M30
  show own_WP _ _ _ _ _ _ _ (T30.setTop (mkF m 88 #[.val (.long p0), .second, .val (.long p1), .second, .val (.long (-7046029254386353131 : Int64)), .second, .val (.ref b1), .val (.ref b3), .val (.ref b5), .val (.ref b8), .val (.long v15), .second, .val (.long v17), .second, .val (.long v21), .second, .val (.long v25), .second, .val (.long v29), .second, .unset, .unset, .unset, .unset, .unset] [(.long (own_mix (((0 : Int64) + (-7046029254386353131 : Int64)) + (-7046029254386353131 : Int64))))]))
  obtain ⟨v31, hv31⟩ : ∃ z : Int64, z = (own_mix (((0 : Int64) + (-7046029254386353131 : Int64)) + (-7046029254386353131 : Int64))) := ⟨_, rfl⟩
  refine own_lstore (pc' := 90) (l' := #[.val (.long p0), .second, .val (.long p1), .second, .val (.long (-7046029254386353131 : Int64)), .second, .val (.ref b1), .val (.ref b3), .val (.ref b5), .val (.ref b8), .val (.long v15), .second, .val (.long v17), .second, .val (.long v21), .second, .val (.long v25), .second, .val (.long v29), .second, .val (.long v31), .second, .unset, .unset, .unset]) X30 hx (hb hby at_88) hv31 rfl rfl ?_
  refine own_lload (pc' := 92) X30 hx (hb hby at_90) rfl rfl ?_
  refine own_lload (pc' := 94) X30 hx (hb hby at_92) rfl rfl ?_
  refine own_lcmp (pc' := 95) X30 hx (hb hby at_94) rfl ?_
  refine own_ifl_ne (pt := 102) (pf := 98) X30 hx (hb hby at_95) rfl (by decide) rfl (fun hc95 => absurd (by subst_vars; rfl) hc95) (fun hc95 => ?_)
  refine own_iconst (pc' := 99) X30 hx (1 : Int32) (hb hby at_98) rfl rfl ?_
  refine own_goto (pc' := 103) X30 hx (hb hby at_99) (by decide) rfl ?_
  refine own_istore (pc' := 105) (l' := #[.val (.long p0), .second, .val (.long p1), .second, .val (.long (-7046029254386353131 : Int64)), .second, .val (.ref b1), .val (.ref b3), .val (.ref b5), .val (.ref b8), .val (.long v15), .second, .val (.long v17), .second, .val (.long v21), .second, .val (.long v25), .second, .val (.long v29), .second, .val (.long v31), .second, .val (.int (1 : Int32)), .unset, .unset]) X30 hx (hb hby at_103) rfl rfl rfl ?_
  refine own_lload (pc' := 107) X30 hx (hb hby at_105) rfl rfl ?_
  refine own_lload (pc' := 109) X30 hx (hb hby at_107) rfl rfl ?_
  refine own_lcmp (pc' := 110) X30 hx (hb hby at_109) rfl ?_
  refine own_ifl_ne (pt := 117) (pf := 113) X30 hx (hb hby at_110) rfl (by decide) rfl (fun hc110 => ?_) (fun hc110 => ?_)
  · skip
    refine own_iconst (pc' := 118) X30 hx (0 : Int32) (hb hby at_117) rfl rfl ?_
    refine own_lloadN (pc' := 119) X30 hx (hb hby at_118) rfl rfl ?_
    refine own_lloadN (pc' := 120) X30 hx (hb hby at_119) rfl rfl ?_
    refine own_lcmp (pc' := 121) X30 hx (hb hby at_120) rfl ?_
    refine own_ifl_ne (pt := 128) (pf := 124) X30 hx (hb hby at_121) rfl (by decide) rfl (fun hc121 => ?_) (fun hc121 => absurd hc121 (fun q => hc110 (by subst_vars; rfl)))
    refine own_iconst (pc' := 129) X30 hx (0 : Int32) (hb hby at_128) rfl rfl ?_
    refine own_icmp_ne (pt := 136) (pf := 132) X30 hx (hb hby at_129) rfl (by decide) rfl (fun hc129 => absurd (by decide) hc129) (fun hc129 => ?_)
    refine own_iconst (pc' := 133) X30 hx (1 : Int32) (hb hby at_132) rfl rfl ?_
    refine own_goto (pc' := 137) X30 hx (hb hby at_133) (by decide) rfl ?_
    refine own_istore (pc' := 139) (l' := #[.val (.long p0), .second, .val (.long p1), .second, .val (.long (-7046029254386353131 : Int64)), .second, .val (.ref b1), .val (.ref b3), .val (.ref b5), .val (.ref b8), .val (.long v15), .second, .val (.long v17), .second, .val (.long v21), .second, .val (.long v25), .second, .val (.long v29), .second, .val (.long v31), .second, .val (.int (1 : Int32)), .val (.int (1 : Int32)), .unset]) X30 hx (hb hby at_137) rfl rfl rfl ?_
    refine own_lload (pc' := 141) X30 hx (hb hby at_139) rfl rfl ?_
    refine own_ldc2Long (pc' := 144) X30 hx hZ hown (own_w hw 20 rfl) (hb hby at_141) rfl ?_
    refine own_lcmp (pc' := 145) X30 hx (hb hby at_144) rfl ?_
    refine own_ifl_ne (pt := 161) (pf := 148) X30 hx (hb hby at_145) rfl (by decide) rfl (fun hc145 => absurd (by subst_vars; decide +kernel) hc145) (fun hc145 => ?_)
    refine own_lload (pc' := 150) X30 hx (hb hby at_148) rfl rfl ?_
    refine own_ldc2Long (pc' := 153) X30 hx hZ hown (own_w hw 21 rfl) (hb hby at_150) rfl ?_
    refine own_lcmp (pc' := 154) X30 hx (hb hby at_153) rfl ?_
    refine own_ifl_ne (pt := 161) (pf := 157) X30 hx (hb hby at_154) rfl (by decide) rfl (fun hc154 => absurd (by subst_vars; decide +kernel) hc154) (fun hc154 => ?_)
    refine own_iconst (pc' := 158) X30 hx (1 : Int32) (hb hby at_157) rfl rfl ?_
    refine own_goto (pc' := 162) X30 hx (hb hby at_158) (by decide) rfl ?_
    refine own_istore (pc' := 164) (l' := #[.val (.long p0), .second, .val (.long p1), .second, .val (.long (-7046029254386353131 : Int64)), .second, .val (.ref b1), .val (.ref b3), .val (.ref b5), .val (.ref b8), .val (.long v15), .second, .val (.long v17), .second, .val (.long v21), .second, .val (.long v25), .second, .val (.long v29), .second, .val (.long v31), .second, .val (.int (1 : Int32)), .val (.int (1 : Int32)), .val (.int (1 : Int32))]) X30 hx (hb hby at_162) rfl rfl rfl ?_
    refine own_iload (pc' := 166) X30 hx (hb hby at_164) rfl rfl ?_
    refine own_if_eq (pt := 183) (pf := 169) X30 hx (hb hby at_166) rfl (by decide) rfl (fun hc166 => absurd hc166 (by decide)) (fun hc166 => ?_)
    refine own_iload (pc' := 171) X30 hx (hb hby at_169) rfl rfl ?_
    refine own_if_eq (pt := 183) (pf := 174) X30 hx (hb hby at_171) rfl (by decide) rfl (fun hc171 => absurd hc171 (by decide)) (fun hc171 => ?_)
    refine own_iload (pc' := 176) X30 hx (hb hby at_174) rfl rfl ?_
    refine own_if_eq (pt := 183) (pf := 179) X30 hx (hb hby at_176) rfl (by decide) rfl (fun hc176 => absurd hc176 (by decide)) (fun hc176 => ?_)
    refine own_iconst (pc' := 180) X30 hx (1 : Int32) (hb hby at_179) rfl rfl ?_
    refine own_goto (pc' := 184) X30 hx (hb hby at_180) (by decide) rfl ?_
    refine own_retN X30 hx hlk (t := .boolean) (by decide) hret (hb hby at_184) (by decide) (by decide) ?_
    exact ⟨rfl, N30⟩
  · skip
    refine own_iconst (pc' := 114) X30 hx (1 : Int32) (hb hby at_113) rfl rfl ?_
    refine own_goto (pc' := 118) X30 hx (hb hby at_114) (by decide) rfl ?_
    refine own_lloadN (pc' := 119) X30 hx (hb hby at_118) rfl rfl ?_
    refine own_lloadN (pc' := 120) X30 hx (hb hby at_119) rfl rfl ?_
    refine own_lcmp (pc' := 121) X30 hx (hb hby at_120) rfl ?_
    refine own_ifl_ne (pt := 128) (pf := 124) X30 hx (hb hby at_121) rfl (by decide) rfl (fun hc121 => absurd (own_addinj _ (own_mixinj (by subst_vars; exact hc110))) hc121) (fun hc121 => ?_)
    refine own_iconst (pc' := 125) X30 hx (1 : Int32) (hb hby at_124) rfl rfl ?_
    refine own_goto (pc' := 129) X30 hx (hb hby at_125) (by decide) rfl ?_
    refine own_icmp_ne (pt := 136) (pf := 132) X30 hx (hb hby at_129) rfl (by decide) rfl (fun hc129 => absurd (by decide) hc129) (fun hc129 => ?_)
    refine own_iconst (pc' := 133) X30 hx (1 : Int32) (hb hby at_132) rfl rfl ?_
    refine own_goto (pc' := 137) X30 hx (hb hby at_133) (by decide) rfl ?_
    refine own_istore (pc' := 139) (l' := #[.val (.long p0), .second, .val (.long p1), .second, .val (.long (-7046029254386353131 : Int64)), .second, .val (.ref b1), .val (.ref b3), .val (.ref b5), .val (.ref b8), .val (.long v15), .second, .val (.long v17), .second, .val (.long v21), .second, .val (.long v25), .second, .val (.long v29), .second, .val (.long v31), .second, .val (.int (1 : Int32)), .val (.int (1 : Int32)), .unset]) X30 hx (hb hby at_137) rfl rfl rfl ?_
    refine own_lload (pc' := 141) X30 hx (hb hby at_139) rfl rfl ?_
    refine own_ldc2Long (pc' := 144) X30 hx hZ hown (own_w hw 20 rfl) (hb hby at_141) rfl ?_
    refine own_lcmp (pc' := 145) X30 hx (hb hby at_144) rfl ?_
    refine own_ifl_ne (pt := 161) (pf := 148) X30 hx (hb hby at_145) rfl (by decide) rfl (fun hc145 => absurd (by subst_vars; decide +kernel) hc145) (fun hc145 => ?_)
    refine own_lload (pc' := 150) X30 hx (hb hby at_148) rfl rfl ?_
    refine own_ldc2Long (pc' := 153) X30 hx hZ hown (own_w hw 21 rfl) (hb hby at_150) rfl ?_
    refine own_lcmp (pc' := 154) X30 hx (hb hby at_153) rfl ?_
    refine own_ifl_ne (pt := 161) (pf := 157) X30 hx (hb hby at_154) rfl (by decide) rfl (fun hc154 => absurd (by subst_vars; decide +kernel) hc154) (fun hc154 => ?_)
    refine own_iconst (pc' := 158) X30 hx (1 : Int32) (hb hby at_157) rfl rfl ?_
    refine own_goto (pc' := 162) X30 hx (hb hby at_158) (by decide) rfl ?_
    refine own_istore (pc' := 164) (l' := #[.val (.long p0), .second, .val (.long p1), .second, .val (.long (-7046029254386353131 : Int64)), .second, .val (.ref b1), .val (.ref b3), .val (.ref b5), .val (.ref b8), .val (.long v15), .second, .val (.long v17), .second, .val (.long v21), .second, .val (.long v25), .second, .val (.long v29), .second, .val (.long v31), .second, .val (.int (1 : Int32)), .val (.int (1 : Int32)), .val (.int (1 : Int32))]) X30 hx (hb hby at_162) rfl rfl rfl ?_
    refine own_iload (pc' := 166) X30 hx (hb hby at_164) rfl rfl ?_
    refine own_if_eq (pt := 183) (pf := 169) X30 hx (hb hby at_166) rfl (by decide) rfl (fun hc166 => absurd hc166 (by decide)) (fun hc166 => ?_)
    refine own_iload (pc' := 171) X30 hx (hb hby at_169) rfl rfl ?_
    refine own_if_eq (pt := 183) (pf := 174) X30 hx (hb hby at_171) rfl (by decide) rfl (fun hc171 => absurd hc171 (by decide)) (fun hc171 => ?_)
    refine own_iload (pc' := 176) X30 hx (hb hby at_174) rfl rfl ?_
    refine own_if_eq (pt := 183) (pf := 179) X30 hx (hb hby at_176) rfl (by decide) rfl (fun hc176 => absurd hc176 (by decide)) (fun hc176 => ?_)
    refine own_iconst (pc' := 180) X30 hx (1 : Int32) (hb hby at_179) rfl rfl ?_
    refine own_goto (pc' := 184) X30 hx (hb hby at_180) (by decide) rfl ?_
    refine own_retN X30 hx hlk (t := .boolean) (by decide) hret (hb hby at_184) (by decide) (by decide) ?_
    exact ⟨rfl, N30⟩
set_option maxRecDepth 65536 in
set_option maxHeartbeats 4000000 in
theorem comes_1 {Post : Tables → Env → Array Value → Jvm.State → Outcome → Jvm.State → Prop} (hpost : ∀ tb e args s v u, (limb_1_1.after args s (.returned v) u = true ∧ limb_1_2.after args s (.returned v) u = true ∧ True) → FrameEnd s (.returned v) u (Jvm.fieldLocs frame_1_writes args s ++ Jvm.arrayLocs frame_1_arrays args s ++ Jvm.staticLocs frame_1_statics s) 16 128 → Post tb e args s (.returned v) u) :
    ArmFor flags0 classFile x code maxLocals ret World_1 tables_1 room_1 Calls_1 rest_1 Pre_1 Post := by
  intro l hfl _ _ p e ha hc hk s m args below hf hA hF happ hP
  obtain ⟨hcalls, hrest, hpre⟩ := hP
  obtain ⟨-, -, -, hnamed, -, -, -, hat⟩ := (Spec.applies_iff hf).mp happ
  obtain ⟨hg, hn⟩ := and_e (Cond.before_iff.mp (show (Jvm.Cond.and given_1 narrow_1).before args s = true from hpre))
  obtain ⟨u1, u2⟩ := and_e hg
  obtain ⟨u3, u4⟩ := and_e u2
  obtain ⟨w0, w1, rfl⟩ : ∃ w0 w1 : Value, args = #[w0, w1] := by
    have hs : args.size = 2 := by simpa [Cond.value, given_1] using u1
    obtain ⟨L⟩ := args
    match L, hs with
    | [w0, w1], _ => exact ⟨w0, w1, rfl⟩
  have hw := fun d (hd : d ∈ tables_1) => atoms_spec (ws := Jvm.Cond.code x code maxLocals ret :: tables_1) hat d (List.mem_cons_of_mem _ hd)
  obtain ⟨i0, ei0⟩ := isL_v u3
  obtain rfl : w0 = (.long i0) := Option.some.inj ei0
  obtain ⟨i1, ei1⟩ := isL_v u4
  obtain rfl : w1 = (.long i1) := Option.some.inj ei1
  obtain ⟨n, o, h1, h2, h3, _, L, rfl, ⟨rfl, N⟩, hq⟩ := con0 l s _ hw i0 i1 s.heap s.heap.size (Nat.le_refl _)  tables_1 p e ha hc hk s m _ below hf ((Spec.applies_iff_loose hf).mp happ).1 ⟨rfl, State.Warmed39.refl s, rfl⟩ trivial
  refine ⟨n, _, h1, h2, h3, hpost _ _ _ _ _ _ ⟨Cond.after_iff.mpr rfl, Cond.after_iff.mpr (eq_i res_at (Term.int_eval (1)) rfl), trivial⟩ ⟨hq.1, hq.2.1, (hq.2.2.sift fun y hy => Or.inr (N y hy)).mono (by decide) (by decide)⟩⟩
theorem main_1_1 : Claimed_1_1 := comes_1 fun _ _ _ _ _ _ h hF => ⟨h.1, hF⟩
theorem main_1_2 : Claimed_1_2 := comes_1 fun _ _ _ _ _ _ h hF => ⟨h.2.1, hF⟩
end Jvm.Pilot.@@N@@
namespace Jvm.Pilot.@@N@@
open Jvm Jvm.ClassFile Sem Op Lib Jvm.Free Jvm.Stand Jvm.Pilot.@@N@@.Jvm.D
/-! MADE BY PROGRAM (witnessworld.py) out of the Statement's table words and the real class files: 9 classes; the members and pool entries that the words name. The judged class is class 1, her method 1. -/
namespace start1
open Jvm.ClassFile
def u (s : String) : CpInfo := .utf8 (stringToUtf16 s)
/-- a pool by its gaps: so many unusable entries, then the entry; so many at the end -/
def gap : Nat → List CpInfo → List CpInfo
  | 0, r => r
  | n + 1, r => .unusable :: gap n r
def poolList (es : List (Nat × CpInfo)) (last : Nat) : List CpInfo := es.foldr (fun e r => gap e.1 (e.2 :: r)) (gap last [])
def pool (es : List (Nat × CpInfo)) (last : Nat) : Array CpInfo := ⟨poolList es last⟩
def fileOf (pool : Array CpInfo) (this : Nat) (attrs : Array Attribute := #[]) (ms : Array MethodInfo := #[]) (fl : Nat := 33) (sup : Nat := 0) (ifs : Array Nat := #[]) (fds : Array FieldInfo := #[]) : ClassFile where
  minorVersion := 0
  majorVersion := 65
  constantPool := pool
  accessFlags := fl
  thisClass := this
  superClass := sup
  interfaces := ifs
  fields := fds
  methods := ms
  attributes := attrs
def plain (name : String) (sup : Option ClassId) : Class where
  name := name
  kind := .ordinary
  loader := none
  accessFlags := 33
  super := sup
  interfaces := #[]
  cf := none
  fields := #[]
  methods := #[]
  instanceTypes := #[]
  staticTypes := #[]
  resolved := #[]
  callSites := []
  init := .initialized
  statics := none
  mirror := none

def pool0 : Array CpInfo := pool [(5, u "<init>"), (0, u "()V"), (1, .class_ 10), (1, u "java/lang/Object")] 113

def k0c0 : Code := { maxStack := 0, maxLocals := 1, code := object_method_1_code, exceptionTable := #[], attributes := #[] }
def k0m0 : Method := { name := "<init>", desc := "()V", sig := { parameters := [], returnType := none }, accessFlags := 1, code := some k0c0 }
/-- java/lang/Object -/
def k0 : Class := { plain "java/lang/Object" none with
  accessFlags := 33
  interfaces := #[]
  cf := some (fileOf pool0 8 #[] #[{ accessFlags := 1, nameIndex := 5, descriptorIndex := 6, attributes := #[] }] 33 0 #[] #[])
  fields := #[]
  methods := #[k0m0]
  instanceTypes := #[]
  staticTypes := #[]
  resolved := Array.replicate 124 none
  statics := none }

def pool1 : Array CpInfo := pool [(2, .class_ 4), (1, u "java/lang/Object"), (0, u "<init>"), (0, u "()V"), (0, .long 11400714819323198485), (1, .class_ 10), (0, u "com/example/violetear/violetear/replay/SeededRandom"), (0, .methodref 9 12), (0, .nameAndType 5 13), (0, u "(J)V"), (0, .methodref 9 15), (0, .nameAndType 16 17), (0, u "nextLong"), (0, u "()J"), (0, .long 16294208416658607535), (1, .long 7960286522194355700), (1, .class_ 23), (0, u "com/example/violetear/violetear/replay/SeededRandomNextLongPinLaw"), (2, u "law"), (0, u "(JJ)Z")] 3

def k1m0 : Method := { name := "<init>", desc := "()V", sig := { parameters := [], returnType := none }, accessFlags := 2, code := none }
def k1c1 : Code := { maxStack := 6, maxLocals := 25, code := code, exceptionTable := #[], attributes := #[] }
def k1m1 : Method := { name := "law", desc := "(JJ)Z", sig := { parameters := [.long, .long], returnType := some .boolean }, accessFlags := 9, code := some k1c1 }
/-- com/example/violetear/violetear/replay/SeededRandomNextLongPinLaw -/
def k1 : Class := { plain "com/example/violetear/violetear/replay/SeededRandomNextLongPinLaw" (some 0) with
  accessFlags := 49
  interfaces := #[]
  cf := some (fileOf pool1 22 #[] #[{ accessFlags := 2, nameIndex := 5, descriptorIndex := 6, attributes := #[] }, { accessFlags := 9, nameIndex := 26, descriptorIndex := 27, attributes := #[] }] 49 2 #[] #[])
  fields := #[]
  methods := #[k1m0, k1m1]
  instanceTypes := #[]
  staticTypes := #[]
  resolved := Array.replicate 31 none
  statics := none }

def pool2 : Array CpInfo := pool [(1, .methodref 2 3), (0, .class_ 4), (0, .nameAndType 5 6), (0, u "java/lang/Object"), (0, u "<init>"), (0, u "()V"), (0, .fieldref 8 9), (0, .class_ 10), (0, .nameAndType 11 12), (0, u "com/example/violetear/violetear/replay/SeededRandom"), (0, u "state"), (0, u "J"), (0, .long 11400714819323198485), (1, .long 13787848793156543929), (1, .long 10723151780598845931), (3, u "nextLong"), (0, u "()J"), (16, u "GAMMA"), (1, u "(J)V")] 8

def k2c0 : Code := { maxStack := 3, maxLocals := 3, code := prog_107_method_1_code, exceptionTable := #[], attributes := #[] }
def k2m0 : Method := { name := "<init>", desc := "(J)V", sig := { parameters := [.long], returnType := none }, accessFlags := 0, code := some k2c0 }
def k2c1 : Code := { maxStack := 5, maxLocals := 3, code := prog_107_method_2_code, exceptionTable := #[], attributes := #[] }
def k2m1 : Method := { name := "nextLong", desc := "()J", sig := { parameters := [], returnType := some .long }, accessFlags := 0, code := some k2c1 }
/-- com/example/violetear/violetear/replay/SeededRandom -/
def k2 : Class := { plain "com/example/violetear/violetear/replay/SeededRandom" (some 0) with
  accessFlags := 48
  interfaces := #[]
  cf := some (fileOf pool2 8 #[] #[{ accessFlags := 0, nameIndex := 5, descriptorIndex := 41, attributes := #[] }, { accessFlags := 0, nameIndex := 21, descriptorIndex := 22, attributes := #[] }] 48 2 #[] #[{ accessFlags := 26, nameIndex := 39, descriptorIndex := 12, attributes := #[] }, { accessFlags := 2, nameIndex := 11, descriptorIndex := 12, attributes := #[] }])
  fields := #[{ name := "GAMMA", type := .long, accessFlags := 26, slot := 0, constantValue := 0 }, { name := "state", type := .long, accessFlags := 2, slot := 0, constantValue := 0 }]
  methods := #[k2m0, k2m1]
  instanceTypes := #[.long]
  staticTypes := #[.long]
  resolved := Array.replicate 50 none
  statics := none }

def pool3 : Array CpInfo := pool [(1, u "java/lang/Cloneable"), (0, .class_ 1), (0, u "java/lang/Object"), (0, .class_ 3)] 3

/-- java/lang/Cloneable -/
def k3 : Class := { plain "java/lang/Cloneable" (some 0) with
  accessFlags := 1537
  interfaces := #[]
  cf := some (fileOf pool3 2 #[] #[] 1537 4 #[] #[])
  fields := #[]
  methods := #[]
  instanceTypes := #[]
  staticTypes := #[]
  resolved := Array.replicate 8 none
  statics := none }

def pool4 : Array CpInfo := pool [(1, u "java/io/Serializable"), (0, .class_ 1), (0, u "java/lang/Object"), (0, .class_ 3)] 3

/-- java/io/Serializable -/
def k4 : Class := { plain "java/io/Serializable" (some 0) with
  accessFlags := 1537
  interfaces := #[]
  cf := some (fileOf pool4 2 #[] #[] 1537 4 #[] #[])
  fields := #[]
  methods := #[]
  instanceTypes := #[]
  staticTypes := #[]
  resolved := Array.replicate 8 none
  statics := none }

/-- the primitive byte -/
def k5 : Class := { plain "byte" none with kind := .primitive 'B', accessFlags := 0x411 }
/-- [B -/
def k6 : Class := { plain "[B" (some 0) with kind := .array 5 .byte, interfaces := #[3, 4], accessFlags := 1041 }

/-- the primitive int -/
def k7 : Class := { plain "int" none with kind := .primitive 'I', accessFlags := 0x411 }
/-- [I -/
def k8 : Class := { plain "[I" (some 0) with kind := .array 7 .int, interfaces := #[3, 4], accessFlags := 1041 }

def heap : Heap := #[]
def classes : Array Class := #[k0, k1, k2, k3, k4, k5, k6, k7, k8]
def interned : List (Array UInt16 × Addr) := []
def slotsUsed : Nat := 0
def theMethod : MethodId := ⟨1, 1⟩
def args0 : Array Value := #[.long 5, .long 7]
def aboutOver (below : List Frame) : State where
  vm := { classes := classes, interned := interned.toArray }
  heap := heap
  slotsUsed := slotsUsed
  threads := #[{ frames := .invoking theMethod args0 :: below }]
def below0 : List Frame := [.native { method := ⟨0, 0⟩, args := #[] }]
def about1 : State := aboutOver below0
def p0 : Program := .bare "" "" ""
def e0 : Env := launch0.env 0 0 0
theorem w_frames : about1.frames = Frame.invoking theMethod args0 :: below0 := rfl
set_option maxRecDepth 65536 in
theorem w_args : argsFit about1.vm theMethod args0 = true := by decide +kernel
set_option maxRecDepth 65536 in
theorem w_heap : heapFits about1 = true := by decide +kernel
set_option maxRecDepth 65536 in
theorem w_runnable : about1.curStatus? = some .runnable := by decide +kernel
set_option maxRecDepth 65536 in
theorem w_alone : about1.alone = true := by decide +kernel
set_option maxRecDepth 65536 in
theorem w_named : about1.methodNamed? x = some theMethod := by decide +kernel
set_option maxRecDepth 65536 in
theorem w_hears : about1.hears theMethod below0 = true := by decide +kernel
set_option maxRecDepth 65536 in
theorem w_ripe : about1.ripe theMethod args0 below0 = true := by decide +kernel
theorem w_running : about1.status = .running := rfl
set_option maxRecDepth 65536 in
theorem w_room : about1.hasRoom e0.platform room_1 = true :=
  launch0.hasRoom_least _ room_1 (by decide +kernel) (by decide +kernel) (by decide +kernel) (by decide +kernel) (by decide +kernel) (by decide +kernel)
theorem allAtoms_all (ts : List Jvm.Cond) (a : Array Jvm.Value) (st : Jvm.State) : (allAtoms ts).before a st = ts.all (fun c => c.before a st) := by
  induction ts with
  | nil => rfl
  | cons c t ih =>
    show (Jvm.Cond.and c (allAtoms t)).before a st = _
    rw [Jvm.Cond.before_and, ih, List.all_cons]
def words1 : List Jvm.Cond := Jvm.Cond.code x code maxLocals ret :: tables_1
/-- a 'code' word, met by the world's own term for the bytes: nothing is compared byte by byte -/
theorem code_word {y : MethodName} {bytes : ByteArray} {mx : Nat} {rt : Option FieldType} {a : Array Value} {s : State} {m : MethodId} {meth : Method} {c : Code} (h1 : s.methodNamed? y = some m) (h2 : s.vm.method? m = some meth) (h3 : meth.code = some c) (h4 : c.code = bytes)
    (h5 : (c.maxLocals == mx && c.exceptionTable.isEmpty && decide (c.maxStack ≤ mostOperands) && decide (meth.sig.returnType = rt) && !meth.locks && decide (parseMethodDescriptor y.desc = some meth.sig)) = true) : (Jvm.Cond.code y bytes mx rt).before a s = true := by
  simp only [Bool.and_eq_true, beq_iff_eq, Bool.not_eq_true', decide_eq_true_eq] at h5
  obtain ⟨⟨⟨⟨⟨g1, g2⟩, g3⟩, g4⟩, g5⟩, g6⟩ := h5
  simp [Cond.before, Cond.holds, Cond.value, h1, h2, h3, h4, g1, g2, g3, g4, g5, g6]
def isCode : Jvm.Cond → Bool
  | .code _ _ _ _ => true
  | _ => false
theorem all_split {L : List Jvm.Cond} {P : Jvm.Cond → Bool} (h1 : L.all (fun c => isCode c || P c) = true) (h2 : ∀ c ∈ L.filter isCode, P c = true) : L.all P = true := by
  refine List.all_eq_true.mpr fun c hc => ?_
  have h := List.all_eq_true.mp h1 c hc
  rcases Bool.eq_false_or_eq_true (isCode c) with hi | hi
  · exact h2 c (List.mem_filter.mpr ⟨hc, hi⟩)
  · simpa [hi] using h
set_option maxRecDepth 65536 in
theorem w_c0 : (Jvm.Cond.code x code maxLocals ret).before args0 about1 = true := code_word (m := ⟨1, 1⟩) (meth := k1m1) (c := k1c1) (by decide +kernel) rfl rfl rfl (by decide +kernel)
set_option maxRecDepth 65536 in
theorem w_c1 : (Jvm.Cond.code ({ cls := "com/example/violetear/violetear/replay/SeededRandom", name := "<init>", desc := "(J)V" } : Jvm.MethodName) prog_107_method_1_code (3 : Nat) (Option.none : Option Jvm.ClassFile.FieldType)).before args0 about1 = true := code_word (m := ⟨2, 0⟩) (meth := k2m0) (c := k2c0) (by decide +kernel) rfl rfl rfl (by decide +kernel)
set_option maxRecDepth 65536 in
theorem w_c2 : (Jvm.Cond.code ({ cls := "java/lang/Object", name := "<init>", desc := "()V" } : Jvm.MethodName) object_method_1_code (1 : Nat) (Option.none : Option Jvm.ClassFile.FieldType)).before args0 about1 = true := code_word (m := ⟨0, 0⟩) (meth := k0m0) (c := k0c0) (by decide +kernel) rfl rfl rfl (by decide +kernel)
set_option maxRecDepth 65536 in
theorem w_c3 : (Jvm.Cond.code ({ cls := "com/example/violetear/violetear/replay/SeededRandom", name := "nextLong", desc := "()J" } : Jvm.MethodName) prog_107_method_2_code (3 : Nat) (Option.some Jvm.ClassFile.FieldType.long)).before args0 about1 = true := code_word (m := ⟨2, 1⟩) (meth := k2m1) (c := k2c1) (by decide +kernel) rfl rfl rfl (by decide +kernel)
def codes1 : List Jvm.Cond := [Jvm.Cond.code x code maxLocals ret, Jvm.Cond.code ({ cls := "com/example/violetear/violetear/replay/SeededRandom", name := "<init>", desc := "(J)V" } : Jvm.MethodName) prog_107_method_1_code (3 : Nat) (Option.none : Option Jvm.ClassFile.FieldType), Jvm.Cond.code ({ cls := "java/lang/Object", name := "<init>", desc := "()V" } : Jvm.MethodName) object_method_1_code (1 : Nat) (Option.none : Option Jvm.ClassFile.FieldType), Jvm.Cond.code ({ cls := "com/example/violetear/violetear/replay/SeededRandom", name := "nextLong", desc := "()J" } : Jvm.MethodName) prog_107_method_2_code (3 : Nat) (Option.some Jvm.ClassFile.FieldType.long)]
set_option maxRecDepth 65536 in
theorem codes_eq : words1.filter isCode = codes1 := rfl
theorem w_codes : ∀ c ∈ words1.filter isCode, c.before args0 about1 = true := by
  rw [codes_eq]
  intro c hc
  simp only [codes1, List.mem_cons, List.not_mem_nil, or_false] at hc
  rcases hc with rfl | rfl | rfl | rfl
  · exact w_c0
  · exact w_c1
  · exact w_c2
  · exact w_c3
set_option maxRecDepth 65536 in
theorem w_t1 : words1.all (fun c => isCode c || c.before args0 about1) = true := by decide +kernel
theorem w_tables : (allAtoms (Jvm.Cond.code x code maxLocals ret :: tables_1)).before args0 about1 = true := by
  rw [allAtoms_all]
  show words1.all (fun c => c.before args0 about1) = true
  refine all_split ?_ w_codes
  rw [w_t1]
set_option maxRecDepth 65536 in
theorem w_case : (Jvm.Cond.and given_1 narrow_1).before args0 about1 = true := by decide +kernel
theorem w_applies : (headSpec (Jvm.Cond.code x code maxLocals ret :: tables_1) room_1).applies x e0.platform about1 = true :=
  (Spec.applies_iff w_frames).mpr ⟨w_running, w_runnable, w_alone, w_named, w_hears, w_ripe, w_room, w_tables⟩
theorem atStart : AtStart classFile x code maxLocals ret World_1 tables_1 room_1 Calls_1 rest_1 Pre_1 launch0 p0 e0 about1 theMethod args0 below0 :=
  ⟨lists_1, trivial, launch0.admits_env _ _ _, launch0.least_env, fairChoices_fair.cas, fairChoices_fair.clock, w_frames, w_args, w_heap, w_applies, trivial, trivial, w_case⟩
end start1
theorem witness_1 : WitnessClaimed_1 := ⟨start1.p0, start1.e0, start1.about1, start1.theMethod, start1.args0, start1.below0, start1.atStart⟩
end Jvm.Pilot.@@N@@
