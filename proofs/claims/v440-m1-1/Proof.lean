import JvmDerived
import JvmDerived.Pilot.@@N@@Statement
import JvmDerived.Pilot.@@N@@Code
set_option linter.unusedVariables false
set_option linter.unusedSimpArgs false
namespace Jvm.OwnW
open Sem ClassFile Op Lib Jvm.Free Jvm.Stand Jvm.LawKit Jvm.RoadKit Jvm.Free.XT
/-! ## a walk's fixed data, and what is asked of the rest of it -/
abbrev Cx : Type := Program × Launch × Env × Room × State × MethodId × Array Value × List Frame × Method × Code
abbrev Cx.p (x : Cx) : Program := x.1
abbrev Cx.l (x : Cx) : Launch := x.2.1
abbrev Cx.e (x : Cx) : Env := x.2.2.1
abbrev Cx.R (x : Cx) : Room := x.2.2.2.1
abbrev Cx.s (x : Cx) : State := x.2.2.2.2.1
abbrev Cx.m (x : Cx) : MethodId := x.2.2.2.2.2.1
abbrev Cx.args (x : Cx) : Array Value := x.2.2.2.2.2.2.1
abbrev Cx.below (x : Cx) : List Frame := x.2.2.2.2.2.2.2.1
abbrev Cx.meth (x : Cx) : Method := x.2.2.2.2.2.2.2.2.1
abbrev Cx.c (x : Cx) : Code := x.2.2.2.2.2.2.2.2.2
abbrev Sd (x : Cx) (T : State) (locs : List Loc) (k n : Nat) : Prop := Stand x.p x.l x.e x.R x.s x.m x.args x.below x.meth x.c T locs k n
/-- what is known of a walk of the method nm (of the class own) over the tables of Z -/
def Ok (x : Cx) (Z : State) (own nm : String) (bytes : ByteArray) (ml : Nat) (rt : Option FieldType) (R : Room) : Prop :=
  x.p.tables.exec = Jvm.exec ∧ x.c.code = bytes ∧ x.c.maxLocals = ml ∧ x.s.vm.findClass own = some x.m.cls ∧ x.meth.name = nm ∧ Z.Warmed39 x.s.vm ∧ x.meth.sig.returnType = rt ∧ x.meth.locks = false ∧ x.R = R
abbrev Post : Type := Option Value → Heap → Prop
def Done (x : Cx) (n0 : Nat) (Q : Post) (U : State) : Prop :=
  ∃ s₂ o, Steps x.p.tables x.e x.below U s₂ ∧ s₂.status = .running ∧ Ended s₂ x.below o ∧ ∃ v L, o = .returned v ∧ (Q v s₂.heap ∧ Fr n0 L) ∧ FrameEnd x.s o s₂ L x.R.cells x.R.slots
/-- from here (heap h; k cells and n slots made so far; the frame) the walk comes to its end, and Q holds of it -/
def WP (x : Cx) (n0 : Nat) (Q : Post) (h : Heap) (k n : Nat) (pc : Nat) (L : Array Slot) (S : List Value) : Prop :=
  ∀ T locs, Sd x T locs k n → T.heap = h → Fr n0 locs → Done x n0 Q (T.setTop (mkF x.m pc L S))
/-- a method's contract at one heap and one list of arguments -/
def Con (l : Launch) (Z : State) (y : MethodName) (bytes : ByteArray) (maxL : Nat) (ret : Option FieldType) (rm : Room) (as : Array Value) (h : Heap) (n0 : Nat) (Q : Post) (ws : List Jvm.Cond) : Prop :=
  MetFree l y (head1 (Jvm.Cond.code y bytes maxL ret :: ws) rm) (fun a U => a = as ∧ Z.Warmed39 U.vm ∧ U.heap = h) (fun _ _ _ _ _ => True) (fun _ U o U' => ∃ v L, o = .returned v ∧ (Q v U'.heap ∧ Fr n0 L) ∧ FrameEnd U o U' L rm.cells rm.slots)
theorem wd {ts : List Jvm.Cond} {a0 : Array Value} {Z : State} (hw : ∀ d ∈ ts, d.before a0 Z = true) (k : Nat) {d : Jvm.Cond} (h : ts[k]? = some d) : d.before a0 Z = true := hw d (List.mem_of_getElem? h)
theorem ne_new {h : Heap} {a b : Addr} (hb : b < h.size) (e : a = h.size) : b ≠ a := by rw [e]; exact Nat.ne_of_lt hb
theorem Fld_c {Z : State} {h : Heap} {a : Addr} {O n d : String} {v w : Value} (F : Fld Z h a O n d v) (e : v = w) : Fld Z h a O n d w := e ▸ F
theorem Sta_keep0 {Z : State} {h h' : Heap} {C n d : String} {v : Value} (F : Sta Z h C n d v) (K : Keep h h' []) : Sta Z h' C n d v := by
  obtain ⟨cf, i, k, f, st, cell, h1, h2, h3, h4, h5, r⟩ := F
  exact ⟨cf, i, k, f, st, cell, h1, h2, h3, h4, K.2.1 _ _ h5 nin0, r⟩
section Rules
variable {x : Cx} {Z : State} {own nm : String} {bytes : ByteArray} {ml : Nat} {rt : Option FieldType} {R : Room} {n0 : Nat} {Q : Post} {h : Heap} {k n : Nat} {pc pc' : Nat} {L L' : Array Slot} {S S' rest : List Value} {a0 : Array Value} {a : Addr} {v : Value}
theorem con_of_wp {l : Launch} {y : MethodName} {as : Array Value} {L0 : Array Slot} {ws : List Jvm.Cond} (pn : plainFor y = true) (ef : ∀ m, entryFrame m as ml = mkF m 0 L0 [])
    (H : ∀ x : Cx, x.l = l → Ok x Z y.cls y.name bytes ml rt R → WP x n0 Q h 0 0 0 L0 []) : Con l Z y bytes ml rt R as h n0 Q ws := by
  refine MetFree.of_bodySF pn hisR ?_
  intro p e s m args below meth c s₁ Bd hml0 hP hK
  obtain ⟨rfl, hZ, hh⟩ := hP
  have X0 : Stand p l e R s m args below meth c s₁ [] 0 0 := Stand.of_body Bd
  have e0 : s₁.heap = h := by rw [← hh, Bd.state]; rfl
  have ok : Ok (p, l, e, R, s, m, args, below, meth, c) Z y.cls y.name bytes ml rt R := ⟨Bd.exec, Bd.bytes, hml0, findClass_of_methodNamed Bd.named, (name_of_methodNamed Bd.named Bd.method).1, hZ, Bd.returns, Bd.notSynchronized, rfl⟩
  obtain ⟨s₂, o, h1, h2, h3, h4⟩ := H (p, l, e, R, s, m, args, below, meth, c) rfl ok s₁ [] X0 e0 (Fr.nil n0)
  exact ⟨s₂, o, castTop (ef m) h1, h2, h3, h4⟩
theorem wp_more {k' n' : Nat} (hk : k ≤ k') (hn : n ≤ n') (w : WP x n0 Q h k' n' pc L S) : WP x n0 Q h k n pc L S := fun T locs X e N => w T locs (X.more hk hn) e N
theorem wp_steps (st : ∀ T locs target, Sd x T locs k n → T.heap = h → Steps x.p.tables x.e x.below (T.setTop (mkF x.m pc' L' S')) target → Steps x.p.tables x.e x.below (T.setTop (mkF x.m pc L S)) target) (w : WP x n0 Q h k n pc' L' S') : WP x n0 Q h k n pc L S := fun T locs X e N => by
  obtain ⟨s₂, o, h1, r⟩ := w T locs X e N
  exact ⟨s₂, o, st T locs _ X e h1, r⟩
/-! ## returns -/
theorem wp_done {v' : Option Value} (ok : Ok x Z own nm bytes ml rt R) (hk : k ≤ R.cells) (hn : n ≤ R.slots) (hv : rt = none → v' = none) (hq : Q v' h)
    (st : ∀ T locs fs, Sd x T locs k n → (∀ (f : JFrame) (acts : List Action), f.method = x.m → f.locked = none → f.entered = [] → (doReturn x.e (T.setTop f) acts v').1 = T.setFrames fs) → Steps x.p.tables x.e x.below (T.setTop (mkF x.m pc L S)) (T.setFrames fs)) : WP x n0 Q h k n pc L S := fun T locs X e N => by
  obtain ⟨hx, hby, hml, hown, hnm, hZ, hrt, hlk, hR⟩ := ok
  have hlocks : x.meth.locks = false := hlk
  obtain ⟨fs, hr, hrun, hended, hW, hsame⟩ := X.leave (v := v') (fun q => hv (hrt.symm.trans q)) hlocks
  refine ⟨_, _, st T locs fs X hr, hrun, hended, _, locs, rfl, ⟨?_, N⟩, ⟨_, rfl⟩, hW, hsame.mono (by rw [hR]; exact hk) (by rw [hR]; exact hn)⟩
  show Q v' T.heap
  rw [e]; exact hq
theorem wp_retV (ok : Ok x Z own nm bytes ml none R) (hd : decode bytes pc = .ok (.return_, 1)) (hk : k ≤ R.cells) (hn : n ≤ R.slots) (hq : Q none h) : WP x n0 Q h k n pc L [] :=
  wp_done ok hk hn (fun _ => rfl) hq fun T locs fs X hr => X.returnOut ok.1 ok.2.2.2.2.2.2.1 (hb ok.2.1 hd) hr
theorem wp_retZ {z : Int32} {t : FieldType} (ok : Ok x Z own nm bytes ml (some t) R) (ht : t = .boolean ∨ t = .byte ∨ t = .char ∨ t = .short) (hd : decode bytes pc = .ok (.ireturn, 1)) (hk : k ≤ R.cells) (hn : n ≤ R.slots) (hq : Q (some (.int (nar t z))) h) : WP x n0 Q h k n pc L (.int z :: rest) :=
  wp_done ok hk hn (fun q => nomatch q) hq fun T locs fs X hr => retN X ok.1 ok.2.2.2.2.2.2.1 ht (hb ok.2.1 hd) hr
theorem wp_retI {z : Int32} (ok : Ok x Z own nm bytes ml (some .int) R) (hd : decode bytes pc = .ok (.ireturn, 1)) (hk : k ≤ R.cells) (hn : n ≤ R.slots) (hq : Q (some (.int z)) h) : WP x n0 Q h k n pc L (.int z :: rest) :=
  wp_done ok hk hn (fun q => nomatch q) hq fun T locs fs X hr => retOut X ok.1 ok.2.2.2.2.2.2.1 (w := .int z) rfl (Or.inl ⟨rfl, Or.inl rfl, z, rfl⟩) (hb ok.2.1 hd) hr
theorem wp_retJ {z : Int64} (ok : Ok x Z own nm bytes ml (some .long) R) (hd : decode bytes pc = .ok (.lreturn, 1)) (hk : k ≤ R.cells) (hn : n ≤ R.slots) (hq : Q (some (.long z)) h) : WP x n0 Q h k n pc L (.long z :: rest) :=
  wp_done ok hk hn (fun q => nomatch q) hq fun T locs fs X hr => retOut X ok.1 ok.2.2.2.2.2.2.1 (w := .long z) rfl (Or.inr (Or.inl ⟨rfl, rfl, z, rfl⟩)) (hb ok.2.1 hd) hr
theorem wp_retA {w : Value} {t : FieldType} (ok : Ok x Z own nm bytes ml (some t) R) (ht : t.isReference = true) (hw : w.isRef = true) (hd : decode bytes pc = .ok (.areturn, 1)) (hk : k ≤ R.cells) (hn : n ≤ R.slots) (hq : Q (some w) h) : WP x n0 Q h k n pc L [w] :=
  wp_done ok hk hn (fun q => nomatch q) hq fun T locs fs X hr => X.areturnOut ok.1 hw ok.2.2.2.2.2.2.1 ht (hb ok.2.1 hd) hr
/-! ## the heap -/
theorem wp_getF {O nf d : String} {index : Nat} (ok : Ok x Z own nm bytes ml rt R) (w : (Jvm.Cond.fieldLink own index O nf d).before a0 Z = true) (F : Fld Z h a O nf d v) (hd : decode bytes pc = .ok (.getfield index, 3)) (hw : WP x n0 Q h k n (pc + 3) L (v :: rest)) : WP x n0 Q h k n pc L (.ref a :: rest) := fun T locs X e N => by
  obtain ⟨T', X', e', st⟩ := getF X ok.1 ok.2.2.2.2.2.1 ok.2.2.2.1 (host := "") (Or.inl w) Via.refl e F (g := mkF x.m pc L (.ref a :: rest)) rfl rfl (hb ok.2.1 hd)
  obtain ⟨s₂, o, h1, r⟩ := hw T' locs X' e' N
  exact ⟨s₂, o, st _ h1, r⟩
theorem wp_getS {O nf d : String} {index : Nat} (ok : Ok x Z own nm bytes ml rt R) (w : (Jvm.Cond.fieldLink own index O nf d).before a0 Z = true) (F : Sta Z h O nf d v) (hd : decode bytes pc = .ok (.getstatic index, 3)) (hw : WP x n0 Q h k n (pc + 3) L (v :: S)) : WP x n0 Q h k n pc L S := fun T locs X e N => by
  obtain ⟨T', X', e', st⟩ := getS (host := "") X ok.1 ok.2.2.2.2.2.1 ok.2.2.2.1 w Via.refl e F (g := mkF x.m pc L S) rfl (hb ok.2.1 hd)
  obtain ⟨s₂, o, h1, r⟩ := hw T' locs X' e' N
  exact ⟨s₂, o, st _ h1, r⟩
theorem wp_putF {O nf d C : String} {index kk : Nat} {ty : FieldType} {old : Value} (ok : Ok x Z own nm bytes ml rt R) (w : (Jvm.Cond.fieldLink own index O nf d).before a0 Z = true) (F : Fld Z h a O nf d old) (E : Exa Z h a C)
    (Ly : (Jvm.Cond.lays C O nf d).before a0 Z = true ∨ ((Jvm.Cond.laysFinal C O nf d).before a0 Z = true ∧ own = O ∧ nm = "<init>")) (wi : (Jvm.Cond.instantiable C kk).before a0 Z = true) (hty : parseFieldDescriptor d = some ty) (hnw : narrow ty v = v) (hf : fits ty v = true) (hd : decode bytes pc = .ok (.putfield index, 3)) (ha : n0 ≤ a)
    (hw : ∀ h', Wr h h' a (Jvm.RoadKit.slotOf Z O nf d) v → WP x n0 Q h' k n (pc + 3) L rest) : WP x n0 Q h k n pc L (v :: .ref a :: rest) := fun T locs X e N => by
  obtain ⟨T', h', X', e', W, st⟩ := putF X ok.1 ok.2.2.2.2.2.1 ok.2.2.2.1 (host := "") (Or.inl w) Via.refl e F E (Ly.imp id fun q => ⟨q.1, q.2.1, ok.2.2.2.2.1.trans q.2.2⟩) wi hty hnw hf (g := mkF x.m pc L (v :: .ref a :: rest)) rfl rfl (hb ok.2.1 hd)
  obtain ⟨s₂, o, h1, r⟩ := hw h' W T' _ X' e' (Fr.snoc X' N ha)
  exact ⟨s₂, o, st _ h1, r⟩
theorem wp_new {C : String} {index sz : Nat} (ok : Ok x Z own nm bytes ml rt R) (w : (Jvm.Cond.classLink own index C).before a0 Z = true) (wi : (Jvm.Cond.instantiable C sz).before a0 Z = true) (wz : (Jvm.Cond.initialized C).before a0 Z = true) (hd : decode bytes pc = .ok (.new index, 3)) (hk : k + 1 ≤ R.cells) (hn : n + sz ≤ R.slots)
    (hw : ∀ h' a, a = h.size → Ext h h' → Exa Z h' a C → (∀ {O nf d : String} {ty : FieldType}, Laid Z a0 C O nf d → parseFieldDescriptor d = some ty → Fld Z h' a O nf d (defaultValue ty)) → WP x n0 Q h' (k + 1) (n + sz) (pc + 3) L (.ref a :: S)) : WP x n0 Q h k n pc L S := fun T locs X e N => by
  obtain ⟨T', h', X', e', E, A, D, -, st⟩ := newO X ok.1 ok.2.2.2.2.2.1 ok.2.2.2.1 w wi wz e (g := mkF x.m pc L S) rfl (hb ok.2.1 hd) (by rw [ok.2.2.2.2.2.2.2.2]; exact hk) (by rw [ok.2.2.2.2.2.2.2.2]; exact hn)
  obtain ⟨s₂, o, h1, r⟩ := hw h' h.size rfl E A D T' _ X' e' N
  exact ⟨s₂, o, st _ h1, r⟩
theorem wp_initO {index : Nat} (ok : Ok x Z own nm bytes ml rt R) (w1 : (Jvm.Cond.methodLink own index Lib.objectInit).before a0 Z = true) (w2 : (Jvm.Cond.instanceMethod Lib.objectInit).before a0 Z = true) (w3 : (Jvm.Cond.code Lib.objectInit ⟨#[0xb1]⟩ 1 none).before a0 Z = true) (hL : L.size = ml)
    (hd : decode bytes pc = .ok (.invokespecial index, 3)) (hf : 1 ≤ R.frames) (hl : (rest.map fun v => v.category).sum + 12 ≤ R.locals) (hw : WP x n0 Q h k n (pc + 3) L rest) : WP x n0 Q h k n pc L (.ref a :: rest) := fun T locs X e N => by
  obtain ⟨T', X', e', st⟩ := initO X ok.1 ok.2.2.2.2.2.1 ok.2.2.2.1 w1 w2 w3 e (g := mkF x.m pc L (.ref a :: rest)) rfl (by show L.size = _; rw [ok.2.2.1]; exact hL) rfl (hb ok.2.1 hd) (by rw [ok.2.2.2.2.2.2.2.2]; exact hf) (W := (rest.map fun v => v.category).sum) (by show 2 * 0 + _ ≤ _; omega) (by rw [ok.2.2.2.2.2.2.2.2]; exact hl)
  obtain ⟨s₂, o, h1, r⟩ := hw T' locs X' e' N
  exact ⟨s₂, o, st _ h1, r⟩
/-! ## calls by contract -/
theorem wp_static {y : MethodName} {cb : ByteArray} {cm : Nat} {cr : Option FieldType} {rm : Room} {index : Nat} {argsL : List Value} {Q' : Post} {ps : List FieldType} (ok : Ok x Z own nm bytes ml rt R) (w1 : (Jvm.Cond.methodLink own index y).before a0 Z = true) (w2 : (Jvm.Cond.static y).before a0 Z = true) (w3 : (Jvm.Cond.initialized y.cls).before a0 Z = true) (w4 : (Jvm.Cond.code y cb cm cr).before a0 Z = true)
    (hy : y.cls ≠ "java/lang/invoke/MethodHandle" ∧ y.cls ≠ "java/lang/invoke/VarHandle") (C : Con x.l Z y cb cm cr rm argsL.toArray h n0 Q' []) (pd : parseMethodDescriptor y.desc = some ⟨ps, cr⟩) (hlen : argsL.length = ps.length) (hst : S = argsL.reverse ++ rest) (hL : L.size = ml) (hd : decode bytes pc = .ok (.invokestatic index, 3))
    (hf : rm.frames + 1 ≤ R.frames) (hl : (rest.map fun v => v.category).sum + (cm + 11) + rm.locals ≤ R.locals) (hk : k + rm.cells ≤ R.cells) (hn : n + rm.slots ≤ R.slots)
    (hw : ∀ v h', Q' v h' → WP x n0 Q h' (k + rm.cells) (n + rm.slots) (pc + 3) L (v.toList ++ rest)) : WP x n0 Q h k n pc L S := fun T locs X e N => by
  have hZ := ok.2.2.2.2.2.1
  have hR := ok.2.2.2.2.2.2.2.2
  obtain ⟨v, _, ⟨T', L2, k2, n2⟩, -, X', ⟨Lc, hQ, l1, y1, z1⟩, st⟩ := Jvm.LawKit.callS X ok.1 (y := y) ok.2.2.2.1 (mvT hZ w1) (mvT hZ w2) (mvT hZ w3) (mvT hZ w4) hy (backOf (W := (rest.map fun v => v.category).sum) (Q := fun v h L => Q' v h ∧ Fr n0 L) C hZ w4 w3 (by rw [hR]; exact hf) (by rw [hR]; exact hl)) (g := mkF x.m pc L S) rfl (by show L.size = _; rw [ok.2.2.1]; exact hL) (argsL := argsL) (rest := rest) (lenOf pd hlen) hst (by show 2 * 0 + _ ≤ _; omega) (hb ok.2.1 hd) (fun _ _ => ⟨rfl, e, by rw [hR]; exact hk, by rw [hR]; exact hn⟩)
  dsimp only [Pt.U, Pt.locs, Pt.cells, Pt.slots] at X' l1 y1 z1 st hQ
  subst l1 y1 z1
  obtain ⟨s₂, o, h1, r⟩ := hw v _ hQ.1 T' _ X' rfl (Fr.app N hQ.2)
  exact ⟨s₂, o, st _ h1, r⟩
theorem wp_special {y : MethodName} {cb : ByteArray} {cm : Nat} {rm : Room} {index : Nat} {argsL : List Value} {Q' : Post} {ps : List FieldType} (ok : Ok x Z own nm bytes ml rt R) (hy1 : y.name = "<init>") (w1 : (Jvm.Cond.methodLink own index y).before a0 Z = true) (w2 : (Jvm.Cond.instanceMethod y).before a0 Z = true) (w3 : (Jvm.Cond.initialized y.cls).before a0 Z = true) (w4 : (Jvm.Cond.code y cb cm none).before a0 Z = true)
    (hy : y.cls ≠ "java/lang/invoke/MethodHandle" ∧ y.cls ≠ "java/lang/invoke/VarHandle") (C : Con x.l Z y cb cm none rm (Value.ref a :: argsL).toArray h n0 Q' []) (pd : parseMethodDescriptor y.desc = some ⟨ps, none⟩) (hlen : argsL.length = ps.length) (hst : S = argsL.reverse ++ .ref a :: rest) (hL : L.size = ml) (hd : decode bytes pc = .ok (.invokespecial index, 3))
    (hf : rm.frames + 1 ≤ R.frames) (hl : (rest.map fun v => v.category).sum + (cm + 11) + rm.locals ≤ R.locals) (hk : k + rm.cells ≤ R.cells) (hn : n + rm.slots ≤ R.slots)
    (hw : ∀ v h', Q' v h' → WP x n0 Q h' (k + rm.cells) (n + rm.slots) (pc + 3) L (v.toList ++ rest)) : WP x n0 Q h k n pc L S := fun T locs X e N => by
  have hZ := ok.2.2.2.2.2.1
  have hR := ok.2.2.2.2.2.2.2.2
  obtain ⟨v, _, ⟨T', L2, k2, n2⟩, -, X', ⟨Lc, hQ, l1, y1, z1⟩, st⟩ := X.specialBack ok.1 (y := y) hy1 ok.2.2.2.1 (mvT hZ w1) (mvT hZ w2) (mvT hZ w4) hy (backOf (W := (rest.map fun v => v.category).sum) (Q := fun v h L => Q' v h ∧ Fr n0 L) C hZ w4 w3 (by rw [hR]; exact hf) (by rw [hR]; exact hl)) (g := mkF x.m pc L S) rfl (by show L.size = _; rw [ok.2.2.1]; exact hL) (Steps.refl _) (a := a) (argsL := argsL) (rest := rest) (lenOf pd hlen) hst (by show 2 * 0 + _ ≤ _; omega) (hb ok.2.1 hd) (fun _ _ => ⟨rfl, e, by rw [hR]; exact hk, by rw [hR]; exact hn⟩)
  dsimp only [Pt.U, Pt.locs, Pt.cells, Pt.slots] at X' l1 y1 z1 st hQ
  subst l1 y1 z1
  obtain ⟨s₂, o, h1, r⟩ := hw v _ hQ.1 T' _ X' rfl (Fr.app N hQ.2)
  exact ⟨s₂, o, st.trans h1, r⟩
theorem wp_virtual {y : MethodName} {cb : ByteArray} {cm : Nat} {cr : Option FieldType} {rm : Room} {index : Nat} {argsL : List Value} {Q' : Post} {ps : List FieldType} {C : String} (ok : Ok x Z own nm bytes ml rt R) (w1 : (Jvm.Cond.methodLink own index y).before a0 Z = true) (w5 : (Jvm.Cond.declares y).before a0 Z = true) (w6 : (Jvm.Cond.selects C y y).before a0 Z = true) (w2 : (Jvm.Cond.instanceMethod y).before a0 Z = true) (w3 : (Jvm.Cond.initialized y.cls).before a0 Z = true) (w4 : (Jvm.Cond.code y cb cm cr).before a0 Z = true)
    (hy : y.cls ≠ "java/lang/invoke/MethodHandle" ∧ y.cls ≠ "java/lang/invoke/VarHandle") (E : Exa Z h a C) (Cn : Con x.l Z y cb cm cr rm (Value.ref a :: argsL).toArray h n0 Q' []) (pd : parseMethodDescriptor y.desc = some ⟨ps, cr⟩) (hlen : argsL.length = ps.length) (hst : S = argsL.reverse ++ .ref a :: rest) (hL : L.size = ml) (hd : decode bytes pc = .ok (.invokevirtual index, 3))
    (hf : rm.frames + 1 ≤ R.frames) (hl : (rest.map fun v => v.category).sum + (cm + 11) + rm.locals ≤ R.locals) (hk : k + rm.cells ≤ R.cells) (hn : n + rm.slots ≤ R.slots)
    (hw : ∀ v h', Q' v h' → WP x n0 Q h' (k + rm.cells) (n + rm.slots) (pc + 3) L (v.toList ++ rest)) : WP x n0 Q h k n pc L S := fun T locs X e N => by
  have hZ := ok.2.2.2.2.2.1
  have hR := ok.2.2.2.2.2.2.2.2
  obtain ⟨cq, kq, qa, qb, qc⟩ := isOf (T := T) (s := x.s) hZ e E
  obtain ⟨v, _, ⟨T', L2, k2, n2⟩, -, X', ⟨Lc, hQ, l1, y1, z1⟩, st⟩ := X.virtualBack ok.1 (y := y) (z := y) ok.2.2.2.1 (mvT hZ w1) (mvT hZ w5) (notFace_of_selects (args := #[]) (mvT hZ w6)) (mvT hZ w6) (mvT hZ w2) hy (backOf (W := (rest.map fun v => v.category).sum) (Q := fun v h L => Q' v h ∧ Fr n0 L) Cn hZ w4 w3 (by rw [hR]; exact hf) (by rw [hR]; exact hl)) qa qc (g := mkF x.m pc L S) rfl (by show L.size = _; rw [ok.2.2.1]; exact hL) (Steps.refl _) (argsL := argsL) (rest := rest) (lenOf pd hlen) hst (by show 2 * 0 + _ ≤ _; omega) (hb ok.2.1 hd) (fun _ _ => ⟨rfl, e, by rw [hR]; exact hk, by rw [hR]; exact hn⟩)
  dsimp only [Pt.U, Pt.locs, Pt.cells, Pt.slots] at X' l1 y1 z1 st hQ
  subst l1 y1 z1
  obtain ⟨s₂, o, h1, r⟩ := hw v _ hQ.1 T' _ X' rfl (Fr.app N hQ.2)
  exact ⟨s₂, o, st.trans h1, r⟩
/-! ## arrays -/
theorem wp_newA {aty : ArrayType} {z : Int32} {cap : Nat} (ok : Ok x Z own nm bytes ml rt R) (w : (Jvm.Cond.arrayClass (newarray.typeOf aty)).before a0 Z = true) (hd : decode bytes pc = .ok (.newarray aty, 2)) (hz : ¬ z < 0) (hcap : z.toNatClampNeg ≤ cap) (hb8 : cap * 8 ≤ 536870912) (hk : k + 1 ≤ R.cells) (hn : n + cap ≤ R.slots)
    (hw : ∀ h' a cA, a = h.size → Ext h h' → Arr Z h' a (newA cA (newarray.typeOf aty) z) (newarray.typeOf aty) → WP x n0 Q h' (k + 1) (n + cap) (pc + 2) L (.ref a :: rest)) : WP x n0 Q h k n pc L (.int z :: rest) := fun T locs X e N => by
  obtain ⟨T', h', cA, X', e', E, A, st⟩ := newP X ok.1 ok.2.2.2.2.2.1 w e (g := mkF x.m pc L (.int z :: rest)) rfl (hb ok.2.1 hd) rfl hz hcap hb8 (by rw [ok.2.2.2.2.2.2.2.2]; exact hk) (by rw [ok.2.2.2.2.2.2.2.2]; exact hn)
  obtain ⟨s₂, o, h1, r⟩ := hw h' _ cA rfl E A T' _ X' e' N
  exact ⟨s₂, o, st _ h1, r⟩
theorem wp_stI {cl : Cell} {j z : Int32} (ok : Ok x Z own nm bytes ml rt R) (A : Arr Z h a cl .int) (hj : ¬ (j < 0 ∨ cl.slots.size ≤ j.toNatClampNeg)) (hd : decode bytes pc = .ok (.iastore, 1)) (ha : n0 ≤ a)
    (hw : ∀ h', Wr h h' a j.toNatClampNeg (.int z) → WP x n0 Q h' k n (pc + 1) L rest) : WP x n0 Q h k n pc L (.int z :: .int j :: .ref a :: rest) := fun T locs X e N => by
  obtain ⟨T', h', X', e', W, st⟩ := stI X ok.1 ok.2.2.2.2.2.1 e A hj (g := mkF x.m pc L (.int z :: .int j :: .ref a :: rest)) rfl rfl (hb ok.2.1 hd)
  obtain ⟨s₂, o, h1, r⟩ := hw h' W T' _ X' e' (Fr.snoc X' N ha)
  exact ⟨s₂, o, st _ h1, r⟩
theorem wp_stJ {cl : Cell} {j : Int32} {z : Int64} (ok : Ok x Z own nm bytes ml rt R) (A : Arr Z h a cl .long) (hj : ¬ (j < 0 ∨ cl.slots.size ≤ j.toNatClampNeg)) (hd : decode bytes pc = .ok (.lastore, 1)) (ha : n0 ≤ a)
    (hw : ∀ h', Wr h h' a j.toNatClampNeg (.long z) → WP x n0 Q h' k n (pc + 1) L rest) : WP x n0 Q h k n pc L (.long z :: .int j :: .ref a :: rest) := fun T locs X e N => by
  obtain ⟨T', h', X', e', W, st⟩ := stJ X ok.1 ok.2.2.2.2.2.1 e A hj (g := mkF x.m pc L (.long z :: .int j :: .ref a :: rest)) rfl rfl (hb ok.2.1 hd)
  obtain ⟨s₂, o, h1, r⟩ := hw h' W T' _ X' e' (Fr.snoc X' N ha)
  exact ⟨s₂, o, st _ h1, r⟩
theorem wp_ldI {cl : Cell} {j : Int32} (ok : Ok x Z own nm bytes ml rt R) (A : Arr Z h a cl .int) (hj : ¬ (j < 0 ∨ cl.slots.size ≤ j.toNatClampNeg)) (hv : cl.slots[j.toNatClampNeg]? = some v) (hd : decode bytes pc = .ok (.iaload, 1)) (hw : WP x n0 Q h k n (pc + 1) L (v :: rest)) : WP x n0 Q h k n pc L (.int j :: .ref a :: rest) :=
  wp_steps (fun T locs target X e hr => X.iaload ok.1 (by rw [e]; exact A.1) (State.isArrayOf_alike ok.2.2.2.2.2.1.alike A.2.1) A.2.2 hj hv (g := mkF x.m pc L (.int j :: .ref a :: rest)) rfl rfl (hb ok.2.1 hd) target hr) hw
theorem wp_ldJ {cl : Cell} {j : Int32} (ok : Ok x Z own nm bytes ml rt R) (A : Arr Z h a cl .long) (hj : ¬ (j < 0 ∨ cl.slots.size ≤ j.toNatClampNeg)) (hv : cl.slots[j.toNatClampNeg]? = some v) (hd : decode bytes pc = .ok (.laload, 1)) (hw : WP x n0 Q h k n (pc + 1) L (v :: rest)) : WP x n0 Q h k n pc L (.int j :: .ref a :: rest) :=
  wp_steps (fun T locs target X e hr => X.laload ok.1 (by rw [e]; exact A.1) (State.isArrayOf_alike ok.2.2.2.2.2.1.alike A.2.1) A.2.2 hj hv (g := mkF x.m pc L (.int j :: .ref a :: rest)) rfl rfl (hb ok.2.1 hd) target hr) hw
theorem wp_ldB {cl : Cell} {j : Int32} (ok : Ok x Z own nm bytes ml rt R) (A : Arr Z h a cl .byte) (hj : ¬ (j < 0 ∨ cl.slots.size ≤ j.toNatClampNeg)) (hv : cl.slots[j.toNatClampNeg]? = some v) (hd : decode bytes pc = .ok (.baload, 1)) (hw : WP x n0 Q h k n (pc + 1) L (v :: rest)) : WP x n0 Q h k n pc L (.int j :: .ref a :: rest) :=
  wp_steps (fun T locs target X e hr => X.baloadBytes ok.1 (by rw [e]; exact A.1) (State.isArrayOf_alike ok.2.2.2.2.2.1.alike A.2.1) A.2.2 hj hv (g := mkF x.m pc L (.int j :: .ref a :: rest)) rfl rfl (hb ok.2.1 hd) target hr) hw
theorem wp_ldZ {cl : Cell} {j : Int32} (ok : Ok x Z own nm bytes ml rt R) (A : Arr Z h a cl .boolean) (hj : ¬ (j < 0 ∨ cl.slots.size ≤ j.toNatClampNeg)) (hv : cl.slots[j.toNatClampNeg]? = some v) (hd : decode bytes pc = .ok (.baload, 1)) (hw : WP x n0 Q h k n (pc + 1) L (v :: rest)) : WP x n0 Q h k n pc L (.int j :: .ref a :: rest) :=
  wp_steps (fun T locs target X e hr => X.baloadBooleans ok.1 (by rw [e]; exact A.1) (State.isArrayOf_alike ok.2.2.2.2.2.1.alike A.2.1) A.2.2 hj hv (g := mkF x.m pc L (.int j :: .ref a :: rest)) rfl rfl (hb ok.2.1 hd) target hr) hw
theorem wp_len {cl : Cell} {ty : FieldType} (ok : Ok x Z own nm bytes ml rt R) (A : Arr Z h a cl ty) (hd : decode bytes pc = .ok (.arraylength, 1)) (hw : WP x n0 Q h k n (pc + 1) L (.int cl.slots.size.toInt32 :: rest)) : WP x n0 Q h k n pc L (.ref a :: rest) :=
  wp_steps (fun T locs target X e hr => X.arraylength ok.1 (by rw [e]; exact A.1) (State.isArrayOf_alike ok.2.2.2.2.2.1.alike A.2.1) (g := mkF x.m pc L (.ref a :: rest)) rfl rfl (hb ok.2.1 hd) target hr) hw
end Rules
end Jvm.OwnW
namespace Jvm.OwnW
open Jvm.RoadKit
theorem c_lmod (x y : Int64) (d : Int) (hy : y.toInt = d) : (0 ≤ x.toInt → (x % y).toInt = x.toInt % d) ∧ (x.toInt < 0 → (x % y).toInt = -((-x.toInt) % d)) := by rw [← lrem_mod]; exact c_lrem x y d hy
theorem x_ladd {x y : Int64} (h1 : -9223372036854775808 ≤ x.toInt + y.toInt) (h2 : x.toInt + y.toInt < 9223372036854775808) : (x + y).toInt = x.toInt + y.toInt := by
  have := c_ladd x y; have := (x + y).toInt_lt; have := (x + y).le_toInt; omega
theorem x_lsub {x y : Int64} (h1 : -9223372036854775808 ≤ x.toInt - y.toInt) (h2 : x.toInt - y.toInt < 9223372036854775808) : (x - y).toInt = x.toInt - y.toInt := by
  have := c_lsub x y; have := (x - y).toInt_lt; have := (x - y).le_toInt; omega
theorem x_lmul {x y : Int64} (h1 : -9223372036854775808 ≤ x.toInt * y.toInt) (h2 : x.toInt * y.toInt < 9223372036854775808) : (x * y).toInt = x.toInt * y.toInt := by
  have q := c_lmul x y; have := (x * y).toInt_lt; have := (x * y).le_toInt
  generalize x.toInt * y.toInt = p at *; omega
theorem x_iadd {x y : Int32} (h1 : -2147483648 ≤ x.toInt + y.toInt) (h2 : x.toInt + y.toInt < 2147483648) : (x + y).toInt = x.toInt + y.toInt := by
  have := c_iadd x y; have := (x + y).toInt_lt; have := (x + y).le_toInt; omega
theorem x_isub {x y : Int32} (h1 : -2147483648 ≤ x.toInt - y.toInt) (h2 : x.toInt - y.toInt < 2147483648) : (x - y).toInt = x.toInt - y.toInt := by
  have := c_isub x y; have := (x - y).toInt_lt; have := (x - y).le_toInt; omega
theorem x_imul {x y : Int32} (h1 : -2147483648 ≤ x.toInt * y.toInt) (h2 : x.toInt * y.toInt < 2147483648) : (x * y).toInt = x.toInt * y.toInt := by
  have q := c_imul x y; have := (x * y).toInt_lt; have := (x * y).le_toInt
  generalize x.toInt * y.toInt = p at *; omega
theorem nar01 {z : Int32} (h : z = 0 ∨ z = 1) : nar .boolean z = z := by rcases h with rfl | rfl <;> rfl
end Jvm.OwnW
namespace Jvm.OwnW
open Sem ClassFile Op Lib Jvm.Free Jvm.Stand Jvm.LawKit Jvm.RoadKit Jvm.Free.XT
/-! ## plain steps, by evaluation: a block of instructions from a frame to a frame, with the props that it asks (a branch's direction, a divisor) -/
def ush (x y : Int32) : Int32 := (x.toUInt32 >>> (y &&& 31).toUInt32).toInt32
def ushL (x : Int64) (y : Int32) : Int64 := (x.toUInt64 >>> (y &&& 63).toInt64.toUInt64).toInt64
theorem c_ush (x q : Int32) (k : Nat) (hk : q.toBitVec.toNat % 32 = k) (h0 : 0 < k) : (ush x q).toInt = (x.toInt % 4294967296) / (2 ^ k : Nat) := c_iushr x q k hk h0
theorem c_ushL (x : Int64) (q : Int32) (k : Nat) (hk : q.toBitVec.toNat % 64 = k) (h0 : 0 < k) : (ushL x q).toInt = (x.toInt % 18446744073709551616) / (2 ^ k : Nat) := c_lushr x q k hk h0
abbrev Res : Type := Option (List Prop × Nat × Array Slot × List Value)
def bin32 (f : Int32 → Int32 → Int32) (pc : Nat) (L : Array Slot) : List Value → Res
  | .int y :: .int z :: r => some ([], pc + 1, L, .int (f z y) :: r)
  | _ => none
def bin64 (f : Int64 → Int64 → Int64) (pc : Nat) (L : Array Slot) : List Value → Res
  | .long y :: .long z :: r => some ([], pc + 1, L, .long (f z y) :: r)
  | _ => none
def sh64 (f : Int64 → Int32 → Int64) (pc : Nat) (L : Array Slot) : List Value → Res
  | .int y :: .long z :: r => some ([], pc + 1, L, .long (f z y) :: r)
  | _ => none
def un32 (f : Int32 → Value) (pc : Nat) (L : Array Slot) : List Value → Res
  | .int z :: r => some ([], pc + 1, L, f z :: r)
  | _ => none
def un64 (f : Int64 → Value) (pc : Nat) (L : Array Slot) : List Value → Res
  | .long z :: r => some ([], pc + 1, L, f z :: r)
  | _ => none
def ldK (ok : Value → Bool) (i pc' : Nat) (L : Array Slot) (S : List Value) : Res :=
  match L[i]? with
  | some (.val v) => if ok v = true then some ([], pc', L, v :: S) else none
  | _ => none
def stK (ok : Value → Bool) (i pc' : Nat) (L : Array Slot) : List Value → Res
  | v :: r => if ok v = true then (match storeLocals L i v with | some L' => some ([], pc', L', r) | none => none) else none
  | [] => none
def isI : Value → Bool | .int _ => true | _ => false
def isJ : Value → Bool | .long _ => true | _ => false
def constI : Option Value → Option Int32 | some (.int z) => some z | _ => none
def constJ : Option Value → Option Int64 | some (.long z) => some z | _ => none
def look (K : List (Nat × Value)) (i : Nat) : Option Value := match K with
  | [] => none
  | (j, v) :: r => if j = i then some v else look r i
def jump (pc : Nat) (o : Int) : Option Nat := if 0 ≤ (pc : Int) + o then some ((pc : Int) + o).toNat else none
def br (p : Prop) (b : Bool) (pc : Nat) (o : Int) (L : Array Slot) (S : List Value) : Res :=
  if b = true then (match jump pc o with | some q => some ([p], q, L, S) | none => none) else some ([p], pc + 3, L, S)
def stp (K : List (Nat × Value)) (b : Bool) (i : Instr) (pc : Nat) (L : Array Slot) (S : List Value) : Res :=
  match i with
  | .iconst z => some ([], pc + 1, L, .int (Int32.ofInt z) :: S)
  | .bipush z => some ([], pc + 2, L, .int (Int8.ofInt z).toInt32 :: S)
  | .sipush z => some ([], pc + 3, L, .int (Int16.ofInt z).toInt32 :: S)
  | .lconst z => some ([], pc + 1, L, .long (Int64.ofNat z) :: S)
  | .aconst_null => some ([], pc + 1, L, .null :: S)
  | .ldc j => (match constI (look K j) with | some z => some ([], pc + 2, L, .int z :: S) | none => none)
  | .ldc2_w j => (match constJ (look K j) with | some z => some ([], pc + 3, L, .long z :: S) | none => none)
  | .iload_n j => ldK isI j.val (pc + 1) L S
  | .iload j => ldK isI j (pc + 2) L S
  | .lload_n j => ldK isJ j.val (pc + 1) L S
  | .lload j => ldK isJ j (pc + 2) L S
  | .aload_n j => ldK Value.isRef j.val (pc + 1) L S
  | .aload j => ldK Value.isRef j (pc + 2) L S
  | .istore_n j => stK isI j.val (pc + 1) L S
  | .istore j => stK isI j (pc + 2) L S
  | .lstore_n j => stK isJ j.val (pc + 1) L S
  | .lstore j => stK isJ j (pc + 2) L S
  | .astore_n j => stK Value.isRef j.val (pc + 1) L S
  | .astore j => stK Value.isRef j (pc + 2) L S
  | .iadd => bin32 (fun z y => z + y) pc L S
  | .isub => bin32 (fun z y => z - y) pc L S
  | .imul => bin32 (fun z y => z * y) pc L S
  | .iand => bin32 (fun z y => z &&& y) pc L S
  | .ior => bin32 (fun z y => z ||| y) pc L S
  | .ixor => bin32 (fun z y => z ^^^ y) pc L S
  | .ishl => bin32 (fun z y => z <<< (y &&& 31)) pc L S
  | .ishr => bin32 (fun z y => z >>> (y &&& 31)) pc L S
  | .iushr => bin32 (fun z y => ush z y) pc L S
  | .ladd => bin64 (fun z y => z + y) pc L S
  | .lsub => bin64 (fun z y => z - y) pc L S
  | .lmul => bin64 (fun z y => z * y) pc L S
  | .land => bin64 (fun z y => z &&& y) pc L S
  | .lor => bin64 (fun z y => z ||| y) pc L S
  | .lxor => bin64 (fun z y => z ^^^ y) pc L S
  | .lshl => sh64 (fun z y => z <<< (y &&& 63).toInt64) pc L S
  | .lshr => sh64 (fun z y => z >>> (y &&& 63).toInt64) pc L S
  | .lushr => sh64 (fun z y => ushL z y) pc L S
  | .ineg => un32 (fun z => .int (-z)) pc L S
  | .lneg => un64 (fun z => .long (-z)) pc L S
  | .i2l => un32 (fun z => .long z.toInt64) pc L S
  | .l2i => un64 (fun z => .int z.toInt32) pc L S
  | .i2b => un32 (fun z => .int z.toInt8.toInt32) pc L S
  | .i2c => un32 (fun z => .int z.toUInt32.toUInt16.toUInt32.toInt32) pc L S
  | .i2s => un32 (fun z => .int z.toInt16.toInt32) pc L S
  | .idiv => (match S with | .int y :: .int z :: r => some ([y ≠ 0], pc + 1, L, .int (z / y) :: r) | _ => none)
  | .irem => (match S with | .int y :: .int z :: r => some ([y ≠ 0], pc + 1, L, .int (z % y) :: r) | _ => none)
  | .ldiv => (match S with | .long y :: .long z :: r => some ([y ≠ 0], pc + 1, L, .long (z / y) :: r) | _ => none)
  | .lrem => (match S with | .long y :: .long z :: r => some ([y ≠ 0], pc + 1, L, .long (z % y) :: r) | _ => none)
  | .lcmp => (match S with | .long y :: .long z :: r => some ([], pc + 1, L, .int (cmpL z y) :: r) | _ => none)
  | .pop => (match S with | v :: r => if v.category = 1 then some ([], pc + 1, L, r) else none | _ => none)
  | .dup => (match S with | v :: r => if v.category = 1 then some ([], pc + 1, L, v :: v :: r) else none | _ => none)
  | .dup_x1 => (match S with | v :: w :: r => if v.category = 1 ∧ w.category = 1 then some ([], pc + 1, L, v :: w :: v :: r) else none | _ => none)
  | .dup2 => (match S with | v :: w :: r => if v.category = 1 ∧ w.category = 1 then some ([], pc + 1, L, v :: w :: v :: w :: r) else none | _ => none)
  | .iinc j c => (match L[j]? with | some (.val (.int z)) => (match storeLocals L j (.int (z + Int32.ofInt c)) with | some L' => some ([], pc + 3, L', S) | none => none) | _ => none)
  | .goto o => (match jump pc o with | some q => some ([], q, L, S) | none => none)
  | .ifCond cd o => (match S with | .int z :: r => br (ifCond.holds cd z = b) b pc o L r | _ => none)
  | .if_icmp cd o => (match S with | .int y :: .int z :: r => br (if_icmp.holds cd z y = b) b pc o L r | _ => none)
  | .ifnull o => (match S with | .null :: r => if b = true then br True b pc o L r else none | .ref _ :: r => if b = true then none else br True b pc o L r | _ => none)
  | .ifnonnull o => (match S with | .null :: r => if b = true then none else br True b pc o L r | .ref _ :: r => if b = true then br True b pc o L r else none | _ => none)
  | _ => none
def ilen : Instr → Nat
  | .bipush _ => 2 | .ldc _ => 2 | .iload _ => 2 | .lload _ => 2 | .aload _ => 2 | .istore _ => 2 | .lstore _ => 2 | .astore _ => 2
  | .sipush _ => 3 | .ldc2_w _ => 3 | .iinc _ _ => 3 | .goto _ => 3 | .ifCond _ _ => 3 | .if_icmp _ _ => 3 | .ifnull _ => 3 | .ifnonnull _ => 3
  | _ => 1
def runL (K : List (Nat × Value)) : List (Nat × Instr × Bool) → Nat → Array Slot → List Value → Res
  | [], pc, L, S => some ([], pc, L, S)
  | (q, i, b) :: r, pc, L, S => if q = pc then (match stp K b i pc L S with
      | none => none
      | some (ps, pc', L', S') => match runL K r pc' L' S' with
        | none => none
        | some (ps', t) => some (ps ++ ps', t)) else none
def decs (bytes : ByteArray) (B : List (Nat × Instr × Bool)) : Bool := B.all fun q => decide (decode bytes q.1 = .ok (q.2.1, ilen q.2.1))
def allP : List Prop → Prop
  | [] => True
  | p :: r => p ∧ allP r
theorem allP_append {ps qs : List Prop} (h : allP (ps ++ qs)) : allP ps ∧ allP qs := by
  induction ps with
  | nil => exact ⟨trivial, h⟩
  | cons p r ih => exact ⟨⟨h.1, (ih h.2).1⟩, (ih h.2).2⟩
def Konst (Z : State) (a0 : Array Value) (own : String) : List (Nat × Value) → Prop
  | [] => True
  | (i, v) :: r => ((∃ z, v = .int z ∧ (Jvm.Cond.constant own i z).before a0 Z = true) ∨ (∃ z, v = .long z ∧ (Jvm.Cond.constantLong own i z).before a0 Z = true)) ∧ Konst Z a0 own r
theorem look_spec {Z : State} {a0 : Array Value} {own : String} {K : List (Nat × Value)} (hK : Konst Z a0 own K) {i : Nat} {v : Value} (h : look K i = some v) : (∃ z, v = .int z ∧ (Jvm.Cond.constant own i z).before a0 Z = true) ∨ (∃ z, v = .long z ∧ (Jvm.Cond.constantLong own i z).before a0 Z = true) := by
  induction K with
  | nil => cases h
  | cons q r ih =>
    obtain ⟨j, w⟩ := q
    simp only [look] at h
    split at h
    · rename_i e; subst e; cases h; exact hK.1
    · exact ih hK.2 h
theorem constI_spec {o : Option Value} {z : Int32} (h : constI o = some z) : o = some (.int z) := by
  cases o with
  | none => cases h
  | some v => cases v <;> simp [constI] at h; rw [h]
theorem constJ_spec {o : Option Value} {z : Int64} (h : constJ o = some z) : o = some (.long z) := by
  cases o with
  | none => cases h
  | some v => cases v <;> simp [constJ] at h; rw [h]
theorem ldK_spec {ok : Value → Bool} {i q : Nat} {L : Array Slot} {S : List Value} {ps : List Prop} {pc' : Nat} {L' : Array Slot} {S' : List Value} (h : ldK ok i q L S = some (ps, pc', L', S')) : ∃ v, L[i]? = some (.val v) ∧ ok v = true ∧ pc' = q ∧ L' = L ∧ S' = v :: S := by
  unfold ldK at h
  split at h
  · split at h
    · rename_i v e1 e2; cases h; exact ⟨v, e1, e2, rfl, rfl, rfl⟩
    · cases h
  · cases h
theorem stK_spec {ok : Value → Bool} {i q : Nat} {L : Array Slot} {S : List Value} {ps : List Prop} {pc' : Nat} {L' : Array Slot} {S' : List Value} (h : stK ok i q L S = some (ps, pc', L', S')) : ∃ v, S = v :: S' ∧ ok v = true ∧ pc' = q ∧ storeLocals L i v = some L' := by
  cases S with
  | nil => cases h
  | cons v r =>
    simp only [stK] at h
    split at h
    · split at h
      · rename_i e1 _ _ e2; cases h; exact ⟨v, rfl, e1, rfl, e2⟩
      · cases h
    · cases h
theorem isI_spec {v : Value} (h : isI v = true) : ∃ z, v = .int z := by cases v <;> simp [isI] at h ⊢
theorem isJ_spec {v : Value} (h : isJ v = true) : ∃ z, v = .long z := by cases v <;> simp [isJ] at h ⊢
theorem bin32_spec {f : Int32 → Int32 → Int32} {pc : Nat} {L : Array Slot} {S : List Value} {ps : List Prop} {pc' : Nat} {L' : Array Slot} {S' : List Value} (h : bin32 f pc L S = some (ps, pc', L', S')) : ∃ z y r, S = .int y :: .int z :: r ∧ pc' = pc + 1 ∧ L' = L ∧ S' = .int (f z y) :: r := by
  unfold bin32 at h; split at h
  · cases h; exact ⟨_, _, _, rfl, rfl, rfl, rfl⟩
  · cases h
theorem bin64_spec {f : Int64 → Int64 → Int64} {pc : Nat} {L : Array Slot} {S : List Value} {ps : List Prop} {pc' : Nat} {L' : Array Slot} {S' : List Value} (h : bin64 f pc L S = some (ps, pc', L', S')) : ∃ z y r, S = .long y :: .long z :: r ∧ pc' = pc + 1 ∧ L' = L ∧ S' = .long (f z y) :: r := by
  unfold bin64 at h; split at h
  · cases h; exact ⟨_, _, _, rfl, rfl, rfl, rfl⟩
  · cases h
theorem sh64_spec {f : Int64 → Int32 → Int64} {pc : Nat} {L : Array Slot} {S : List Value} {ps : List Prop} {pc' : Nat} {L' : Array Slot} {S' : List Value} (h : sh64 f pc L S = some (ps, pc', L', S')) : ∃ z y r, S = .int y :: .long z :: r ∧ pc' = pc + 1 ∧ L' = L ∧ S' = .long (f z y) :: r := by
  unfold sh64 at h; split at h
  · cases h; exact ⟨_, _, _, rfl, rfl, rfl, rfl⟩
  · cases h
theorem un32_spec {f : Int32 → Value} {pc : Nat} {L : Array Slot} {S : List Value} {ps : List Prop} {pc' : Nat} {L' : Array Slot} {S' : List Value} (h : un32 f pc L S = some (ps, pc', L', S')) : ∃ z r, S = .int z :: r ∧ pc' = pc + 1 ∧ L' = L ∧ S' = f z :: r := by
  unfold un32 at h; split at h
  · cases h; exact ⟨_, _, rfl, rfl, rfl, rfl⟩
  · cases h
theorem un64_spec {f : Int64 → Value} {pc : Nat} {L : Array Slot} {S : List Value} {ps : List Prop} {pc' : Nat} {L' : Array Slot} {S' : List Value} (h : un64 f pc L S = some (ps, pc', L', S')) : ∃ z r, S = .long z :: r ∧ pc' = pc + 1 ∧ L' = L ∧ S' = f z :: r := by
  unfold un64 at h; split at h
  · cases h; exact ⟨_, _, rfl, rfl, rfl, rfl⟩
  · cases h
theorem jump_spec {pc q : Nat} {o : Int} (h : jump pc o = some q) : 0 ≤ (pc : Int) + o ∧ ((pc : Int) + o).toNat = q := by
  unfold jump at h; split at h
  · cases h; exact ⟨by assumption, rfl⟩
  · cases h
theorem br_spec {p : Prop} {b : Bool} {pc : Nat} {o : Int} {L : Array Slot} {S : List Value} {ps : List Prop} {pc' : Nat} {L' : Array Slot} {S' : List Value} (h : br p b pc o L S = some (ps, pc', L', S')) : ps = [p] ∧ L' = L ∧ S' = S ∧ ((b = true ∧ jump pc o = some pc') ∨ (b = false ∧ pc' = pc + 3)) := by
  unfold br at h; split at h
  · rename_i e; split at h
    · rename_i e2; cases h; exact ⟨rfl, rfl, rfl, Or.inl ⟨e, e2⟩⟩
    · cases h
  · rename_i e; cases h; exact ⟨rfl, rfl, rfl, Or.inr ⟨by simpa using e, rfl⟩⟩
section Run
variable {x : Cx} {Z : State} {own nm : String} {bytes : ByteArray} {ml : Nat} {rt : Option FieldType} {R : Room} {n0 : Nat} {Q : Post} {h : Heap} {k n : Nat} {pc pc' : Nat} {L L' : Array Slot} {S S' rest : List Value} {a0 : Array Value} {K : List (Nat × Value)} {ps : List Prop}
theorem stp_ok (ok : Ok x Z own nm bytes ml rt R) (hK : Konst Z a0 own K) {b : Bool} {i : Instr} (hd : decode bytes pc = .ok (i, ilen i)) (hs : stp K b i pc L S = some (ps, pc', L', S')) (hp : allP ps)
    {T : State} {locs : List Loc} {target : State} (X : Sd x T locs k n) (hr : Steps x.p.tables x.e x.below (T.setTop (mkF x.m pc' L' S')) target) : Steps x.p.tables x.e x.below (T.setTop (mkF x.m pc L S)) target := by
  obtain ⟨hx, hby, -, hown, -, hZ, -⟩ := ok
  have hd' := hb hby hd
  have hA : At T x.m x.c x.below := X.here
  cases i
  case iconst z => cases hs; exact XS.iconst hA hx rfl hd' hr
  case bipush z => cases hs; exact XS.bipush hA hx rfl hd' hr
  case sipush z => cases hs; exact XS.sipush hA hx rfl hd' hr
  case lconst z => cases hs; exact XS.lconst hA hx rfl hd' hr
  case aconst_null => cases hs; exact XS.aconstNull hA hx rfl hd' hr
  case ldc j =>
    simp only [stp] at hs
    split at hs
    · rename_i e
      cases hs
      rcases look_spec hK (constI_spec e) with ⟨z, e1, e2⟩ | ⟨z, e1, e2⟩
      · cases e1; exact X.ldcI hx hown (mvT hZ e2) rfl hd' hr
      · cases e1
    · cases hs
  case ldc2_w j =>
    simp only [stp] at hs
    split at hs
    · rename_i e
      cases hs
      rcases look_spec hK (constJ_spec e) with ⟨z, e1, e2⟩ | ⟨z, e1, e2⟩
      · cases e1
      · cases e1; exact X.ldc2J hx hown (mvT hZ e2) rfl hd' hr
    · cases hs
  case iload_n j => obtain ⟨v, e1, e2, rfl, rfl, rfl⟩ := ldK_spec hs; obtain ⟨z, rfl⟩ := isI_spec e2; exact XS.iloadN hA hx rfl hd' e1 hr
  case iload j => obtain ⟨v, e1, e2, rfl, rfl, rfl⟩ := ldK_spec hs; obtain ⟨z, rfl⟩ := isI_spec e2; exact XS.iload hA hx rfl hd' e1 hr
  case lload_n j => obtain ⟨v, e1, e2, rfl, rfl, rfl⟩ := ldK_spec hs; obtain ⟨z, rfl⟩ := isJ_spec e2; exact XS.lloadN hA hx rfl hd' e1 hr
  case lload j => obtain ⟨v, e1, e2, rfl, rfl, rfl⟩ := ldK_spec hs; obtain ⟨z, rfl⟩ := isJ_spec e2; exact XS.lload hA hx rfl hd' e1 hr
  case aload_n j => obtain ⟨v, e1, e2, rfl, rfl, rfl⟩ := ldK_spec hs; exact XS.aloadN hA hx rfl hd' e1 e2 hr
  case aload j => obtain ⟨v, e1, e2, rfl, rfl, rfl⟩ := ldK_spec hs; exact XS.aload hA hx rfl hd' e1 e2 hr
  case istore_n j => obtain ⟨v, rfl, e2, rfl, e3⟩ := stK_spec hs; obtain ⟨z, rfl⟩ := isI_spec e2; exact XS.istoreN hA hx rfl hd' rfl e3 hr
  case istore j => obtain ⟨v, rfl, e2, rfl, e3⟩ := stK_spec hs; obtain ⟨z, rfl⟩ := isI_spec e2; exact XS.istore hA hx rfl hd' rfl e3 hr
  case lstore_n j => obtain ⟨v, rfl, e2, rfl, e3⟩ := stK_spec hs; obtain ⟨z, rfl⟩ := isJ_spec e2; exact XS.lstoreN hA hx rfl hd' rfl e3 hr
  case lstore j => obtain ⟨v, rfl, e2, rfl, e3⟩ := stK_spec hs; obtain ⟨z, rfl⟩ := isJ_spec e2; exact XS.lstore hA hx rfl hd' rfl e3 hr
  case astore_n j => obtain ⟨v, rfl, e2, rfl, e3⟩ := stK_spec hs; exact XS.astoreN hA hx rfl hd' rfl e2 e3 hr
  case astore j => obtain ⟨v, rfl, e2, rfl, e3⟩ := stK_spec hs; exact XS.astore hA hx rfl hd' rfl e2 e3 hr
  case iadd => obtain ⟨z, y, r, rfl, rfl, rfl, rfl⟩ := bin32_spec hs; exact XS.iadd hA hx rfl hd' rfl hr
  case isub => obtain ⟨z, y, r, rfl, rfl, rfl, rfl⟩ := bin32_spec hs; exact XS.isub hA hx rfl hd' rfl hr
  case imul => obtain ⟨z, y, r, rfl, rfl, rfl, rfl⟩ := bin32_spec hs; exact XS.imul hA hx rfl hd' rfl hr
  case iand => obtain ⟨z, y, r, rfl, rfl, rfl, rfl⟩ := bin32_spec hs; exact XS.iand hA hx rfl hd' rfl hr
  case ior => obtain ⟨z, y, r, rfl, rfl, rfl, rfl⟩ := bin32_spec hs; exact XS.ior hA hx rfl hd' rfl hr
  case ixor => obtain ⟨z, y, r, rfl, rfl, rfl, rfl⟩ := bin32_spec hs; exact XS.ixor hA hx rfl hd' rfl hr
  case ishl => obtain ⟨z, y, r, rfl, rfl, rfl, rfl⟩ := bin32_spec hs; exact XS.ishl hA hx rfl hd' rfl hr
  case ishr => obtain ⟨z, y, r, rfl, rfl, rfl, rfl⟩ := bin32_spec hs; exact XS.ishr hA hx rfl hd' rfl hr
  case iushr => obtain ⟨z, y, r, rfl, rfl, rfl, rfl⟩ := bin32_spec hs; exact XS.iushr hA hx rfl hd' rfl hr
  case ladd => obtain ⟨z, y, r, rfl, rfl, rfl, rfl⟩ := bin64_spec hs; exact XS.ladd hA hx rfl hd' rfl hr
  case lsub => obtain ⟨z, y, r, rfl, rfl, rfl, rfl⟩ := bin64_spec hs; exact XS.lsub hA hx rfl hd' rfl hr
  case lmul => obtain ⟨z, y, r, rfl, rfl, rfl, rfl⟩ := bin64_spec hs; exact XS.lmul hA hx rfl hd' rfl hr
  case land => obtain ⟨z, y, r, rfl, rfl, rfl, rfl⟩ := bin64_spec hs; exact XS.land hA hx rfl hd' rfl hr
  case lor => obtain ⟨z, y, r, rfl, rfl, rfl, rfl⟩ := bin64_spec hs; exact XS.lor hA hx rfl hd' rfl hr
  case lxor => obtain ⟨z, y, r, rfl, rfl, rfl, rfl⟩ := bin64_spec hs; exact XS.lxor hA hx rfl hd' rfl hr
  case lshl => obtain ⟨z, y, r, rfl, rfl, rfl, rfl⟩ := sh64_spec hs; exact XS.lshl hA hx rfl hd' rfl hr
  case lshr => obtain ⟨z, y, r, rfl, rfl, rfl, rfl⟩ := sh64_spec hs; exact XS.lshr hA hx rfl hd' rfl hr
  case lushr => obtain ⟨z, y, r, rfl, rfl, rfl, rfl⟩ := sh64_spec hs; exact XS.lushr hA hx rfl hd' rfl hr
  case ineg => obtain ⟨z, r, rfl, rfl, rfl, rfl⟩ := un32_spec hs; exact XS.ineg hA hx rfl hd' rfl hr
  case lneg => obtain ⟨z, r, rfl, rfl, rfl, rfl⟩ := un64_spec hs; exact XS.lneg hA hx rfl hd' rfl hr
  case i2l => obtain ⟨z, r, rfl, rfl, rfl, rfl⟩ := un32_spec hs; exact XS.i2l hA hx rfl hd' rfl hr
  case l2i => obtain ⟨z, r, rfl, rfl, rfl, rfl⟩ := un64_spec hs; exact XS.l2i hA hx rfl hd' rfl hr
  case i2b => obtain ⟨z, r, rfl, rfl, rfl, rfl⟩ := un32_spec hs; exact XS.i2b hA hx rfl hd' rfl hr
  case i2c => obtain ⟨z, r, rfl, rfl, rfl, rfl⟩ := un32_spec hs; exact XS.i2c hA hx rfl hd' rfl hr
  case i2s => obtain ⟨z, r, rfl, rfl, rfl, rfl⟩ := un32_spec hs; exact XS.i2s hA hx rfl hd' rfl hr
  case idiv =>
    simp only [stp] at hs
    split at hs
    · cases hs; exact XS.idiv hA hx rfl hd' rfl hp.1 hr
    · cases hs
  case irem =>
    simp only [stp] at hs
    split at hs
    · cases hs; exact iremM X hx rfl hd' rfl hp.1 hr
    · cases hs
  case ldiv =>
    simp only [stp] at hs
    split at hs
    · cases hs; exact XS.ldiv hA hx rfl hd' rfl hp.1 hr
    · cases hs
  case lrem =>
    simp only [stp] at hs
    split at hs
    · rename_i y z r
      cases hs
      have q : z - z / y * y = z % y := lrem_mod z y
      exact XS.lrem hA hx rfl hd' rfl hp.1 (by rw [q]; exact hr)
    · cases hs
  case lcmp =>
    simp only [stp] at hs
    split at hs
    · cases hs; exact XS.lcmp hA hx rfl hd' rfl hr
    · cases hs
  case pop =>
    simp only [stp] at hs
    split at hs
    · split at hs
      · rename_i e; cases hs; exact XS.pop hA hx rfl hd' rfl e hr
      · cases hs
    · cases hs
  case dup =>
    simp only [stp] at hs
    split at hs
    · split at hs
      · rename_i e; cases hs; exact XS.dup hA hx rfl hd' rfl e hr
      · cases hs
    · cases hs
  case dup_x1 =>
    simp only [stp] at hs
    split at hs
    · split at hs
      · rename_i e; cases hs; exact XS.dupX1 hA hx rfl hd' rfl e.1 e.2 hr
      · cases hs
    · cases hs
  case dup2 =>
    simp only [stp] at hs
    split at hs
    · split at hs
      · rename_i e; cases hs; exact XT.dup2 hA hx rfl hd' rfl e.1 e.2 hr
      · cases hs
    · cases hs
  case iinc j c =>
    simp only [stp] at hs
    split at hs
    · rename_i e1
      split at hs
      · rename_i e2; cases hs; exact XS.iinc hA hx rfl hd' e1 e2 hr
      · cases hs
    · cases hs
  case goto o =>
    simp only [stp] at hs
    split at hs
    · rename_i e; cases hs; obtain ⟨e1, e2⟩ := jump_spec e; exact XS.goto hA hx rfl rfl hd' e1 e2 hr
    · cases hs
  case ifCond cd o =>
    simp only [stp] at hs
    split at hs
    · obtain ⟨rfl, rfl, rfl, ⟨rfl, e⟩ | ⟨rfl, rfl⟩⟩ := br_spec hs
      · obtain ⟨e1, e2⟩ := jump_spec e; exact XS.ifYes hA hx rfl rfl hd' rfl hp.1 e1 e2 hr
      · exact XS.ifNo hA hx rfl hd' rfl hp.1 hr
    · cases hs
  case if_icmp cd o =>
    simp only [stp] at hs
    split at hs
    · obtain ⟨rfl, rfl, rfl, ⟨rfl, e⟩ | ⟨rfl, rfl⟩⟩ := br_spec hs
      · obtain ⟨e1, e2⟩ := jump_spec e; exact XS.icmpYes hA hx rfl rfl hd' rfl hp.1 e1 e2 hr
      · exact XS.icmpNo hA hx rfl hd' rfl hp.1 hr
    · cases hs
  case ifnull o =>
    simp only [stp] at hs
    split at hs
    · split at hs
      · rename_i e0; subst e0
        obtain ⟨rfl, rfl, rfl, ⟨-, e⟩ | ⟨e, -⟩⟩ := br_spec hs
        · obtain ⟨e1, e2⟩ := jump_spec e; exact XS.ifnullYes hA hx rfl rfl hd' rfl e1 e2 hr
        · cases e
      · cases hs
    · split at hs
      · cases hs
      · rename_i e0
        obtain ⟨rfl, rfl, rfl, ⟨e, -⟩ | ⟨-, rfl⟩⟩ := br_spec hs
        · exact absurd e e0
        · exact XS.ifnullNo hA hx rfl hd' rfl hr
    · cases hs
  case ifnonnull o =>
    simp only [stp] at hs
    split at hs
    · split at hs
      · cases hs
      · rename_i e0
        obtain ⟨rfl, rfl, rfl, ⟨e, -⟩ | ⟨-, rfl⟩⟩ := br_spec hs
        · exact absurd e e0
        · exact XS.ifnonnullNo hA hx rfl hd' rfl hr
    · split at hs
      · rename_i e0; subst e0
        obtain ⟨rfl, rfl, rfl, ⟨-, e⟩ | ⟨e, -⟩⟩ := br_spec hs
        · obtain ⟨e1, e2⟩ := jump_spec e; exact XS.ifnonnullYes hA hx rfl rfl hd' rfl e1 e2 hr
        · cases e
      · cases hs
    · cases hs
  all_goals cases hs
theorem run_ok (ok : Ok x Z own nm bytes ml rt R) (hK : Konst Z a0 own K) : ∀ (B : List (Nat × Instr × Bool)) {pc : Nat} {L : Array Slot} {S : List Value} {ps : List Prop} {pc' : Nat} {L' : Array Slot} {S' : List Value}, decs bytes B = true → runL K B pc L S = some (ps, pc', L', S') → allP ps →
    ∀ {T : State} {locs : List Loc} {target : State}, Sd x T locs k n → Steps x.p.tables x.e x.below (T.setTop (mkF x.m pc' L' S')) target → Steps x.p.tables x.e x.below (T.setTop (mkF x.m pc L S)) target
  | [], pc, L, S, ps, pc', L', S', _, hr, _, T, locs, target, X, st => by cases hr; exact st
  | (q, i, b) :: r, pc, L, S, ps, pc', L', S', hd, hr, hp, T, locs, target, X, st => by
    simp only [decs, List.all_cons, Bool.and_eq_true, decide_eq_true_eq] at hd
    simp only [runL] at hr
    split at hr
    · rename_i e; subst e
      split at hr
      · cases hr
      · rename_i ps1 pc1 L1 S1 e1
        split at hr
        · cases hr
        · rename_i ps2 t e2
          cases hr
          obtain ⟨p1, p2⟩ := allP_append hp
          exact stp_ok ok hK hd.1 e1 p1 X (run_ok ok hK r hd.2 e2 p2 X st)
    · cases hr
theorem wp_run (ok : Ok x Z own nm bytes ml rt R) (hK : Konst Z a0 own K) {B : List (Nat × Instr × Bool)} (hd : decs bytes B = true) (hr : runL K B pc L S = some (ps, pc', L', S')) (hp : allP ps) (w : WP x n0 Q h k n pc' L' S') : WP x n0 Q h k n pc L S :=
  wp_steps (fun T locs target X _ st => run_ok ok hK B hd hr hp X st) w
end Run
end Jvm.OwnW
namespace Jvm.OwnW
open Sem ClassFile Op Lib Jvm.Free Jvm.Stand Jvm.LawKit Jvm.RoadKit Jvm.Free.XT
/-! ## arrays by length and content -/
def Ar (Z : State) (h : Heap) (a : Addr) (ty : FieldType) (n : Nat) (f : Nat → Value) : Prop := ∃ c : Cell, Arr Z h a c ty ∧ c.slots.size = n ∧ ∀ i, i < n → c.slots[i]? = some (f i)
theorem idx_of {j : Int32} {i : Nat} (hj : j.toInt = i) : j.toNatClampNeg = i ∧ ¬ j < 0 := by
  refine ⟨by simp only [Int32.toNatClampNeg, hj]; exact Int.toNat_natCast i, ?_⟩
  rw [Int32.lt_iff_toInt_lt, hj]; show ¬ (i : Int) < 0; omega
theorem idx_in' {j : Int32} {i n : Nat} (hj : j.toInt = i) (hi : i < n) : ¬ (j < 0 ∨ n ≤ j.toNatClampNeg) := by
  obtain ⟨q1, q2⟩ := idx_of hj
  rw [q1]; intro q; rcases q with q | q
  · exact q2 q
  · omega
section Facts
variable {Z : State} {h h' : Heap} {a b : Addr} {ty : FieldType} {n : Nat} {f g : Nat → Value} {sl : Nat} {v : Value} {ws : List Addr}
theorem Ar.lt (A : Ar Z h a ty n f) : a < h.size := by obtain ⟨c, A, -⟩ := A; exact A.lt
theorem Ar.ext (A : Ar Z h a ty n f) (E : Ext h h') : Ar Z h' a ty n f := by obtain ⟨c, A, r⟩ := A; exact ⟨c, A.ext E, r⟩
theorem Ar.other (A : Ar Z h b ty n f) (W : Wr h h' a sl v) (q : b ≠ a) : Ar Z h' b ty n f := by obtain ⟨c, A, r⟩ := A; exact ⟨c, A.other W q, r⟩
theorem Ar.keep (A : Ar Z h a ty n f) (K : Keep h h' ws) (q : a ∉ ws) : Ar Z h' a ty n f := by obtain ⟨c, A, r⟩ := A; exact ⟨c, ⟨K.2.1 a c A.1 q, A.2⟩, r⟩
theorem Ar.cong (A : Ar Z h a ty n f) (e : ∀ i, i < n → f i = g i) : Ar Z h a ty n g := by obtain ⟨c, A, s, r⟩ := A; exact ⟨c, A, s, fun i hi => by rw [← e i hi]; exact r i hi⟩
theorem Ar.same (A : Ar Z h a ty n f) (W : Wr h h' a sl v) (hs : sl < n) : Ar Z h' a ty n (fun i => if i = sl then v else f i) := by
  obtain ⟨c, A, s, r⟩ := A
  refine ⟨_, A.same W, by rw [sz_set]; exact s, fun i hi => ?_⟩
  show (c.setSlot sl v).slots[i]? = some (if i = sl then v else f i)
  by_cases e : i = sl
  · subst e; rw [if_pos rfl]; simp [Cell.setSlot, s, hs]
  · rw [if_neg e]; simp only [Cell.setSlot]; rw [Array.getElem?_setIfInBounds_ne (Ne.symm e)]; exact r i hi
theorem Ar.new {cA : ClassId} {z : Int32} (A : Arr Z h a (newA cA ty z) ty) (hz : z.toNatClampNeg = n) : Ar Z h a ty n (fun _ => defaultValue ty) := ⟨_, A, by rw [sz_new]; exact hz, fun i hi => by simp [newA, hz, hi]⟩
theorem Ar.toArv (A : Ar Z h a ty n f) (hn : n < 2 ^ 31) (hf : ∀ i, i < n → fits ty (f i) = true) (dv : Value) : ∃ k, Arv Z h a k ty (Int32.ofNat n) ((List.range n).map f) dv := by
  obtain ⟨c, A, s, r⟩ := A
  have e : (Int32.ofNat n).toInt = n := len_toInt hn
  obtain ⟨q1, q2⟩ := idx_of e
  have gd : ∀ i, i < n → ((List.range n).map f).getD i dv = f i := fun i hi => by simp [hi]
  exact ⟨c.cls, c, A, rfl, by rw [s, q1], q2, fun i hi => by rw [s] at hi; rw [gd i hi]; exact r i hi, fun i hi => by rw [s] at hi; rw [gd i hi]; exact hf i hi⟩
theorem Ar.ofArv {k : ClassId} {z : Int32} {vs : List Value} {dv : Value} (A : Arv Z h a k ty z vs dv) (hz : z.toNatClampNeg = n) : Ar Z h a ty n (fun i => vs.getD i dv) := by
  obtain ⟨c, A, -, s, -, H, -⟩ := A
  exact ⟨c, A, s.trans hz, fun i hi => H i (by rw [s, hz]; exact hi)⟩
theorem ne_ar {C : String} {a0 : Array Value} {k : Nat} (F : Exa Z h a C) (wi : (Jvm.Cond.instantiable C k).before a0 Z = true) (G : Ar Z h b ty n f) : a ≠ b := by obtain ⟨c, A, -⟩ := G; exact ne_arr F wi A
end Facts
section Rules
variable {x : Cx} {Z : State} {own nm : String} {bytes : ByteArray} {ml : Nat} {rt : Option FieldType} {R : Room} {n0 : Nat} {Q : Post} {h : Heap} {k n : Nat} {pc : Nat} {L : Array Slot} {S rest : List Value} {a0 : Array Value} {a : Addr} {v : Value} {len i : Nat} {f : Nat → Value} {j : Int32}
theorem wp_aI (ok : Ok x Z own nm bytes ml rt R) (A : Ar Z h a .int len f) (hj : j.toInt = i) (hi : i < len) (hv : f i = v) (hd : decode bytes pc = .ok (.iaload, 1)) (hw : WP x n0 Q h k n (pc + 1) L (v :: rest)) : WP x n0 Q h k n pc L (.int j :: .ref a :: rest) := by
  obtain ⟨c, A, s, r⟩ := A
  exact wp_ldI ok A (by rw [s]; exact idx_in' hj hi) (by rw [(idx_of hj).1, ← hv]; exact r i hi) hd hw
theorem wp_aJ (ok : Ok x Z own nm bytes ml rt R) (A : Ar Z h a .long len f) (hj : j.toInt = i) (hi : i < len) (hv : f i = v) (hd : decode bytes pc = .ok (.laload, 1)) (hw : WP x n0 Q h k n (pc + 1) L (v :: rest)) : WP x n0 Q h k n pc L (.int j :: .ref a :: rest) := by
  obtain ⟨c, A, s, r⟩ := A
  exact wp_ldJ ok A (by rw [s]; exact idx_in' hj hi) (by rw [(idx_of hj).1, ← hv]; exact r i hi) hd hw
theorem wp_aB (ok : Ok x Z own nm bytes ml rt R) (A : Ar Z h a .byte len f) (hj : j.toInt = i) (hi : i < len) (hv : f i = v) (hd : decode bytes pc = .ok (.baload, 1)) (hw : WP x n0 Q h k n (pc + 1) L (v :: rest)) : WP x n0 Q h k n pc L (.int j :: .ref a :: rest) := by
  obtain ⟨c, A, s, r⟩ := A
  exact wp_ldB ok A (by rw [s]; exact idx_in' hj hi) (by rw [(idx_of hj).1, ← hv]; exact r i hi) hd hw
theorem wp_aZ (ok : Ok x Z own nm bytes ml rt R) (A : Ar Z h a .boolean len f) (hj : j.toInt = i) (hi : i < len) (hv : f i = v) (hd : decode bytes pc = .ok (.baload, 1)) (hw : WP x n0 Q h k n (pc + 1) L (v :: rest)) : WP x n0 Q h k n pc L (.int j :: .ref a :: rest) := by
  obtain ⟨c, A, s, r⟩ := A
  exact wp_ldZ ok A (by rw [s]; exact idx_in' hj hi) (by rw [(idx_of hj).1, ← hv]; exact r i hi) hd hw
theorem wp_alen {ty : FieldType} (ok : Ok x Z own nm bytes ml rt R) (A : Ar Z h a ty len f) (hd : decode bytes pc = .ok (.arraylength, 1)) (hw : WP x n0 Q h k n (pc + 1) L (.int (Int32.ofNat len) :: rest)) : WP x n0 Q h k n pc L (.ref a :: rest) := by
  obtain ⟨c, A, s, r⟩ := A
  refine wp_len ok A hd ?_
  rw [s]; exact hw
theorem wp_sI {z : Int32} (ok : Ok x Z own nm bytes ml rt R) (A : Ar Z h a .int len f) (hj : j.toInt = i) (hi : i < len) (hd : decode bytes pc = .ok (.iastore, 1)) (ha : n0 ≤ a)
    (hw : ∀ h', Wr h h' a i (.int z) → Ar Z h' a .int len (fun q => if q = i then .int z else f q) → WP x n0 Q h' k n (pc + 1) L rest) : WP x n0 Q h k n pc L (.int z :: .int j :: .ref a :: rest) := by
  have A0 := A
  obtain ⟨c, A, s, r⟩ := A
  refine wp_stI ok A (by rw [s]; exact idx_in' hj hi) hd ha ?_
  rw [(idx_of hj).1]
  exact fun h' W => hw h' W (A0.same W hi)
theorem wp_sJ {z : Int64} (ok : Ok x Z own nm bytes ml rt R) (A : Ar Z h a .long len f) (hj : j.toInt = i) (hi : i < len) (hd : decode bytes pc = .ok (.lastore, 1)) (ha : n0 ≤ a)
    (hw : ∀ h', Wr h h' a i (.long z) → Ar Z h' a .long len (fun q => if q = i then .long z else f q) → WP x n0 Q h' k n (pc + 1) L rest) : WP x n0 Q h k n pc L (.long z :: .int j :: .ref a :: rest) := by
  have A0 := A
  obtain ⟨c, A, s, r⟩ := A
  refine wp_stJ ok A (by rw [s]; exact idx_in' hj hi) hd ha ?_
  rw [(idx_of hj).1]
  exact fun h' W => hw h' W (A0.same W hi)
theorem wp_sB {z : Int32} (ok : Ok x Z own nm bytes ml rt R) (A : Ar Z h a .byte len f) (hj : j.toInt = i) (hi : i < len) (hd : decode bytes pc = .ok (.bastore, 1)) (ha : n0 ≤ a)
    (hw : ∀ h', Wr h h' a i (.int (nar .byte z)) → Ar Z h' a .byte len (fun q => if q = i then .int (nar .byte z) else f q) → WP x n0 Q h' k n (pc + 1) L rest) : WP x n0 Q h k n pc L (.int z :: .int j :: .ref a :: rest) := fun T locs X e N => by
  have A0 := A
  obtain ⟨c, A, s, r⟩ := A
  obtain ⟨T', h', X', e', W, st⟩ := stB X ok.1 ok.2.2.2.2.2.1 e A (by rw [s]; exact idx_in' hj hi) (g := mkF x.m pc L (.int z :: .int j :: .ref a :: rest)) rfl rfl (hb ok.2.1 hd)
  have W' := W
  rw [(idx_of hj).1] at W'
  obtain ⟨s₂, o, h1, r⟩ := hw h' W' (A0.same W' hi) T' _ X' e' (Fr.snoc X' N ha)
  exact ⟨s₂, o, st _ h1, r⟩
theorem wp_sZ {z : Int32} (ok : Ok x Z own nm bytes ml rt R) (A : Ar Z h a .boolean len f) (hj : j.toInt = i) (hi : i < len) (hd : decode bytes pc = .ok (.bastore, 1)) (ha : n0 ≤ a)
    (hw : ∀ h', Wr h h' a i (.int (nar .boolean z)) → Ar Z h' a .boolean len (fun q => if q = i then .int (nar .boolean z) else f q) → WP x n0 Q h' k n (pc + 1) L rest) : WP x n0 Q h k n pc L (.int z :: .int j :: .ref a :: rest) := fun T locs X e N => by
  have A0 := A
  obtain ⟨c, A, s, r⟩ := A
  obtain ⟨T', h', X', e', W, st⟩ := stZ X ok.1 ok.2.2.2.2.2.1 e A (by rw [s]; exact idx_in' hj hi) (g := mkF x.m pc L (.int z :: .int j :: .ref a :: rest)) rfl rfl (hb ok.2.1 hd)
  have W' := W
  rw [(idx_of hj).1] at W'
  obtain ⟨s₂, o, h1, r⟩ := hw h' W' (A0.same W' hi) T' _ X' e' (Fr.snoc X' N ha)
  exact ⟨s₂, o, st _ h1, r⟩
theorem wp_ldcF {b : UInt32} {index : Nat} (ok : Ok x Z own nm bytes ml rt R) (w : (Jvm.Cond.constantFloat own index b).before a0 Z = true) (hd : decode bytes pc = .ok (.ldc index, 2)) (hw : WP x n0 Q h k n (pc + 2) L (.float b :: S)) : WP x n0 Q h k n pc L S :=
  wp_steps (fun T locs target X e hr => X.ldcFloatC ok.1 ok.2.2.2.1 (mvT ok.2.2.2.2.2.1 w) (g := mkF x.m pc L S) rfl (hb ok.2.1 hd) target hr) hw
theorem wp_nA {aty : ArrayType} {z : Int32} {cap : Nat} (ok : Ok x Z own nm bytes ml rt R) (w : (Jvm.Cond.arrayClass (newarray.typeOf aty)).before a0 Z = true) (hd : decode bytes pc = .ok (.newarray aty, 2)) (hz : z.toInt = cap) (hb8 : cap * 8 ≤ 536870912) (hk : k + 1 ≤ R.cells) (hn : n + cap ≤ R.slots)
    (hw : ∀ h' a, a = h.size → Ext h h' → Ar Z h' a (newarray.typeOf aty) cap (fun _ => defaultValue (newarray.typeOf aty)) → WP x n0 Q h' (k + 1) (n + cap) (pc + 2) L (.ref a :: rest)) : WP x n0 Q h k n pc L (.int z :: rest) :=
  wp_newA ok w hd (idx_of hz).2 (Nat.le_of_eq (idx_of hz).1) hb8 hk hn fun h' a cA e E A => hw h' a e E (Ar.new A (idx_of hz).1)
end Rules
end Jvm.OwnW
namespace Jvm.OwnW
open Jvm.RoadKit
def lst (vs : List Value) : Nat → Value := fun i => vs.getD i .null
theorem lst_set {Z : State} {h : Heap} {a : Addr} {ty : ClassFile.FieldType} {n i : Nat} {v : Value} {vs vs' : List Value} (A : Ar Z h a ty n (fun q => if q = i then v else lst vs q)) (hn : vs.length = n) (hi : i < n) (e : vs.set i v = vs') : Ar Z h a ty n (lst vs') := A.cong fun q hq => by
  subst e
  by_cases p : q = i
  · subst p; rw [if_pos rfl]; simp [lst, hn, hi]
  · rw [if_neg p]; simp only [lst, List.getD_eq_getElem?_getD]; rw [List.getElem?_set_ne (Ne.symm p)]
theorem lst_new {Z : State} {h : Heap} {a : Addr} {ty : ClassFile.FieldType} {n : Nat} {v : Value} {vs : List Value} (A : Ar Z h a ty n (fun _ => v)) (e : List.replicate n v = vs) : Ar Z h a ty n (lst vs) := A.cong fun q hq => by
  subst e; simp [lst, hq]
end Jvm.OwnW
namespace Jvm.Pilot.@@N@@
open Jvm Jvm.ClassFile Sem Op Lib Jvm.Free Jvm.Stand Jvm.LawKit Jvm.RoadKit Bundle Jvm.OwnW Jvm.Free.XT Jvm.Pilot.@@N@@.Jvm.D
/-- how many bytes the sequence takes that begins with c0 (0: none that is well formed) -/
def seqN (c0 c1 c2 c3 d : Int) (sur : Prop) [Decidable sur] : Int :=
  if c0 < 194 then 0
  else if c0 ≤ 223 then (if d < 2 then 0 else if c1 < 128 then 0 else if 191 < c1 then 0 else 2)
  else if c0 ≤ 239 then (if d < 3 then 0 else if c1 < (if c0 = 224 then 160 else 128) then 0 else if (if c0 = 237 then (if sur then 191 else 159) else 191) < c1 then 0 else if c2 < 128 then 0 else if 191 < c2 then 0 else 3)
  else if c0 ≤ 244 then (if d < 4 then 0 else if c1 < (if c0 = 240 then 144 else 128) then 0 else if (if c0 = 244 then 143 else 191) < c1 then 0 else if c2 < 128 then 0 else if 191 < c2 then 0 else if c3 < 128 then 0 else if 191 < c3 then 0 else 4)
  else 0
def seqZ (a c0 c1 c2 c3 d sur : Int32) : Int32 := let n := seqN c0.toInt c1.toInt c2.toInt c3.toInt d.toInt (sur ≠ 0); if n = 0 then -1 else if n = 2 then a + 2 else if n = 3 then a + 3 else a + 4
theorem seqZ_0 {a c0 c1 c2 c3 d sur : Int32} (h : seqN c0.toInt c1.toInt c2.toInt c3.toInt d.toInt (sur ≠ 0) = 0) : (-1 : Int32) = seqZ a c0 c1 c2 c3 d sur := by simp only [seqZ, h]; rfl
theorem seqZ_2 {a c0 c1 c2 c3 d sur : Int32} (h : seqN c0.toInt c1.toInt c2.toInt c3.toInt d.toInt (sur ≠ 0) = 2) : a + 2 = seqZ a c0 c1 c2 c3 d sur := by simp only [seqZ, h]; rfl
theorem seqZ_3 {a c0 c1 c2 c3 d sur : Int32} (h : seqN c0.toInt c1.toInt c2.toInt c3.toInt d.toInt (sur ≠ 0) = 3) : a + 3 = seqZ a c0 c1 c2 c3 d sur := by simp only [seqZ, h]; rfl
theorem seqZ_4 {a c0 c1 c2 c3 d sur : Int32} (h : seqN c0.toInt c1.toInt c2.toInt c3.toInt d.toInt (sur ≠ 0) = 4) : a + 4 = seqZ a c0 c1 c2 c3 d sur := by simp only [seqZ, h]; rfl
theorem own_i (x y : Int32) : (x = y) ↔ x.toInt = y.toInt := Int32.toInt_inj.symm
theorem own_ite (p : Prop) [Decidable p] (a b : Int32) : (if p then a else b).toInt = if p then a.toInt else b.toInt := by split <;> rfl
theorem own_l (x y : Int32) : (x < y) ↔ x.toInt < y.toInt := Int32.lt_iff_toInt_lt
theorem own_or (A w : Int32) (k : Nat) (hk : k ≤ 31) (P : Int) (hP : P = (2 ^ k : Nat)) (h1 : A.toInt % P = 0) (h2 : 0 ≤ w.toInt) (h3 : w.toInt < P) (h4 : 0 ≤ A.toInt) (h5 : A.toInt + w.toInt < 2147483648) : (A ||| w).toInt = A.toInt + w.toInt := by
  have q := c_or A w k hk P hP h1 h2 h3
  have b1 := (A ||| w).toInt_lt
  have b2 := (A ||| w).le_toInt
  omega
theorem own_sh (v q : Int32) (k : Nat) (hk : q.toBitVec.toNat % 32 = k) (P : Int) (hP : P = (2 ^ k : Nat)) (h1 : 0 ≤ v.toInt) (h2 : v.toInt * P < 2147483648) (hp : 0 ≤ P) : (v <<< (q &&& 31)).toInt = v.toInt * P := by
  have q1 := c_ishl v q k hk
  rw [← hP] at q1
  have b1 := (v <<< (q &&& 31)).toInt_lt
  have b2 := (v <<< (q &&& 31)).le_toInt
  have p0 := Int.mul_nonneg h1 hp
  generalize v.toInt * P = m at *
  omega
theorem tabB : ∀ i : Fin 256, ((Int32.ofNat i.1 &&& 224) = 192 ↔ 192 ≤ i.1 ∧ i.1 ≤ 223) ∧ ((Int32.ofNat i.1 &&& 240) = 224 ↔ 224 ≤ i.1 ∧ i.1 ≤ 239) ∧ ((Int32.ofNat i.1 &&& 248) = 240 ↔ 240 ≤ i.1 ∧ i.1 ≤ 247) ∧ ((Int32.ofNat i.1 &&& 192) = 128 ↔ 128 ≤ i.1 ∧ i.1 ≤ 191) := by decide +kernel
theorem own_bits (b : Int32) (h0 : 0 ≤ b.toInt) (h1 : b.toInt < 256) : ((b &&& 224) = 192 ↔ 192 ≤ b.toInt ∧ b.toInt ≤ 223) ∧ ((b &&& 240) = 224 ↔ 224 ≤ b.toInt ∧ b.toInt ≤ 239) ∧ ((b &&& 248) = 240 ↔ 240 ≤ b.toInt ∧ b.toInt ≤ 247) ∧ ((b &&& 192) = 128 ↔ 128 ≤ b.toInt ∧ b.toInt ≤ 191) := by
  have e : b = Int32.ofNat b.toInt.toNat := by
    rw [← Int32.toInt_inj, show (Int32.ofNat b.toInt.toNat).toInt = b.toInt.toNat from len_toInt (by omega)]; omega
  have t := tabB ⟨b.toInt.toNat, by omega⟩
  dsimp only at t
  rw [← e] at t
  obtain ⟨t1, t2, t3, t4⟩ := t
  rw [t1, t2, t3, t4]
  refine ⟨?_, ?_, ?_, ?_⟩ <;> constructor <;> intro q <;> omega
theorem own_rng (w : Int32) : 0 ≤ (w &&& (255 : Int32)).toInt ∧ (w &&& (255 : Int32)).toInt < 256 := by
  rw [c_mask w 255 8 (by decide) (by decide)]; omega
theorem own_len (b0 b1 b2 b3 v8 v9 : Int32) (r0 : 0 ≤ b0.toInt ∧ b0.toInt < 256) (h8 : v8 = (if (b0 &&& (224 : Int32)) = (192 : Int32) then (2 : Int32) else (if (b0 &&& (240 : Int32)) = (224 : Int32) then (3 : Int32) else (if (b0 &&& (248 : Int32)) = (240 : Int32) then (4 : Int32) else (0 : Int32))))) (h9 : v9 = (if (b0 &&& (224 : Int32)) = (192 : Int32) then (((b0 &&& (31 : Int32)) <<< ((6 : Int32) &&& 31)) ||| (b1 &&& (63 : Int32))) else (if (b0 &&& (240 : Int32)) = (224 : Int32) then ((((b0 &&& (15 : Int32)) <<< ((12 : Int32) &&& 31)) ||| ((b1 &&& (63 : Int32)) <<< ((6 : Int32) &&& 31))) ||| (b2 &&& (63 : Int32))) else (if (b0 &&& (248 : Int32)) = (240 : Int32) then (((((b0 &&& (7 : Int32)) <<< ((18 : Int32) &&& 31)) ||| ((b1 &&& (63 : Int32)) <<< ((12 : Int32) &&& 31))) ||| ((b2 &&& (63 : Int32)) <<< ((6 : Int32) &&& 31))) ||| (b3 &&& (63 : Int32))) else (0 : Int32))))) :
    v8.toInt = (if b0.toInt < 192 then 0 else if b0.toInt ≤ 223 then 2 else if b0.toInt ≤ 239 then 3 else if b0.toInt ≤ 247 then 4 else 0) ∧
    v9.toInt = (if b0.toInt < 192 then 0 else if b0.toInt ≤ 223 then (b0.toInt - 192) * 64 + b1.toInt % 64 else if b0.toInt ≤ 239 then (b0.toInt - 224) * 4096 + (b1.toInt % 64) * 64 + b2.toInt % 64 else if b0.toInt ≤ 247 then (b0.toInt - 240) * 262144 + (b1.toInt % 64) * 4096 + (b2.toInt % 64) * 64 + b3.toInt % 64 else 0) := by
  obtain ⟨t1, t2, t3, -⟩ := own_bits b0 r0.1 r0.2
  have m0 := c_mask b0 31 5 (by decide) (by decide)
  have m1 := c_mask b0 15 4 (by decide) (by decide)
  have m2 := c_mask b0 7 3 (by decide) (by decide)
  have n1 := c_mask b1 63 6 (by decide) (by decide)
  have n2 := c_mask b2 63 6 (by decide) (by decide)
  have n3 := c_mask b3 63 6 (by decide) (by decide)
  have s2 := own_sh (b0 &&& 31) 6 6 (by decide) 64 rfl (by rw [m0]; omega) (by rw [m0]; omega) (by decide)
  have s3 := own_sh (b0 &&& 15) 12 12 (by decide) 4096 rfl (by rw [m1]; omega) (by rw [m1]; omega) (by decide)
  have s4 := own_sh (b0 &&& 7) 18 18 (by decide) 262144 rfl (by rw [m2]; omega) (by rw [m2]; omega) (by decide)
  have u1 := own_sh (b1 &&& 63) 6 6 (by decide) 64 rfl (by rw [n1]; omega) (by rw [n1]; omega) (by decide)
  have u2 := own_sh (b1 &&& 63) 12 12 (by decide) 4096 rfl (by rw [n1]; omega) (by rw [n1]; omega) (by decide)
  have u3 := own_sh (b2 &&& 63) 6 6 (by decide) 64 rfl (by rw [n2]; omega) (by rw [n2]; omega) (by decide)
  have c2 := own_or _ (b1 &&& 63) 6 (by decide) 64 rfl (by rw [s2, m0]; omega) (by rw [n1]; omega) (by rw [n1]; omega) (by rw [s2, m0]; omega) (by rw [s2, m0, n1]; omega)
  have c3 := own_or _ ((b1 &&& 63) <<< ((6 : Int32) &&& 31)) 12 (by decide) 4096 rfl (by rw [s3, m1]; omega) (by rw [u1, n1]; omega) (by rw [u1, n1]; omega) (by rw [s3, m1]; omega) (by rw [s3, m1, u1, n1]; omega)
  have c3' := own_or _ (b2 &&& 63) 6 (by decide) 64 rfl (by rw [c3, s3, m1, u1, n1]; omega) (by rw [n2]; omega) (by rw [n2]; omega) (by rw [c3, s3, m1, u1, n1]; omega) (by rw [c3, s3, m1, u1, n1, n2]; omega)
  have c4 := own_or _ ((b1 &&& 63) <<< ((12 : Int32) &&& 31)) 18 (by decide) 262144 rfl (by rw [s4, m2]; omega) (by rw [u2, n1]; omega) (by rw [u2, n1]; omega) (by rw [s4, m2]; omega) (by rw [s4, m2, u2, n1]; omega)
  have c4' := own_or _ ((b2 &&& 63) <<< ((6 : Int32) &&& 31)) 12 (by decide) 4096 rfl (by rw [c4, s4, m2, u2, n1]; omega) (by rw [u3, n2]; omega) (by rw [u3, n2]; omega) (by rw [c4, s4, m2, u2, n1]; omega) (by rw [c4, s4, m2, u2, n1, u3, n2]; omega)
  have c4'' := own_or _ (b3 &&& 63) 6 (by decide) 64 rfl (by rw [c4', c4, s4, m2, u2, n1, u3, n2]; omega) (by rw [n3]; omega) (by rw [n3]; omega) (by rw [c4', c4, s4, m2, u2, n1, u3, n2]; omega) (by rw [c4', c4, s4, m2, u2, n1, u3, n2, n3]; omega)
  rw [s2, m0, n1] at c2
  rw [c3, s3, m1, u1, n1, n2] at c3'
  rw [c4', c4, s4, m2, u2, n1, u3, n2, n3] at c4''
  simp only [t1, t2, t3] at h8 h9
  rw [h8, h9]
  by_cases q1 : 192 ≤ b0.toInt ∧ b0.toInt ≤ 223
  · rw [if_pos q1, if_pos q1, c2, if_neg (by omega), if_pos q1.2, if_neg (by omega), if_pos q1.2]
    exact ⟨rfl, by omega⟩
  · rw [if_neg q1, if_neg q1]
    by_cases q2 : 224 ≤ b0.toInt ∧ b0.toInt ≤ 239
    · rw [if_pos q2, if_pos q2, c3', if_neg (by omega), if_neg (by omega), if_pos q2.2, if_neg (by omega), if_neg (by omega), if_pos q2.2]
      exact ⟨rfl, by omega⟩
    · rw [if_neg q2, if_neg q2]
      by_cases q3 : 240 ≤ b0.toInt ∧ b0.toInt ≤ 247
      · rw [if_pos q3, if_pos q3, c4'', if_neg (by omega), if_neg (by omega), if_neg (by omega), if_pos q3.2, if_neg (by omega), if_neg (by omega), if_neg (by omega), if_pos q3.2]
        exact ⟨rfl, by omega⟩
      · rw [if_neg q3, if_neg q3]
        constructor <;> (repeat' split) <;> first | rfl | omega
theorem own_at (a at_ : Int32) (h : at_ = (a &&& (3 : Int32))) : at_ = 0 ∨ at_ = 1 ∨ at_ = 2 ∨ at_ = 3 := by
  have e1 := c_mask a 3 2 (by decide) (by decide)
  have k : ∀ w : Int32, (at_ = w) ↔ at_.toInt = w.toInt := fun w => Int32.toInt_inj.symm
  simp only [k, Int32.reduceToInt]; rw [h, e1]; omega
theorem own_n (t : Int32) : (nar .byte (t.toInt8.toInt32)) &&& (255 : Int32) = t &&& (255 : Int32) := by
  rw [← Int32.toInt_inj, c_mask t 255 8 (by decide) (by decide), c_mask _ 255 8 (by decide) (by decide)]
  show (t.toInt8.toInt32.toInt8.toInt32).toInt % _ = _
  have a1 := c_i2b t
  have a2 := c_i2b t.toInt8.toInt32
  omega

def k_sq0 : List (Nat × Value) := []
def Q_sq0 (Z : State) (b : Addr) (en : Int32) (sur : Int32) (x0 : Int32) (x1 : Int32) (x2 : Int32) (x3 : Int32) (x4 : Int32) (x5 : Int32) (x6 : Int32) (x7 : Int32) (h0 : Heap) : Post := fun v h => v = some (.int (seqZ (0 : Int32) (x0 &&& (255 : Int32)) (x1 &&& (255 : Int32)) (x2 &&& (255 : Int32)) (x3 &&& (255 : Int32)) (en - (0 : Int32)) sur)) ∧ h0 = h
theorem own_sq0_1 (en : Int32) (sur : Int32) (x0 : Int32) (x1 : Int32) (x2 : Int32) (x3 : Int32) (x4 : Int32) (x5 : Int32) (x6 : Int32) (x7 : Int32) (b0 : Int32) (h_b0 : b0 = (x0 &&& (255 : Int32))) (hc24 : b0 < (194 : Int32)) : b0 < (224 : Int32) := by
  rw [Int32.lt_iff_toInt_lt] at *; simp only [Int32.reduceToInt] at *; omega
theorem own_sq0_2 (en : Int32) (sur : Int32) (x0 : Int32) (x1 : Int32) (x2 : Int32) (x3 : Int32) (x4 : Int32) (x5 : Int32) (x6 : Int32) (x7 : Int32) (b0 : Int32) (h_b0 : b0 = (x0 &&& (255 : Int32))) (hc24 : b0 < (194 : Int32)) : b0 < (240 : Int32) := by
  rw [Int32.lt_iff_toInt_lt] at *; simp only [Int32.reduceToInt] at *; omega
theorem own_sq0_3 (en : Int32) (sur : Int32) (x0 : Int32) (x1 : Int32) (x2 : Int32) (x3 : Int32) (x4 : Int32) (x5 : Int32) (x6 : Int32) (x7 : Int32) (b0 : Int32) (h_b0 : b0 = (x0 &&& (255 : Int32))) (hc24 : b0 < (194 : Int32)) : (-1 : Int32) = (seqZ (0 : Int32) (x0 &&& (255 : Int32)) (x1 &&& (255 : Int32)) (x2 &&& (255 : Int32)) (x3 &&& (255 : Int32)) (en - (0 : Int32)) sur) := by
  have e := @seqZ_0 (0 : Int32) (x0 &&& 255) (x1 &&& 255) (x2 &&& 255) (x3 &&& 255) (en - (0 : Int32)) sur
  refine e ?_
  clear e
  generalize x0 &&& 255 = y0 at *
  generalize x1 &&& 255 = y1 at *
  generalize x2 &&& 255 = y2 at *
  generalize x3 &&& 255 = y3 at *
  generalize en - (0 : Int32) = dd at *
  simp only [own_i, own_l, own_ite, Int32.reduceToInt, ne_eq] at *
  simp only [seqN]
  repeat' (first | omega | split)
theorem own_sq0_4 (en : Int32) (sur : Int32) (x0 : Int32) (x1 : Int32) (x2 : Int32) (x3 : Int32) (x4 : Int32) (x5 : Int32) (x6 : Int32) (x7 : Int32) (b0 : Int32) (h_b0 : b0 = (x0 &&& (255 : Int32))) (hc24 : ¬ (b0 < (194 : Int32))) (hc32 : (223 : Int32) < b0) (hc46 : b0 < (224 : Int32)) : b0 < (240 : Int32) := by
  rw [Int32.lt_iff_toInt_lt] at *; simp only [Int32.reduceToInt] at *; omega
theorem own_sq0_5 (en : Int32) (sur : Int32) (x0 : Int32) (x1 : Int32) (x2 : Int32) (x3 : Int32) (x4 : Int32) (x5 : Int32) (x6 : Int32) (x7 : Int32) (b0 : Int32) (h_b0 : b0 = (x0 &&& (255 : Int32))) (hc24 : ¬ (b0 < (194 : Int32))) (hc32 : (223 : Int32) < b0) (hc46 : b0 < (224 : Int32)) : (-1 : Int32) = (seqZ (0 : Int32) (x0 &&& (255 : Int32)) (x1 &&& (255 : Int32)) (x2 &&& (255 : Int32)) (x3 &&& (255 : Int32)) (en - (0 : Int32)) sur) := by
  have e := @seqZ_0 (0 : Int32) (x0 &&& 255) (x1 &&& 255) (x2 &&& 255) (x3 &&& 255) (en - (0 : Int32)) sur
  refine e ?_
  clear e
  generalize x0 &&& 255 = y0 at *
  generalize x1 &&& 255 = y1 at *
  generalize x2 &&& 255 = y2 at *
  generalize x3 &&& 255 = y3 at *
  generalize en - (0 : Int32) = dd at *
  simp only [own_i, own_l, own_ite, Int32.reduceToInt, ne_eq] at *
  simp only [seqN]
  repeat' (first | omega | split)
theorem own_sq0_6 (en : Int32) (sur : Int32) (x0 : Int32) (x1 : Int32) (x2 : Int32) (x3 : Int32) (x4 : Int32) (x5 : Int32) (x6 : Int32) (x7 : Int32) (b0 : Int32) (h_b0 : b0 = (x0 &&& (255 : Int32))) (hc24 : ¬ (b0 < (194 : Int32))) (hc32 : (223 : Int32) < b0) (hc46 : ¬ (b0 < (224 : Int32))) (hc54 : (239 : Int32) < b0) (hc108 : b0 < (240 : Int32)) : (-1 : Int32) = (seqZ (0 : Int32) (x0 &&& (255 : Int32)) (x1 &&& (255 : Int32)) (x2 &&& (255 : Int32)) (x3 &&& (255 : Int32)) (en - (0 : Int32)) sur) := by
  have e := @seqZ_0 (0 : Int32) (x0 &&& 255) (x1 &&& 255) (x2 &&& 255) (x3 &&& 255) (en - (0 : Int32)) sur
  refine e ?_
  clear e
  generalize x0 &&& 255 = y0 at *
  generalize x1 &&& 255 = y1 at *
  generalize x2 &&& 255 = y2 at *
  generalize x3 &&& 255 = y3 at *
  generalize en - (0 : Int32) = dd at *
  simp only [own_i, own_l, own_ite, Int32.reduceToInt, ne_eq] at *
  simp only [seqN]
  repeat' (first | omega | split)
theorem own_sq0_7 (en : Int32) (sur : Int32) (x0 : Int32) (x1 : Int32) (x2 : Int32) (x3 : Int32) (x4 : Int32) (x5 : Int32) (x6 : Int32) (x7 : Int32) (b0 : Int32) (h_b0 : b0 = (x0 &&& (255 : Int32))) (hc24 : ¬ (b0 < (194 : Int32))) (hc32 : (223 : Int32) < b0) (hc46 : ¬ (b0 < (224 : Int32))) (hc54 : (239 : Int32) < b0) (hc108 : ¬ (b0 < (240 : Int32))) (hc116 : (244 : Int32) < b0) : (-1 : Int32) = (seqZ (0 : Int32) (x0 &&& (255 : Int32)) (x1 &&& (255 : Int32)) (x2 &&& (255 : Int32)) (x3 &&& (255 : Int32)) (en - (0 : Int32)) sur) := by
  have e := @seqZ_0 (0 : Int32) (x0 &&& 255) (x1 &&& 255) (x2 &&& 255) (x3 &&& 255) (en - (0 : Int32)) sur
  refine e ?_
  clear e
  generalize x0 &&& 255 = y0 at *
  generalize x1 &&& 255 = y1 at *
  generalize x2 &&& 255 = y2 at *
  generalize x3 &&& 255 = y3 at *
  generalize en - (0 : Int32) = dd at *
  simp only [own_i, own_l, own_ite, Int32.reduceToInt, ne_eq] at *
  simp only [seqN]
  repeat' (first | omega | split)
theorem own_sq0_8 (en : Int32) (sur : Int32) (x0 : Int32) (x1 : Int32) (x2 : Int32) (x3 : Int32) (x4 : Int32) (x5 : Int32) (x6 : Int32) (x7 : Int32) (b0 : Int32) (h_b0 : b0 = (x0 &&& (255 : Int32))) (hc24 : ¬ (b0 < (194 : Int32))) (hc32 : (223 : Int32) < b0) (hc46 : ¬ (b0 < (224 : Int32))) (hc54 : (239 : Int32) < b0) (hc108 : ¬ (b0 < (240 : Int32))) (hc116 : ¬ ((244 : Int32) < b0)) (s138_0 : Int32) (h_s138_0 : s138_0 = (if b0 = (240 : Int32) then (144 : Int32) else (128 : Int32))) (s156_0 : Int32) (h_s156_0 : s156_0 = (if b0 = (244 : Int32) then (143 : Int32) else (191 : Int32))) (s176_0 : Int32) (h_s176_0 : s176_0 = (if (en - (0 : Int32)) < (4 : Int32) then (0 : Int32) else (1 : Int32))) (hc183 : s176_0 = (0 : Int32)) : (-1 : Int32) = (seqZ (0 : Int32) (x0 &&& (255 : Int32)) (x1 &&& (255 : Int32)) (x2 &&& (255 : Int32)) (x3 &&& (255 : Int32)) (en - (0 : Int32)) sur) := by
  have e := @seqZ_0 (0 : Int32) (x0 &&& 255) (x1 &&& 255) (x2 &&& 255) (x3 &&& 255) (en - (0 : Int32)) sur
  refine e ?_
  clear e
  generalize x0 &&& 255 = y0 at *
  generalize x1 &&& 255 = y1 at *
  generalize x2 &&& 255 = y2 at *
  generalize x3 &&& 255 = y3 at *
  generalize en - (0 : Int32) = dd at *
  simp only [own_i, own_l, own_ite, Int32.reduceToInt, ne_eq] at *
  simp only [seqN]
  repeat' (first | omega | split at h_s138_0 | split at h_s156_0 | split at h_s176_0 | split)
theorem own_sq0_9 (en : Int32) (sur : Int32) (x0 : Int32) (x1 : Int32) (x2 : Int32) (x3 : Int32) (x4 : Int32) (x5 : Int32) (x6 : Int32) (x7 : Int32) (b0 : Int32) (h_b0 : b0 = (x0 &&& (255 : Int32))) (hc24 : ¬ (b0 < (194 : Int32))) (hc32 : (223 : Int32) < b0) (hc46 : ¬ (b0 < (224 : Int32))) (hc54 : (239 : Int32) < b0) (hc108 : ¬ (b0 < (240 : Int32))) (hc116 : ¬ ((244 : Int32) < b0)) (s138_0 : Int32) (h_s138_0 : s138_0 = (if b0 = (240 : Int32) then (144 : Int32) else (128 : Int32))) (s156_0 : Int32) (h_s156_0 : s156_0 = (if b0 = (244 : Int32) then (143 : Int32) else (191 : Int32))) (s176_0 : Int32) (h_s176_0 : s176_0 = (if (en - (0 : Int32)) < (4 : Int32) then (0 : Int32) else (1 : Int32))) (hc183 : ¬ (s176_0 = (0 : Int32))) (cb : Int32) (h_cb : cb = (x1 &&& (255 : Int32))) (s254_0 : Int32) (h_s254_0 : s254_0 = (if cb < s138_0 then (0 : Int32) else (if s156_0 < cb then (0 : Int32) else (1 : Int32)))) (hc183_10 : s254_0 = (0 : Int32)) : (-1 : Int32) = (seqZ (0 : Int32) (x0 &&& (255 : Int32)) (x1 &&& (255 : Int32)) (x2 &&& (255 : Int32)) (x3 &&& (255 : Int32)) (en - (0 : Int32)) sur) := by
  have e := @seqZ_0 (0 : Int32) (x0 &&& 255) (x1 &&& 255) (x2 &&& 255) (x3 &&& 255) (en - (0 : Int32)) sur
  refine e ?_
  clear e
  generalize x0 &&& 255 = y0 at *
  generalize x1 &&& 255 = y1 at *
  generalize x2 &&& 255 = y2 at *
  generalize x3 &&& 255 = y3 at *
  generalize en - (0 : Int32) = dd at *
  simp only [own_i, own_l, own_ite, Int32.reduceToInt, ne_eq] at *
  simp only [seqN]
  repeat' (first | omega | split at h_s138_0 | split at h_s156_0 | split at h_s176_0 | split at h_s254_0 | split)
theorem own_sq0_10 (en : Int32) (sur : Int32) (x0 : Int32) (x1 : Int32) (x2 : Int32) (x3 : Int32) (x4 : Int32) (x5 : Int32) (x6 : Int32) (x7 : Int32) (b0 : Int32) (h_b0 : b0 = (x0 &&& (255 : Int32))) (hc24 : ¬ (b0 < (194 : Int32))) (hc32 : (223 : Int32) < b0) (hc46 : ¬ (b0 < (224 : Int32))) (hc54 : (239 : Int32) < b0) (hc108 : ¬ (b0 < (240 : Int32))) (hc116 : ¬ ((244 : Int32) < b0)) (s138_0 : Int32) (h_s138_0 : s138_0 = (if b0 = (240 : Int32) then (144 : Int32) else (128 : Int32))) (s156_0 : Int32) (h_s156_0 : s156_0 = (if b0 = (244 : Int32) then (143 : Int32) else (191 : Int32))) (s176_0 : Int32) (h_s176_0 : s176_0 = (if (en - (0 : Int32)) < (4 : Int32) then (0 : Int32) else (1 : Int32))) (hc183 : ¬ (s176_0 = (0 : Int32))) (cb : Int32) (h_cb : cb = (x1 &&& (255 : Int32))) (s254_0 : Int32) (h_s254_0 : s254_0 = (if cb < s138_0 then (0 : Int32) else (if s156_0 < cb then (0 : Int32) else (1 : Int32)))) (hc183_10 : ¬ (s254_0 = (0 : Int32))) (cbb : Int32) (h_cbb : cbb = (x2 &&& (255 : Int32))) (s254_0b : Int32) (h_s254_0b : s254_0b = (if cbb < (128 : Int32) then (0 : Int32) else (if (191 : Int32) < cbb then (0 : Int32) else (1 : Int32)))) (hc183_14 : s254_0b = (0 : Int32)) : (-1 : Int32) = (seqZ (0 : Int32) (x0 &&& (255 : Int32)) (x1 &&& (255 : Int32)) (x2 &&& (255 : Int32)) (x3 &&& (255 : Int32)) (en - (0 : Int32)) sur) := by
  have e := @seqZ_0 (0 : Int32) (x0 &&& 255) (x1 &&& 255) (x2 &&& 255) (x3 &&& 255) (en - (0 : Int32)) sur
  refine e ?_
  clear e
  generalize x0 &&& 255 = y0 at *
  generalize x1 &&& 255 = y1 at *
  generalize x2 &&& 255 = y2 at *
  generalize x3 &&& 255 = y3 at *
  generalize en - (0 : Int32) = dd at *
  simp only [own_i, own_l, own_ite, Int32.reduceToInt, ne_eq] at *
  simp only [seqN]
  repeat' (first | omega | split at h_s138_0 | split at h_s156_0 | split at h_s176_0 | split at h_s254_0 | split at h_s254_0b | split)
theorem own_sq0_11 (en : Int32) (sur : Int32) (x0 : Int32) (x1 : Int32) (x2 : Int32) (x3 : Int32) (x4 : Int32) (x5 : Int32) (x6 : Int32) (x7 : Int32) (b0 : Int32) (h_b0 : b0 = (x0 &&& (255 : Int32))) (hc24 : ¬ (b0 < (194 : Int32))) (hc32 : (223 : Int32) < b0) (hc46 : ¬ (b0 < (224 : Int32))) (hc54 : (239 : Int32) < b0) (hc108 : ¬ (b0 < (240 : Int32))) (hc116 : ¬ ((244 : Int32) < b0)) (s138_0 : Int32) (h_s138_0 : s138_0 = (if b0 = (240 : Int32) then (144 : Int32) else (128 : Int32))) (s156_0 : Int32) (h_s156_0 : s156_0 = (if b0 = (244 : Int32) then (143 : Int32) else (191 : Int32))) (s176_0 : Int32) (h_s176_0 : s176_0 = (if (en - (0 : Int32)) < (4 : Int32) then (0 : Int32) else (1 : Int32))) (hc183 : ¬ (s176_0 = (0 : Int32))) (cb : Int32) (h_cb : cb = (x1 &&& (255 : Int32))) (s254_0 : Int32) (h_s254_0 : s254_0 = (if cb < s138_0 then (0 : Int32) else (if s156_0 < cb then (0 : Int32) else (1 : Int32)))) (hc183_10 : ¬ (s254_0 = (0 : Int32))) (cbb : Int32) (h_cbb : cbb = (x2 &&& (255 : Int32))) (s254_0b : Int32) (h_s254_0b : s254_0b = (if cbb < (128 : Int32) then (0 : Int32) else (if (191 : Int32) < cbb then (0 : Int32) else (1 : Int32)))) (hc183_14 : ¬ (s254_0b = (0 : Int32))) (cbbb : Int32) (h_cbbb : cbbb = (x3 &&& (255 : Int32))) (s254_0bb : Int32) (h_s254_0bb : s254_0bb = (if cbbb < (128 : Int32) then (0 : Int32) else (if (191 : Int32) < cbbb then (0 : Int32) else (1 : Int32)))) (hc183_18 : s254_0bb = (0 : Int32)) : (-1 : Int32) = (seqZ (0 : Int32) (x0 &&& (255 : Int32)) (x1 &&& (255 : Int32)) (x2 &&& (255 : Int32)) (x3 &&& (255 : Int32)) (en - (0 : Int32)) sur) := by
  have e := @seqZ_0 (0 : Int32) (x0 &&& 255) (x1 &&& 255) (x2 &&& 255) (x3 &&& 255) (en - (0 : Int32)) sur
  refine e ?_
  clear e
  generalize x0 &&& 255 = y0 at *
  generalize x1 &&& 255 = y1 at *
  generalize x2 &&& 255 = y2 at *
  generalize x3 &&& 255 = y3 at *
  generalize en - (0 : Int32) = dd at *
  simp only [own_i, own_l, own_ite, Int32.reduceToInt, ne_eq] at *
  simp only [seqN]
  repeat' (first | omega | split at h_s138_0 | split at h_s156_0 | split at h_s176_0 | split at h_s254_0 | split at h_s254_0b | split at h_s254_0bb | split)
theorem own_sq0_12 (en : Int32) (sur : Int32) (x0 : Int32) (x1 : Int32) (x2 : Int32) (x3 : Int32) (x4 : Int32) (x5 : Int32) (x6 : Int32) (x7 : Int32) (b0 : Int32) (h_b0 : b0 = (x0 &&& (255 : Int32))) (hc24 : ¬ (b0 < (194 : Int32))) (hc32 : (223 : Int32) < b0) (hc46 : ¬ (b0 < (224 : Int32))) (hc54 : (239 : Int32) < b0) (hc108 : ¬ (b0 < (240 : Int32))) (hc116 : ¬ ((244 : Int32) < b0)) (s138_0 : Int32) (h_s138_0 : s138_0 = (if b0 = (240 : Int32) then (144 : Int32) else (128 : Int32))) (s156_0 : Int32) (h_s156_0 : s156_0 = (if b0 = (244 : Int32) then (143 : Int32) else (191 : Int32))) (s176_0 : Int32) (h_s176_0 : s176_0 = (if (en - (0 : Int32)) < (4 : Int32) then (0 : Int32) else (1 : Int32))) (hc183 : ¬ (s176_0 = (0 : Int32))) (cb : Int32) (h_cb : cb = (x1 &&& (255 : Int32))) (s254_0 : Int32) (h_s254_0 : s254_0 = (if cb < s138_0 then (0 : Int32) else (if s156_0 < cb then (0 : Int32) else (1 : Int32)))) (hc183_10 : ¬ (s254_0 = (0 : Int32))) (cbb : Int32) (h_cbb : cbb = (x2 &&& (255 : Int32))) (s254_0b : Int32) (h_s254_0b : s254_0b = (if cbb < (128 : Int32) then (0 : Int32) else (if (191 : Int32) < cbb then (0 : Int32) else (1 : Int32)))) (hc183_14 : ¬ (s254_0b = (0 : Int32))) (cbbb : Int32) (h_cbbb : cbbb = (x3 &&& (255 : Int32))) (s254_0bb : Int32) (h_s254_0bb : s254_0bb = (if cbbb < (128 : Int32) then (0 : Int32) else (if (191 : Int32) < cbbb then (0 : Int32) else (1 : Int32)))) (hc183_18 : ¬ (s254_0bb = (0 : Int32))) : (4 : Int32) = (seqZ (0 : Int32) (x0 &&& (255 : Int32)) (x1 &&& (255 : Int32)) (x2 &&& (255 : Int32)) (x3 &&& (255 : Int32)) (en - (0 : Int32)) sur) := by
  have e := @seqZ_4 (0 : Int32) (x0 &&& 255) (x1 &&& 255) (x2 &&& 255) (x3 &&& 255) (en - (0 : Int32)) sur
  refine Eq.trans (by decide) (e ?_)
  clear e
  generalize x0 &&& 255 = y0 at *
  generalize x1 &&& 255 = y1 at *
  generalize x2 &&& 255 = y2 at *
  generalize x3 &&& 255 = y3 at *
  generalize en - (0 : Int32) = dd at *
  simp only [own_i, own_l, own_ite, Int32.reduceToInt, ne_eq] at *
  simp only [seqN]
  repeat' (first | omega | split at h_s138_0 | split at h_s156_0 | split at h_s176_0 | split at h_s254_0 | split at h_s254_0b | split at h_s254_0bb | split)
theorem own_sq0_13 (en : Int32) (sur : Int32) (x0 : Int32) (x1 : Int32) (x2 : Int32) (x3 : Int32) (x4 : Int32) (x5 : Int32) (x6 : Int32) (x7 : Int32) (b0 : Int32) (h_b0 : b0 = (x0 &&& (255 : Int32))) (hc24 : ¬ (b0 < (194 : Int32))) (hc32 : (223 : Int32) < b0) (hc46 : ¬ (b0 < (224 : Int32))) (hc54 : ¬ ((239 : Int32) < b0)) (s76_0 : Int32) (h_s76_0 : s76_0 = (if b0 = (224 : Int32) then (160 : Int32) else (128 : Int32))) (s98_0 : Int32) (h_s98_0 : s98_0 = (if b0 = (237 : Int32) then (if sur = (0 : Int32) then (159 : Int32) else (191 : Int32)) else (191 : Int32))) (s176_0 : Int32) (h_s176_0 : s176_0 = (if (en - (0 : Int32)) < (3 : Int32) then (0 : Int32) else (1 : Int32))) (hc183 : s176_0 = (0 : Int32)) : (-1 : Int32) = (seqZ (0 : Int32) (x0 &&& (255 : Int32)) (x1 &&& (255 : Int32)) (x2 &&& (255 : Int32)) (x3 &&& (255 : Int32)) (en - (0 : Int32)) sur) := by
  have e := @seqZ_0 (0 : Int32) (x0 &&& 255) (x1 &&& 255) (x2 &&& 255) (x3 &&& 255) (en - (0 : Int32)) sur
  refine e ?_
  clear e
  generalize x0 &&& 255 = y0 at *
  generalize x1 &&& 255 = y1 at *
  generalize x2 &&& 255 = y2 at *
  generalize x3 &&& 255 = y3 at *
  generalize en - (0 : Int32) = dd at *
  simp only [own_i, own_l, own_ite, Int32.reduceToInt, ne_eq] at *
  simp only [seqN]
  repeat' (first | omega | split at h_s76_0 | split at h_s98_0 | split at h_s176_0 | split)
theorem own_sq0_14 (en : Int32) (sur : Int32) (x0 : Int32) (x1 : Int32) (x2 : Int32) (x3 : Int32) (x4 : Int32) (x5 : Int32) (x6 : Int32) (x7 : Int32) (b0 : Int32) (h_b0 : b0 = (x0 &&& (255 : Int32))) (hc24 : ¬ (b0 < (194 : Int32))) (hc32 : (223 : Int32) < b0) (hc46 : ¬ (b0 < (224 : Int32))) (hc54 : ¬ ((239 : Int32) < b0)) (s76_0 : Int32) (h_s76_0 : s76_0 = (if b0 = (224 : Int32) then (160 : Int32) else (128 : Int32))) (s98_0 : Int32) (h_s98_0 : s98_0 = (if b0 = (237 : Int32) then (if sur = (0 : Int32) then (159 : Int32) else (191 : Int32)) else (191 : Int32))) (s176_0 : Int32) (h_s176_0 : s176_0 = (if (en - (0 : Int32)) < (3 : Int32) then (0 : Int32) else (1 : Int32))) (hc183 : ¬ (s176_0 = (0 : Int32))) (cb : Int32) (h_cb : cb = (x1 &&& (255 : Int32))) (s254_0 : Int32) (h_s254_0 : s254_0 = (if cb < s76_0 then (0 : Int32) else (if s98_0 < cb then (0 : Int32) else (1 : Int32)))) (hc183_29 : s254_0 = (0 : Int32)) : (-1 : Int32) = (seqZ (0 : Int32) (x0 &&& (255 : Int32)) (x1 &&& (255 : Int32)) (x2 &&& (255 : Int32)) (x3 &&& (255 : Int32)) (en - (0 : Int32)) sur) := by
  have e := @seqZ_0 (0 : Int32) (x0 &&& 255) (x1 &&& 255) (x2 &&& 255) (x3 &&& 255) (en - (0 : Int32)) sur
  refine e ?_
  clear e
  generalize x0 &&& 255 = y0 at *
  generalize x1 &&& 255 = y1 at *
  generalize x2 &&& 255 = y2 at *
  generalize x3 &&& 255 = y3 at *
  generalize en - (0 : Int32) = dd at *
  simp only [own_i, own_l, own_ite, Int32.reduceToInt, ne_eq] at *
  simp only [seqN]
  repeat' (first | omega | split at h_s76_0 | split at h_s98_0 | split at h_s176_0 | split at h_s254_0 | split)
theorem own_sq0_15 (en : Int32) (sur : Int32) (x0 : Int32) (x1 : Int32) (x2 : Int32) (x3 : Int32) (x4 : Int32) (x5 : Int32) (x6 : Int32) (x7 : Int32) (b0 : Int32) (h_b0 : b0 = (x0 &&& (255 : Int32))) (hc24 : ¬ (b0 < (194 : Int32))) (hc32 : (223 : Int32) < b0) (hc46 : ¬ (b0 < (224 : Int32))) (hc54 : ¬ ((239 : Int32) < b0)) (s76_0 : Int32) (h_s76_0 : s76_0 = (if b0 = (224 : Int32) then (160 : Int32) else (128 : Int32))) (s98_0 : Int32) (h_s98_0 : s98_0 = (if b0 = (237 : Int32) then (if sur = (0 : Int32) then (159 : Int32) else (191 : Int32)) else (191 : Int32))) (s176_0 : Int32) (h_s176_0 : s176_0 = (if (en - (0 : Int32)) < (3 : Int32) then (0 : Int32) else (1 : Int32))) (hc183 : ¬ (s176_0 = (0 : Int32))) (cb : Int32) (h_cb : cb = (x1 &&& (255 : Int32))) (s254_0 : Int32) (h_s254_0 : s254_0 = (if cb < s76_0 then (0 : Int32) else (if s98_0 < cb then (0 : Int32) else (1 : Int32)))) (hc183_29 : ¬ (s254_0 = (0 : Int32))) (cbb : Int32) (h_cbb : cbb = (x2 &&& (255 : Int32))) (s254_0b : Int32) (h_s254_0b : s254_0b = (if cbb < (128 : Int32) then (0 : Int32) else (if (191 : Int32) < cbb then (0 : Int32) else (1 : Int32)))) (hc183_33 : s254_0b = (0 : Int32)) : (-1 : Int32) = (seqZ (0 : Int32) (x0 &&& (255 : Int32)) (x1 &&& (255 : Int32)) (x2 &&& (255 : Int32)) (x3 &&& (255 : Int32)) (en - (0 : Int32)) sur) := by
  have e := @seqZ_0 (0 : Int32) (x0 &&& 255) (x1 &&& 255) (x2 &&& 255) (x3 &&& 255) (en - (0 : Int32)) sur
  refine e ?_
  clear e
  generalize x0 &&& 255 = y0 at *
  generalize x1 &&& 255 = y1 at *
  generalize x2 &&& 255 = y2 at *
  generalize x3 &&& 255 = y3 at *
  generalize en - (0 : Int32) = dd at *
  simp only [own_i, own_l, own_ite, Int32.reduceToInt, ne_eq] at *
  simp only [seqN]
  repeat' (first | omega | split at h_s76_0 | split at h_s98_0 | split at h_s176_0 | split at h_s254_0 | split at h_s254_0b | split)
theorem own_sq0_16 (en : Int32) (sur : Int32) (x0 : Int32) (x1 : Int32) (x2 : Int32) (x3 : Int32) (x4 : Int32) (x5 : Int32) (x6 : Int32) (x7 : Int32) (b0 : Int32) (h_b0 : b0 = (x0 &&& (255 : Int32))) (hc24 : ¬ (b0 < (194 : Int32))) (hc32 : (223 : Int32) < b0) (hc46 : ¬ (b0 < (224 : Int32))) (hc54 : ¬ ((239 : Int32) < b0)) (s76_0 : Int32) (h_s76_0 : s76_0 = (if b0 = (224 : Int32) then (160 : Int32) else (128 : Int32))) (s98_0 : Int32) (h_s98_0 : s98_0 = (if b0 = (237 : Int32) then (if sur = (0 : Int32) then (159 : Int32) else (191 : Int32)) else (191 : Int32))) (s176_0 : Int32) (h_s176_0 : s176_0 = (if (en - (0 : Int32)) < (3 : Int32) then (0 : Int32) else (1 : Int32))) (hc183 : ¬ (s176_0 = (0 : Int32))) (cb : Int32) (h_cb : cb = (x1 &&& (255 : Int32))) (s254_0 : Int32) (h_s254_0 : s254_0 = (if cb < s76_0 then (0 : Int32) else (if s98_0 < cb then (0 : Int32) else (1 : Int32)))) (hc183_29 : ¬ (s254_0 = (0 : Int32))) (cbb : Int32) (h_cbb : cbb = (x2 &&& (255 : Int32))) (s254_0b : Int32) (h_s254_0b : s254_0b = (if cbb < (128 : Int32) then (0 : Int32) else (if (191 : Int32) < cbb then (0 : Int32) else (1 : Int32)))) (hc183_33 : ¬ (s254_0b = (0 : Int32))) : (3 : Int32) = (seqZ (0 : Int32) (x0 &&& (255 : Int32)) (x1 &&& (255 : Int32)) (x2 &&& (255 : Int32)) (x3 &&& (255 : Int32)) (en - (0 : Int32)) sur) := by
  have e := @seqZ_3 (0 : Int32) (x0 &&& 255) (x1 &&& 255) (x2 &&& 255) (x3 &&& 255) (en - (0 : Int32)) sur
  refine Eq.trans (by decide) (e ?_)
  clear e
  generalize x0 &&& 255 = y0 at *
  generalize x1 &&& 255 = y1 at *
  generalize x2 &&& 255 = y2 at *
  generalize x3 &&& 255 = y3 at *
  generalize en - (0 : Int32) = dd at *
  simp only [own_i, own_l, own_ite, Int32.reduceToInt, ne_eq] at *
  simp only [seqN]
  repeat' (first | omega | split at h_s76_0 | split at h_s98_0 | split at h_s176_0 | split at h_s254_0 | split at h_s254_0b | split)
theorem own_sq0_17 (en : Int32) (sur : Int32) (x0 : Int32) (x1 : Int32) (x2 : Int32) (x3 : Int32) (x4 : Int32) (x5 : Int32) (x6 : Int32) (x7 : Int32) (b0 : Int32) (h_b0 : b0 = (x0 &&& (255 : Int32))) (hc24 : ¬ (b0 < (194 : Int32))) (hc32 : ¬ ((223 : Int32) < b0)) (s176_0 : Int32) (h_s176_0 : s176_0 = (if (en - (0 : Int32)) < (2 : Int32) then (0 : Int32) else (1 : Int32))) (hc183 : s176_0 = (0 : Int32)) : (-1 : Int32) = (seqZ (0 : Int32) (x0 &&& (255 : Int32)) (x1 &&& (255 : Int32)) (x2 &&& (255 : Int32)) (x3 &&& (255 : Int32)) (en - (0 : Int32)) sur) := by
  have e := @seqZ_0 (0 : Int32) (x0 &&& 255) (x1 &&& 255) (x2 &&& 255) (x3 &&& 255) (en - (0 : Int32)) sur
  refine e ?_
  clear e
  generalize x0 &&& 255 = y0 at *
  generalize x1 &&& 255 = y1 at *
  generalize x2 &&& 255 = y2 at *
  generalize x3 &&& 255 = y3 at *
  generalize en - (0 : Int32) = dd at *
  simp only [own_i, own_l, own_ite, Int32.reduceToInt, ne_eq] at *
  simp only [seqN]
  repeat' (first | omega | split at h_s176_0 | split)
theorem own_sq0_18 (en : Int32) (sur : Int32) (x0 : Int32) (x1 : Int32) (x2 : Int32) (x3 : Int32) (x4 : Int32) (x5 : Int32) (x6 : Int32) (x7 : Int32) (b0 : Int32) (h_b0 : b0 = (x0 &&& (255 : Int32))) (hc24 : ¬ (b0 < (194 : Int32))) (hc32 : ¬ ((223 : Int32) < b0)) (s176_0 : Int32) (h_s176_0 : s176_0 = (if (en - (0 : Int32)) < (2 : Int32) then (0 : Int32) else (1 : Int32))) (hc183 : ¬ (s176_0 = (0 : Int32))) (cb : Int32) (h_cb : cb = (x1 &&& (255 : Int32))) (s254_0 : Int32) (h_s254_0 : s254_0 = (if cb < (128 : Int32) then (0 : Int32) else (if (191 : Int32) < cb then (0 : Int32) else (1 : Int32)))) (hc183_39 : s254_0 = (0 : Int32)) : (-1 : Int32) = (seqZ (0 : Int32) (x0 &&& (255 : Int32)) (x1 &&& (255 : Int32)) (x2 &&& (255 : Int32)) (x3 &&& (255 : Int32)) (en - (0 : Int32)) sur) := by
  have e := @seqZ_0 (0 : Int32) (x0 &&& 255) (x1 &&& 255) (x2 &&& 255) (x3 &&& 255) (en - (0 : Int32)) sur
  refine e ?_
  clear e
  generalize x0 &&& 255 = y0 at *
  generalize x1 &&& 255 = y1 at *
  generalize x2 &&& 255 = y2 at *
  generalize x3 &&& 255 = y3 at *
  generalize en - (0 : Int32) = dd at *
  simp only [own_i, own_l, own_ite, Int32.reduceToInt, ne_eq] at *
  simp only [seqN]
  repeat' (first | omega | split at h_s176_0 | split at h_s254_0 | split)
theorem own_sq0_19 (en : Int32) (sur : Int32) (x0 : Int32) (x1 : Int32) (x2 : Int32) (x3 : Int32) (x4 : Int32) (x5 : Int32) (x6 : Int32) (x7 : Int32) (b0 : Int32) (h_b0 : b0 = (x0 &&& (255 : Int32))) (hc24 : ¬ (b0 < (194 : Int32))) (hc32 : ¬ ((223 : Int32) < b0)) (s176_0 : Int32) (h_s176_0 : s176_0 = (if (en - (0 : Int32)) < (2 : Int32) then (0 : Int32) else (1 : Int32))) (hc183 : ¬ (s176_0 = (0 : Int32))) (cb : Int32) (h_cb : cb = (x1 &&& (255 : Int32))) (s254_0 : Int32) (h_s254_0 : s254_0 = (if cb < (128 : Int32) then (0 : Int32) else (if (191 : Int32) < cb then (0 : Int32) else (1 : Int32)))) (hc183_39 : ¬ (s254_0 = (0 : Int32))) : (2 : Int32) = (seqZ (0 : Int32) (x0 &&& (255 : Int32)) (x1 &&& (255 : Int32)) (x2 &&& (255 : Int32)) (x3 &&& (255 : Int32)) (en - (0 : Int32)) sur) := by
  have e := @seqZ_2 (0 : Int32) (x0 &&& 255) (x1 &&& 255) (x2 &&& 255) (x3 &&& 255) (en - (0 : Int32)) sur
  refine Eq.trans (by decide) (e ?_)
  clear e
  generalize x0 &&& 255 = y0 at *
  generalize x1 &&& 255 = y1 at *
  generalize x2 &&& 255 = y2 at *
  generalize x3 &&& 255 = y3 at *
  generalize en - (0 : Int32) = dd at *
  simp only [own_i, own_l, own_ite, Int32.reduceToInt, ne_eq] at *
  simp only [seqN]
  repeat' (first | omega | split at h_s176_0 | split at h_s254_0 | split)
theorem pn_sq0 : plainFor (⟨"com/example/stamp_to_key/stamptokey/Utf8", "sequenceEnd", "([BIIZ)I"⟩ : MethodName) = true := by first | (refine plainFor_of_name ?_; simp [plainName, overriddenIn]; done) | decide +kernel
set_option maxRecDepth 65536 in
set_option maxHeartbeats 40000000 in
theorem c_sq0 (l : Launch) (Z : State) (a0 : Array Value) (hw : ∀ d ∈ tables_1, d.before a0 Z = true) (b : Addr) (en : Int32) (sur : Int32) (x0 : Int32) (x1 : Int32) (x2 : Int32) (x3 : Int32) (x4 : Int32) (x5 : Int32) (x6 : Int32) (x7 : Int32) (h0 : Heap) (n0 : Nat) (Z0 : n0 ≤ h0.size) (A_b : Ar Z h0 b .byte 8 (lst [.int x0, .int x1, .int x2, .int x3, .int x4, .int x5, .int x6, .int x7])) (g_b : n0 ≤ b) :
    Con l Z (⟨"com/example/stamp_to_key/stamptokey/Utf8", "sequenceEnd", "([BIIZ)I"⟩ : MethodName) prog_34_method_5_code 11 (some .int) ({ frames := 0, cells := 0, slots := 0, locals := 0 } : Room) #[(.ref b), .int (0 : Int32), .int en, .int sur] h0 n0 (Q_sq0 Z b en sur x0 x1 x2 x3 x4 x5 x6 x7 h0) [] := by
  refine con_of_wp pn_sq0 (L0 := #[.val ((.ref b)), .val (.int (0 : Int32)), .val (.int en), .val (.int sur), .unset, .unset, .unset, .unset, .unset, .unset, .unset]) (fun m => by first | (simp [entryFrame, mkF, argsToLocals, Value.category]; done) | rfl) (fun X hl ok => ?_)
  subst hl
  have hK : Konst Z a0 "com/example/stamp_to_key/stamptokey/Utf8" k_sq0 := trivial
  refine wp_run ok hK (B := [(0, .aload_n 0, false), (1, .iload_n 1, false)]) (by decide +kernel) (ps := []) (pc' := 2) (L' := #[.val ((.ref b)), .val (.int (0 : Int32)), .val (.int en), .val (.int sur), .unset, .unset, .unset, .unset, .unset, .unset, .unset]) (S' := [.int (0 : Int32), (.ref b)]) rfl trivial ?_
  refine wp_aB ok A_b (i := 0) (v := .int x0) (by rfl) (by decide) rfl (by decide +kernel) ?_
  refine wp_run ok hK (B := [(3, .sipush 255, false), (6, .iand, false), (7, .istore 4, false)]) (by decide +kernel) (ps := []) (pc' := 9) (L' := #[.val ((.ref b)), .val (.int (0 : Int32)), .val (.int en), .val (.int sur), .val (.int (x0 &&& (255 : Int32))), .unset, .unset, .unset, .unset, .unset, .unset]) (S' := []) rfl trivial ?_
  obtain ⟨b0, h_b0⟩ : ∃ z : Int32, z = (x0 &&& (255 : Int32)) := ⟨_, rfl⟩
  rw [← h_b0]
  refine wp_run ok hK (B := [(9, .sipush 128, false), (12, .istore 6, false), (14, .sipush 191, false), (17, .istore 7, false)]) (by decide +kernel) (ps := []) (pc' := 19) (L' := #[.val ((.ref b)), .val (.int (0 : Int32)), .val (.int en), .val (.int sur), .val (.int b0), .unset, .val (.int (128 : Int32)), .val (.int (191 : Int32)), .unset, .unset, .unset]) (S' := []) rfl trivial ?_
  refine wp_run ok hK (B := [(19, .iload 4, false), (21, .sipush 194, false)]) (by decide +kernel) (ps := []) (pc' := 24) (L' := #[.val ((.ref b)), .val (.int (0 : Int32)), .val (.int en), .val (.int sur), .val (.int b0), .unset, .val (.int (128 : Int32)), .val (.int (191 : Int32)), .unset, .unset, .unset]) (S' := [.int (194 : Int32), .int b0]) rfl trivial ?_
  by_cases hc24 : b0 < (194 : Int32)
  · refine wp_run ok hK (B := [(24, .if_icmp .lt 17, true)]) (by decide +kernel) (ps := [Op.if_icmp.holds .lt b0 (194 : Int32) = true]) (pc' := 41) (L' := #[.val ((.ref b)), .val (.int (0 : Int32)), .val (.int en), .val (.int sur), .val (.int b0), .unset, .val (.int (128 : Int32)), .val (.int (191 : Int32)), .unset, .unset, .unset]) (S' := []) rfl ⟨(XT.ii_lt_t hc24), trivial⟩ ?_
    refine wp_run ok hK (B := [(41, .iload 4, false), (43, .sipush 224, false), (46, .if_icmp .lt 57, true), (103, .iload 4, false), (105, .sipush 240, false), (108, .if_icmp .lt 53, true), (161, .iconst (-1), false)]) (by decide +kernel) (ps := [Op.if_icmp.holds .lt b0 (224 : Int32) = true, Op.if_icmp.holds .lt b0 (240 : Int32) = true]) (pc' := 162) (L' := #[.val ((.ref b)), .val (.int (0 : Int32)), .val (.int en), .val (.int sur), .val (.int b0), .unset, .val (.int (128 : Int32)), .val (.int (191 : Int32)), .unset, .unset, .unset]) (S' := [.int (-1 : Int32)]) rfl ⟨(XT.ii_lt_t (own_sq0_1 en sur x0 x1 x2 x3 x4 x5 x6 x7 b0 h_b0 hc24)), (XT.ii_lt_t (own_sq0_2 en sur x0 x1 x2 x3 x4 x5 x6 x7 b0 h_b0 hc24)), trivial⟩ ?_
    refine wp_retI ok (by decide +kernel) (by decide) (by decide) ?_
    exact ⟨congrArg (fun z => some (Value.int z)) (own_sq0_3 en sur x0 x1 x2 x3 x4 x5 x6 x7 b0 h_b0 hc24), rfl⟩
  · refine wp_run ok hK (B := [(24, .if_icmp .lt 17, false)]) (by decide +kernel) (ps := [Op.if_icmp.holds .lt b0 (194 : Int32) = false]) (pc' := 27) (L' := #[.val ((.ref b)), .val (.int (0 : Int32)), .val (.int en), .val (.int sur), .val (.int b0), .unset, .val (.int (128 : Int32)), .val (.int (191 : Int32)), .unset, .unset, .unset]) (S' := []) rfl ⟨(XT.ii_lt_f hc24), trivial⟩ ?_
    refine wp_run ok hK (B := [(27, .iload 4, false), (29, .sipush 223, false)]) (by decide +kernel) (ps := []) (pc' := 32) (L' := #[.val ((.ref b)), .val (.int (0 : Int32)), .val (.int en), .val (.int sur), .val (.int b0), .unset, .val (.int (128 : Int32)), .val (.int (191 : Int32)), .unset, .unset, .unset]) (S' := [.int (223 : Int32), .int b0]) rfl trivial ?_
    by_cases hc32 : (223 : Int32) < b0
    · refine wp_run ok hK (B := [(32, .if_icmp .gt 9, true)]) (by decide +kernel) (ps := [Op.if_icmp.holds .gt b0 (223 : Int32) = true]) (pc' := 41) (L' := #[.val ((.ref b)), .val (.int (0 : Int32)), .val (.int en), .val (.int sur), .val (.int b0), .unset, .val (.int (128 : Int32)), .val (.int (191 : Int32)), .unset, .unset, .unset]) (S' := []) rfl ⟨(XT.ii_gt_t hc32), trivial⟩ ?_
      refine wp_run ok hK (B := [(41, .iload 4, false), (43, .sipush 224, false)]) (by decide +kernel) (ps := []) (pc' := 46) (L' := #[.val ((.ref b)), .val (.int (0 : Int32)), .val (.int en), .val (.int sur), .val (.int b0), .unset, .val (.int (128 : Int32)), .val (.int (191 : Int32)), .unset, .unset, .unset]) (S' := [.int (224 : Int32), .int b0]) rfl trivial ?_
      by_cases hc46 : b0 < (224 : Int32)
      · refine wp_run ok hK (B := [(46, .if_icmp .lt 57, true)]) (by decide +kernel) (ps := [Op.if_icmp.holds .lt b0 (224 : Int32) = true]) (pc' := 103) (L' := #[.val ((.ref b)), .val (.int (0 : Int32)), .val (.int en), .val (.int sur), .val (.int b0), .unset, .val (.int (128 : Int32)), .val (.int (191 : Int32)), .unset, .unset, .unset]) (S' := []) rfl ⟨(XT.ii_lt_t hc46), trivial⟩ ?_
        refine wp_run ok hK (B := [(103, .iload 4, false), (105, .sipush 240, false), (108, .if_icmp .lt 53, true), (161, .iconst (-1), false)]) (by decide +kernel) (ps := [Op.if_icmp.holds .lt b0 (240 : Int32) = true]) (pc' := 162) (L' := #[.val ((.ref b)), .val (.int (0 : Int32)), .val (.int en), .val (.int sur), .val (.int b0), .unset, .val (.int (128 : Int32)), .val (.int (191 : Int32)), .unset, .unset, .unset]) (S' := [.int (-1 : Int32)]) rfl ⟨(XT.ii_lt_t (own_sq0_4 en sur x0 x1 x2 x3 x4 x5 x6 x7 b0 h_b0 hc24 hc32 hc46)), trivial⟩ ?_
        refine wp_retI ok (by decide +kernel) (by decide) (by decide) ?_
        exact ⟨congrArg (fun z => some (Value.int z)) (own_sq0_5 en sur x0 x1 x2 x3 x4 x5 x6 x7 b0 h_b0 hc24 hc32 hc46), rfl⟩
      · refine wp_run ok hK (B := [(46, .if_icmp .lt 57, false)]) (by decide +kernel) (ps := [Op.if_icmp.holds .lt b0 (224 : Int32) = false]) (pc' := 49) (L' := #[.val ((.ref b)), .val (.int (0 : Int32)), .val (.int en), .val (.int sur), .val (.int b0), .unset, .val (.int (128 : Int32)), .val (.int (191 : Int32)), .unset, .unset, .unset]) (S' := []) rfl ⟨(XT.ii_lt_f hc46), trivial⟩ ?_
        refine wp_run ok hK (B := [(49, .iload 4, false), (51, .sipush 239, false)]) (by decide +kernel) (ps := []) (pc' := 54) (L' := #[.val ((.ref b)), .val (.int (0 : Int32)), .val (.int en), .val (.int sur), .val (.int b0), .unset, .val (.int (128 : Int32)), .val (.int (191 : Int32)), .unset, .unset, .unset]) (S' := [.int (239 : Int32), .int b0]) rfl trivial ?_
        by_cases hc54 : (239 : Int32) < b0
        · refine wp_run ok hK (B := [(54, .if_icmp .gt 49, true)]) (by decide +kernel) (ps := [Op.if_icmp.holds .gt b0 (239 : Int32) = true]) (pc' := 103) (L' := #[.val ((.ref b)), .val (.int (0 : Int32)), .val (.int en), .val (.int sur), .val (.int b0), .unset, .val (.int (128 : Int32)), .val (.int (191 : Int32)), .unset, .unset, .unset]) (S' := []) rfl ⟨(XT.ii_gt_t hc54), trivial⟩ ?_
          refine wp_run ok hK (B := [(103, .iload 4, false), (105, .sipush 240, false)]) (by decide +kernel) (ps := []) (pc' := 108) (L' := #[.val ((.ref b)), .val (.int (0 : Int32)), .val (.int en), .val (.int sur), .val (.int b0), .unset, .val (.int (128 : Int32)), .val (.int (191 : Int32)), .unset, .unset, .unset]) (S' := [.int (240 : Int32), .int b0]) rfl trivial ?_
          by_cases hc108 : b0 < (240 : Int32)
          · refine wp_run ok hK (B := [(108, .if_icmp .lt 53, true)]) (by decide +kernel) (ps := [Op.if_icmp.holds .lt b0 (240 : Int32) = true]) (pc' := 161) (L' := #[.val ((.ref b)), .val (.int (0 : Int32)), .val (.int en), .val (.int sur), .val (.int b0), .unset, .val (.int (128 : Int32)), .val (.int (191 : Int32)), .unset, .unset, .unset]) (S' := []) rfl ⟨(XT.ii_lt_t hc108), trivial⟩ ?_
            refine wp_run ok hK (B := [(161, .iconst (-1), false)]) (by decide +kernel) (ps := []) (pc' := 162) (L' := #[.val ((.ref b)), .val (.int (0 : Int32)), .val (.int en), .val (.int sur), .val (.int b0), .unset, .val (.int (128 : Int32)), .val (.int (191 : Int32)), .unset, .unset, .unset]) (S' := [.int (-1 : Int32)]) rfl trivial ?_
            refine wp_retI ok (by decide +kernel) (by decide) (by decide) ?_
            exact ⟨congrArg (fun z => some (Value.int z)) (own_sq0_6 en sur x0 x1 x2 x3 x4 x5 x6 x7 b0 h_b0 hc24 hc32 hc46 hc54 hc108), rfl⟩
          · refine wp_run ok hK (B := [(108, .if_icmp .lt 53, false)]) (by decide +kernel) (ps := [Op.if_icmp.holds .lt b0 (240 : Int32) = false]) (pc' := 111) (L' := #[.val ((.ref b)), .val (.int (0 : Int32)), .val (.int en), .val (.int sur), .val (.int b0), .unset, .val (.int (128 : Int32)), .val (.int (191 : Int32)), .unset, .unset, .unset]) (S' := []) rfl ⟨(XT.ii_lt_f hc108), trivial⟩ ?_
            refine wp_run ok hK (B := [(111, .iload 4, false), (113, .sipush 244, false)]) (by decide +kernel) (ps := []) (pc' := 116) (L' := #[.val ((.ref b)), .val (.int (0 : Int32)), .val (.int en), .val (.int sur), .val (.int b0), .unset, .val (.int (128 : Int32)), .val (.int (191 : Int32)), .unset, .unset, .unset]) (S' := [.int (244 : Int32), .int b0]) rfl trivial ?_
            by_cases hc116 : (244 : Int32) < b0
            · refine wp_run ok hK (B := [(116, .if_icmp .gt 45, true)]) (by decide +kernel) (ps := [Op.if_icmp.holds .gt b0 (244 : Int32) = true]) (pc' := 161) (L' := #[.val ((.ref b)), .val (.int (0 : Int32)), .val (.int en), .val (.int sur), .val (.int b0), .unset, .val (.int (128 : Int32)), .val (.int (191 : Int32)), .unset, .unset, .unset]) (S' := []) rfl ⟨(XT.ii_gt_t hc116), trivial⟩ ?_
              refine wp_run ok hK (B := [(161, .iconst (-1), false)]) (by decide +kernel) (ps := []) (pc' := 162) (L' := #[.val ((.ref b)), .val (.int (0 : Int32)), .val (.int en), .val (.int sur), .val (.int b0), .unset, .val (.int (128 : Int32)), .val (.int (191 : Int32)), .unset, .unset, .unset]) (S' := [.int (-1 : Int32)]) rfl trivial ?_
              refine wp_retI ok (by decide +kernel) (by decide) (by decide) ?_
              exact ⟨congrArg (fun z => some (Value.int z)) (own_sq0_7 en sur x0 x1 x2 x3 x4 x5 x6 x7 b0 h_b0 hc24 hc32 hc46 hc54 hc108 hc116), rfl⟩
            · refine wp_run ok hK (B := [(116, .if_icmp .gt 45, false)]) (by decide +kernel) (ps := [Op.if_icmp.holds .gt b0 (244 : Int32) = false]) (pc' := 119) (L' := #[.val ((.ref b)), .val (.int (0 : Int32)), .val (.int en), .val (.int sur), .val (.int b0), .unset, .val (.int (128 : Int32)), .val (.int (191 : Int32)), .unset, .unset, .unset]) (S' := []) rfl ⟨(XT.ii_gt_f hc116), trivial⟩ ?_
              refine wp_run ok hK (B := [(119, .iconst 4, false), (120, .istore 5, false), (122, .iload 4, false), (124, .sipush 240, false)]) (by decide +kernel) (ps := []) (pc' := 127) (L' := #[.val ((.ref b)), .val (.int (0 : Int32)), .val (.int en), .val (.int sur), .val (.int b0), .val (.int (4 : Int32)), .val (.int (128 : Int32)), .val (.int (191 : Int32)), .unset, .unset, .unset]) (S' := [.int (240 : Int32), .int b0]) rfl trivial ?_
              have J138_2 : ∀ (s138_0 : Int32) (h_s138_0 : s138_0 = (if b0 = (240 : Int32) then (144 : Int32) else (128 : Int32))), WP X n0 (Q_sq0 Z b en sur x0 x1 x2 x3 x4 x5 x6 x7 h0) h0 0 0 138 #[.val ((.ref b)), .val (.int (0 : Int32)), .val (.int en), .val (.int sur), .val (.int b0), .val (.int (4 : Int32)), .val (.int (128 : Int32)), .val (.int (191 : Int32)), .unset, .unset, .unset] [.int s138_0] := by
                intro s138_0 h_s138_0
                refine wp_run ok hK (B := [(138, .istore 6, false), (140, .iload 4, false), (142, .sipush 244, false)]) (by decide +kernel) (ps := []) (pc' := 145) (L' := #[.val ((.ref b)), .val (.int (0 : Int32)), .val (.int en), .val (.int sur), .val (.int b0), .val (.int (4 : Int32)), .val (.int s138_0), .val (.int (191 : Int32)), .unset, .unset, .unset]) (S' := [.int (244 : Int32), .int b0]) rfl trivial ?_
                have J156_4 : ∀ (s156_0 : Int32) (h_s156_0 : s156_0 = (if b0 = (244 : Int32) then (143 : Int32) else (191 : Int32))), WP X n0 (Q_sq0 Z b en sur x0 x1 x2 x3 x4 x5 x6 x7 h0) h0 0 0 156 #[.val ((.ref b)), .val (.int (0 : Int32)), .val (.int en), .val (.int sur), .val (.int b0), .val (.int (4 : Int32)), .val (.int s138_0), .val (.int (191 : Int32)), .unset, .unset, .unset] [.int s156_0] := by
                  intro s156_0 h_s156_0
                  refine wp_run ok hK (B := [(156, .istore 7, false), (158, .goto 5, false), (163, .iload_n 2, false), (164, .iload_n 1, false), (165, .isub, false), (166, .iload 5, false)]) (by decide +kernel) (ps := []) (pc' := 168) (L' := #[.val ((.ref b)), .val (.int (0 : Int32)), .val (.int en), .val (.int sur), .val (.int b0), .val (.int (4 : Int32)), .val (.int s138_0), .val (.int s156_0), .unset, .unset, .unset]) (S' := [.int (4 : Int32), .int (en - (0 : Int32))]) rfl trivial ?_
                  have J176_6 : ∀ (s176_0 : Int32) (h_s176_0 : s176_0 = (if (en - (0 : Int32)) < (4 : Int32) then (0 : Int32) else (1 : Int32))), WP X n0 (Q_sq0 Z b en sur x0 x1 x2 x3 x4 x5 x6 x7 h0) h0 0 0 176 #[.val ((.ref b)), .val (.int (0 : Int32)), .val (.int en), .val (.int sur), .val (.int b0), .val (.int (4 : Int32)), .val (.int s138_0), .val (.int s156_0), .unset, .unset, .unset] [.int s176_0] := by
                    intro s176_0 h_s176_0
                    refine wp_run ok hK (B := [(176, .istore 8, false), (178, .iconst 1, false), (179, .istore 9, false)]) (by decide +kernel) (ps := []) (pc' := 181) (L' := #[.val ((.ref b)), .val (.int (0 : Int32)), .val (.int en), .val (.int sur), .val (.int b0), .val (.int (4 : Int32)), .val (.int s138_0), .val (.int s156_0), .val (.int s176_0), .val (.int (1 : Int32)), .unset]) (S' := []) rfl trivial ?_
                    refine wp_run ok hK (B := [(181, .iload 8, false)]) (by decide +kernel) (ps := []) (pc' := 183) (L' := #[.val ((.ref b)), .val (.int (0 : Int32)), .val (.int en), .val (.int sur), .val (.int b0), .val (.int (4 : Int32)), .val (.int s138_0), .val (.int s156_0), .val (.int s176_0), .val (.int (1 : Int32)), .unset]) (S' := [.int s176_0]) rfl trivial ?_
                    by_cases hc183 : s176_0 = (0 : Int32)
                    · refine wp_run ok hK (B := [(183, .ifCond .eq 79, true)]) (by decide +kernel) (ps := [Op.ifCond.holds .eq s176_0 = true]) (pc' := 262) (L' := #[.val ((.ref b)), .val (.int (0 : Int32)), .val (.int en), .val (.int sur), .val (.int b0), .val (.int (4 : Int32)), .val (.int s138_0), .val (.int s156_0), .val (.int s176_0), .val (.int (1 : Int32)), .unset]) (S' := []) rfl ⟨(XT.i0_eq_t hc183), trivial⟩ ?_
                      refine wp_run ok hK (B := [(262, .iload 8, false), (264, .ifCond .eq 10, true), (274, .iconst (-1), false)]) (by decide +kernel) (ps := [Op.ifCond.holds .eq s176_0 = true]) (pc' := 275) (L' := #[.val ((.ref b)), .val (.int (0 : Int32)), .val (.int en), .val (.int sur), .val (.int b0), .val (.int (4 : Int32)), .val (.int s138_0), .val (.int s156_0), .val (.int s176_0), .val (.int (1 : Int32)), .unset]) (S' := [.int (-1 : Int32)]) rfl ⟨(XT.i0_eq_t hc183), trivial⟩ ?_
                      refine wp_retI ok (by decide +kernel) (by decide) (by decide) ?_
                      exact ⟨congrArg (fun z => some (Value.int z)) (own_sq0_8 en sur x0 x1 x2 x3 x4 x5 x6 x7 b0 h_b0 hc24 hc32 hc46 hc54 hc108 hc116 s138_0 h_s138_0 s156_0 h_s156_0 s176_0 h_s176_0 hc183), rfl⟩
                    · refine wp_run ok hK (B := [(183, .ifCond .eq 79, false)]) (by decide +kernel) (ps := [Op.ifCond.holds .eq s176_0 = false]) (pc' := 186) (L' := #[.val ((.ref b)), .val (.int (0 : Int32)), .val (.int en), .val (.int sur), .val (.int b0), .val (.int (4 : Int32)), .val (.int s138_0), .val (.int s156_0), .val (.int s176_0), .val (.int (1 : Int32)), .unset]) (S' := []) rfl ⟨(XT.i0_eq_f hc183), trivial⟩ ?_
                      refine wp_run ok hK (B := [(186, .iload 9, false), (188, .iload 5, false), (190, .if_icmp .ge 72, false), (193, .aload_n 0, false), (194, .iload_n 1, false), (195, .iload 9, false), (197, .iadd, false)]) (by decide +kernel) (ps := [Op.if_icmp.holds .ge (1 : Int32) (4 : Int32) = false]) (pc' := 198) (L' := #[.val ((.ref b)), .val (.int (0 : Int32)), .val (.int en), .val (.int sur), .val (.int b0), .val (.int (4 : Int32)), .val (.int s138_0), .val (.int s156_0), .val (.int s176_0), .val (.int (1 : Int32)), .unset]) (S' := [.int (1 : Int32), (.ref b)]) rfl ⟨(XT.ii_ge_f (by decide)), trivial⟩ ?_
                      refine wp_aB ok A_b (i := 1) (v := .int x1) (by rfl) (by decide) rfl (by decide +kernel) ?_
                      refine wp_run ok hK (B := [(199, .sipush 255, false), (202, .iand, false), (203, .istore 10, false)]) (by decide +kernel) (ps := []) (pc' := 205) (L' := #[.val ((.ref b)), .val (.int (0 : Int32)), .val (.int en), .val (.int sur), .val (.int b0), .val (.int (4 : Int32)), .val (.int s138_0), .val (.int s156_0), .val (.int s176_0), .val (.int (1 : Int32)), .val (.int (x1 &&& (255 : Int32)))]) (S' := []) rfl trivial ?_
                      obtain ⟨cb, h_cb⟩ : ∃ z : Int32, z = (x1 &&& (255 : Int32)) := ⟨_, rfl⟩
                      rw [← h_cb]
                      refine wp_run ok hK (B := [(205, .iload 9, false), (207, .iconst 1, false), (208, .if_icmp .ne 25, false), (211, .iload 10, false), (213, .iload 6, false)]) (by decide +kernel) (ps := [Op.if_icmp.holds .ne (1 : Int32) (1 : Int32) = false]) (pc' := 215) (L' := #[.val ((.ref b)), .val (.int (0 : Int32)), .val (.int en), .val (.int sur), .val (.int b0), .val (.int (4 : Int32)), .val (.int s138_0), .val (.int s156_0), .val (.int s176_0), .val (.int (1 : Int32)), .val (.int cb)]) (S' := [.int s138_0, .int cb]) rfl ⟨(XT.ii_ne_f (by decide)), trivial⟩ ?_
                      have J254_9 : ∀ (s254_0 : Int32) (h_s254_0 : s254_0 = (if cb < s138_0 then (0 : Int32) else (if s156_0 < cb then (0 : Int32) else (1 : Int32)))), WP X n0 (Q_sq0 Z b en sur x0 x1 x2 x3 x4 x5 x6 x7 h0) h0 0 0 254 #[.val ((.ref b)), .val (.int (0 : Int32)), .val (.int en), .val (.int sur), .val (.int b0), .val (.int (4 : Int32)), .val (.int s138_0), .val (.int s156_0), .val (.int s176_0), .val (.int (1 : Int32)), .val (.int cb)] [.int s254_0] := by
                        intro s254_0 h_s254_0
                        refine wp_run ok hK (B := [(254, .istore 8, false), (256, .iinc 9 1, false)]) (by decide +kernel) (ps := []) (pc' := 259) (L' := #[.val ((.ref b)), .val (.int (0 : Int32)), .val (.int en), .val (.int sur), .val (.int b0), .val (.int (4 : Int32)), .val (.int s138_0), .val (.int s156_0), .val (.int s254_0), .val (.int (2 : Int32)), .val (.int cb)]) (S' := []) rfl trivial ?_
                        refine wp_run ok hK (B := [(259, .goto (-78), false), (181, .iload 8, false)]) (by decide +kernel) (ps := []) (pc' := 183) (L' := #[.val ((.ref b)), .val (.int (0 : Int32)), .val (.int en), .val (.int sur), .val (.int b0), .val (.int (4 : Int32)), .val (.int s138_0), .val (.int s156_0), .val (.int s254_0), .val (.int (2 : Int32)), .val (.int cb)]) (S' := [.int s254_0]) rfl trivial ?_
                        by_cases hc183_10 : s254_0 = (0 : Int32)
                        · refine wp_run ok hK (B := [(183, .ifCond .eq 79, true)]) (by decide +kernel) (ps := [Op.ifCond.holds .eq s254_0 = true]) (pc' := 262) (L' := #[.val ((.ref b)), .val (.int (0 : Int32)), .val (.int en), .val (.int sur), .val (.int b0), .val (.int (4 : Int32)), .val (.int s138_0), .val (.int s156_0), .val (.int s254_0), .val (.int (2 : Int32)), .val (.int cb)]) (S' := []) rfl ⟨(XT.i0_eq_t hc183_10), trivial⟩ ?_
                          refine wp_run ok hK (B := [(262, .iload 8, false), (264, .ifCond .eq 10, true), (274, .iconst (-1), false)]) (by decide +kernel) (ps := [Op.ifCond.holds .eq s254_0 = true]) (pc' := 275) (L' := #[.val ((.ref b)), .val (.int (0 : Int32)), .val (.int en), .val (.int sur), .val (.int b0), .val (.int (4 : Int32)), .val (.int s138_0), .val (.int s156_0), .val (.int s254_0), .val (.int (2 : Int32)), .val (.int cb)]) (S' := [.int (-1 : Int32)]) rfl ⟨(XT.i0_eq_t hc183_10), trivial⟩ ?_
                          refine wp_retI ok (by decide +kernel) (by decide) (by decide) ?_
                          exact ⟨congrArg (fun z => some (Value.int z)) (own_sq0_9 en sur x0 x1 x2 x3 x4 x5 x6 x7 b0 h_b0 hc24 hc32 hc46 hc54 hc108 hc116 s138_0 h_s138_0 s156_0 h_s156_0 s176_0 h_s176_0 hc183 cb h_cb s254_0 h_s254_0 hc183_10), rfl⟩
                        · refine wp_run ok hK (B := [(183, .ifCond .eq 79, false)]) (by decide +kernel) (ps := [Op.ifCond.holds .eq s254_0 = false]) (pc' := 186) (L' := #[.val ((.ref b)), .val (.int (0 : Int32)), .val (.int en), .val (.int sur), .val (.int b0), .val (.int (4 : Int32)), .val (.int s138_0), .val (.int s156_0), .val (.int s254_0), .val (.int (2 : Int32)), .val (.int cb)]) (S' := []) rfl ⟨(XT.i0_eq_f hc183_10), trivial⟩ ?_
                          refine wp_run ok hK (B := [(186, .iload 9, false), (188, .iload 5, false), (190, .if_icmp .ge 72, false), (193, .aload_n 0, false), (194, .iload_n 1, false), (195, .iload 9, false), (197, .iadd, false)]) (by decide +kernel) (ps := [Op.if_icmp.holds .ge (2 : Int32) (4 : Int32) = false]) (pc' := 198) (L' := #[.val ((.ref b)), .val (.int (0 : Int32)), .val (.int en), .val (.int sur), .val (.int b0), .val (.int (4 : Int32)), .val (.int s138_0), .val (.int s156_0), .val (.int s254_0), .val (.int (2 : Int32)), .val (.int cb)]) (S' := [.int (2 : Int32), (.ref b)]) rfl ⟨(XT.ii_ge_f (by decide)), trivial⟩ ?_
                          refine wp_aB ok A_b (i := 2) (v := .int x2) (by rfl) (by decide) rfl (by decide +kernel) ?_
                          refine wp_run ok hK (B := [(199, .sipush 255, false), (202, .iand, false), (203, .istore 10, false)]) (by decide +kernel) (ps := []) (pc' := 205) (L' := #[.val ((.ref b)), .val (.int (0 : Int32)), .val (.int en), .val (.int sur), .val (.int b0), .val (.int (4 : Int32)), .val (.int s138_0), .val (.int s156_0), .val (.int s254_0), .val (.int (2 : Int32)), .val (.int (x2 &&& (255 : Int32)))]) (S' := []) rfl trivial ?_
                          obtain ⟨cbb, h_cbb⟩ : ∃ z : Int32, z = (x2 &&& (255 : Int32)) := ⟨_, rfl⟩
                          rw [← h_cbb]
                          refine wp_run ok hK (B := [(205, .iload 9, false), (207, .iconst 1, false), (208, .if_icmp .ne 25, true), (233, .iload 10, false), (235, .sipush 128, false)]) (by decide +kernel) (ps := [Op.if_icmp.holds .ne (2 : Int32) (1 : Int32) = true]) (pc' := 238) (L' := #[.val ((.ref b)), .val (.int (0 : Int32)), .val (.int en), .val (.int sur), .val (.int b0), .val (.int (4 : Int32)), .val (.int s138_0), .val (.int s156_0), .val (.int s254_0), .val (.int (2 : Int32)), .val (.int cbb)]) (S' := [.int (128 : Int32), .int cbb]) rfl ⟨(XT.ii_ne_t (by decide)), trivial⟩ ?_
                          have J254_13 : ∀ (s254_0b : Int32) (h_s254_0b : s254_0b = (if cbb < (128 : Int32) then (0 : Int32) else (if (191 : Int32) < cbb then (0 : Int32) else (1 : Int32)))), WP X n0 (Q_sq0 Z b en sur x0 x1 x2 x3 x4 x5 x6 x7 h0) h0 0 0 254 #[.val ((.ref b)), .val (.int (0 : Int32)), .val (.int en), .val (.int sur), .val (.int b0), .val (.int (4 : Int32)), .val (.int s138_0), .val (.int s156_0), .val (.int s254_0), .val (.int (2 : Int32)), .val (.int cbb)] [.int s254_0b] := by
                            intro s254_0b h_s254_0b
                            refine wp_run ok hK (B := [(254, .istore 8, false), (256, .iinc 9 1, false)]) (by decide +kernel) (ps := []) (pc' := 259) (L' := #[.val ((.ref b)), .val (.int (0 : Int32)), .val (.int en), .val (.int sur), .val (.int b0), .val (.int (4 : Int32)), .val (.int s138_0), .val (.int s156_0), .val (.int s254_0b), .val (.int (3 : Int32)), .val (.int cbb)]) (S' := []) rfl trivial ?_
                            refine wp_run ok hK (B := [(259, .goto (-78), false), (181, .iload 8, false)]) (by decide +kernel) (ps := []) (pc' := 183) (L' := #[.val ((.ref b)), .val (.int (0 : Int32)), .val (.int en), .val (.int sur), .val (.int b0), .val (.int (4 : Int32)), .val (.int s138_0), .val (.int s156_0), .val (.int s254_0b), .val (.int (3 : Int32)), .val (.int cbb)]) (S' := [.int s254_0b]) rfl trivial ?_
                            by_cases hc183_14 : s254_0b = (0 : Int32)
                            · refine wp_run ok hK (B := [(183, .ifCond .eq 79, true)]) (by decide +kernel) (ps := [Op.ifCond.holds .eq s254_0b = true]) (pc' := 262) (L' := #[.val ((.ref b)), .val (.int (0 : Int32)), .val (.int en), .val (.int sur), .val (.int b0), .val (.int (4 : Int32)), .val (.int s138_0), .val (.int s156_0), .val (.int s254_0b), .val (.int (3 : Int32)), .val (.int cbb)]) (S' := []) rfl ⟨(XT.i0_eq_t hc183_14), trivial⟩ ?_
                              refine wp_run ok hK (B := [(262, .iload 8, false), (264, .ifCond .eq 10, true), (274, .iconst (-1), false)]) (by decide +kernel) (ps := [Op.ifCond.holds .eq s254_0b = true]) (pc' := 275) (L' := #[.val ((.ref b)), .val (.int (0 : Int32)), .val (.int en), .val (.int sur), .val (.int b0), .val (.int (4 : Int32)), .val (.int s138_0), .val (.int s156_0), .val (.int s254_0b), .val (.int (3 : Int32)), .val (.int cbb)]) (S' := [.int (-1 : Int32)]) rfl ⟨(XT.i0_eq_t hc183_14), trivial⟩ ?_
                              refine wp_retI ok (by decide +kernel) (by decide) (by decide) ?_
                              exact ⟨congrArg (fun z => some (Value.int z)) (own_sq0_10 en sur x0 x1 x2 x3 x4 x5 x6 x7 b0 h_b0 hc24 hc32 hc46 hc54 hc108 hc116 s138_0 h_s138_0 s156_0 h_s156_0 s176_0 h_s176_0 hc183 cb h_cb s254_0 h_s254_0 hc183_10 cbb h_cbb s254_0b h_s254_0b hc183_14), rfl⟩
                            · refine wp_run ok hK (B := [(183, .ifCond .eq 79, false)]) (by decide +kernel) (ps := [Op.ifCond.holds .eq s254_0b = false]) (pc' := 186) (L' := #[.val ((.ref b)), .val (.int (0 : Int32)), .val (.int en), .val (.int sur), .val (.int b0), .val (.int (4 : Int32)), .val (.int s138_0), .val (.int s156_0), .val (.int s254_0b), .val (.int (3 : Int32)), .val (.int cbb)]) (S' := []) rfl ⟨(XT.i0_eq_f hc183_14), trivial⟩ ?_
                              refine wp_run ok hK (B := [(186, .iload 9, false), (188, .iload 5, false), (190, .if_icmp .ge 72, false), (193, .aload_n 0, false), (194, .iload_n 1, false), (195, .iload 9, false), (197, .iadd, false)]) (by decide +kernel) (ps := [Op.if_icmp.holds .ge (3 : Int32) (4 : Int32) = false]) (pc' := 198) (L' := #[.val ((.ref b)), .val (.int (0 : Int32)), .val (.int en), .val (.int sur), .val (.int b0), .val (.int (4 : Int32)), .val (.int s138_0), .val (.int s156_0), .val (.int s254_0b), .val (.int (3 : Int32)), .val (.int cbb)]) (S' := [.int (3 : Int32), (.ref b)]) rfl ⟨(XT.ii_ge_f (by decide)), trivial⟩ ?_
                              refine wp_aB ok A_b (i := 3) (v := .int x3) (by rfl) (by decide) rfl (by decide +kernel) ?_
                              refine wp_run ok hK (B := [(199, .sipush 255, false), (202, .iand, false), (203, .istore 10, false)]) (by decide +kernel) (ps := []) (pc' := 205) (L' := #[.val ((.ref b)), .val (.int (0 : Int32)), .val (.int en), .val (.int sur), .val (.int b0), .val (.int (4 : Int32)), .val (.int s138_0), .val (.int s156_0), .val (.int s254_0b), .val (.int (3 : Int32)), .val (.int (x3 &&& (255 : Int32)))]) (S' := []) rfl trivial ?_
                              obtain ⟨cbbb, h_cbbb⟩ : ∃ z : Int32, z = (x3 &&& (255 : Int32)) := ⟨_, rfl⟩
                              rw [← h_cbbb]
                              refine wp_run ok hK (B := [(205, .iload 9, false), (207, .iconst 1, false), (208, .if_icmp .ne 25, true), (233, .iload 10, false), (235, .sipush 128, false)]) (by decide +kernel) (ps := [Op.if_icmp.holds .ne (3 : Int32) (1 : Int32) = true]) (pc' := 238) (L' := #[.val ((.ref b)), .val (.int (0 : Int32)), .val (.int en), .val (.int sur), .val (.int b0), .val (.int (4 : Int32)), .val (.int s138_0), .val (.int s156_0), .val (.int s254_0b), .val (.int (3 : Int32)), .val (.int cbbb)]) (S' := [.int (128 : Int32), .int cbbb]) rfl ⟨(XT.ii_ne_t (by decide)), trivial⟩ ?_
                              have J254_17 : ∀ (s254_0bb : Int32) (h_s254_0bb : s254_0bb = (if cbbb < (128 : Int32) then (0 : Int32) else (if (191 : Int32) < cbbb then (0 : Int32) else (1 : Int32)))), WP X n0 (Q_sq0 Z b en sur x0 x1 x2 x3 x4 x5 x6 x7 h0) h0 0 0 254 #[.val ((.ref b)), .val (.int (0 : Int32)), .val (.int en), .val (.int sur), .val (.int b0), .val (.int (4 : Int32)), .val (.int s138_0), .val (.int s156_0), .val (.int s254_0b), .val (.int (3 : Int32)), .val (.int cbbb)] [.int s254_0bb] := by
                                intro s254_0bb h_s254_0bb
                                refine wp_run ok hK (B := [(254, .istore 8, false), (256, .iinc 9 1, false)]) (by decide +kernel) (ps := []) (pc' := 259) (L' := #[.val ((.ref b)), .val (.int (0 : Int32)), .val (.int en), .val (.int sur), .val (.int b0), .val (.int (4 : Int32)), .val (.int s138_0), .val (.int s156_0), .val (.int s254_0bb), .val (.int (4 : Int32)), .val (.int cbbb)]) (S' := []) rfl trivial ?_
                                refine wp_run ok hK (B := [(259, .goto (-78), false), (181, .iload 8, false)]) (by decide +kernel) (ps := []) (pc' := 183) (L' := #[.val ((.ref b)), .val (.int (0 : Int32)), .val (.int en), .val (.int sur), .val (.int b0), .val (.int (4 : Int32)), .val (.int s138_0), .val (.int s156_0), .val (.int s254_0bb), .val (.int (4 : Int32)), .val (.int cbbb)]) (S' := [.int s254_0bb]) rfl trivial ?_
                                by_cases hc183_18 : s254_0bb = (0 : Int32)
                                · refine wp_run ok hK (B := [(183, .ifCond .eq 79, true)]) (by decide +kernel) (ps := [Op.ifCond.holds .eq s254_0bb = true]) (pc' := 262) (L' := #[.val ((.ref b)), .val (.int (0 : Int32)), .val (.int en), .val (.int sur), .val (.int b0), .val (.int (4 : Int32)), .val (.int s138_0), .val (.int s156_0), .val (.int s254_0bb), .val (.int (4 : Int32)), .val (.int cbbb)]) (S' := []) rfl ⟨(XT.i0_eq_t hc183_18), trivial⟩ ?_
                                  refine wp_run ok hK (B := [(262, .iload 8, false), (264, .ifCond .eq 10, true), (274, .iconst (-1), false)]) (by decide +kernel) (ps := [Op.ifCond.holds .eq s254_0bb = true]) (pc' := 275) (L' := #[.val ((.ref b)), .val (.int (0 : Int32)), .val (.int en), .val (.int sur), .val (.int b0), .val (.int (4 : Int32)), .val (.int s138_0), .val (.int s156_0), .val (.int s254_0bb), .val (.int (4 : Int32)), .val (.int cbbb)]) (S' := [.int (-1 : Int32)]) rfl ⟨(XT.i0_eq_t hc183_18), trivial⟩ ?_
                                  refine wp_retI ok (by decide +kernel) (by decide) (by decide) ?_
                                  exact ⟨congrArg (fun z => some (Value.int z)) (own_sq0_11 en sur x0 x1 x2 x3 x4 x5 x6 x7 b0 h_b0 hc24 hc32 hc46 hc54 hc108 hc116 s138_0 h_s138_0 s156_0 h_s156_0 s176_0 h_s176_0 hc183 cb h_cb s254_0 h_s254_0 hc183_10 cbb h_cbb s254_0b h_s254_0b hc183_14 cbbb h_cbbb s254_0bb h_s254_0bb hc183_18), rfl⟩
                                · refine wp_run ok hK (B := [(183, .ifCond .eq 79, false)]) (by decide +kernel) (ps := [Op.ifCond.holds .eq s254_0bb = false]) (pc' := 186) (L' := #[.val ((.ref b)), .val (.int (0 : Int32)), .val (.int en), .val (.int sur), .val (.int b0), .val (.int (4 : Int32)), .val (.int s138_0), .val (.int s156_0), .val (.int s254_0bb), .val (.int (4 : Int32)), .val (.int cbbb)]) (S' := []) rfl ⟨(XT.i0_eq_f hc183_18), trivial⟩ ?_
                                  refine wp_run ok hK (B := [(186, .iload 9, false), (188, .iload 5, false), (190, .if_icmp .ge 72, true), (262, .iload 8, false), (264, .ifCond .eq 10, false), (267, .iload_n 1, false), (268, .iload 5, false), (270, .iadd, false), (271, .goto 4, false)]) (by decide +kernel) (ps := [Op.if_icmp.holds .ge (4 : Int32) (4 : Int32) = true, Op.ifCond.holds .eq s254_0bb = false]) (pc' := 275) (L' := #[.val ((.ref b)), .val (.int (0 : Int32)), .val (.int en), .val (.int sur), .val (.int b0), .val (.int (4 : Int32)), .val (.int s138_0), .val (.int s156_0), .val (.int s254_0bb), .val (.int (4 : Int32)), .val (.int cbbb)]) (S' := [.int (4 : Int32)]) rfl ⟨(XT.ii_ge_t (by decide)), (XT.i0_eq_f hc183_18), trivial⟩ ?_
                                  refine wp_retI ok (by decide +kernel) (by decide) (by decide) ?_
                                  exact ⟨congrArg (fun z => some (Value.int z)) (own_sq0_12 en sur x0 x1 x2 x3 x4 x5 x6 x7 b0 h_b0 hc24 hc32 hc46 hc54 hc108 hc116 s138_0 h_s138_0 s156_0 h_s156_0 s176_0 h_s176_0 hc183 cb h_cb s254_0 h_s254_0 hc183_10 cbb h_cbb s254_0b h_s254_0b hc183_14 cbbb h_cbbb s254_0bb h_s254_0bb hc183_18), rfl⟩
                              by_cases c15 : cbbb < (128 : Int32)
                              · refine wp_run ok hK (B := [(238, .if_icmp .lt 15, true), (253, .iconst 0, false)]) (by decide +kernel) (ps := [Op.if_icmp.holds .lt cbbb (128 : Int32) = true]) (pc' := 254) (L' := #[.val ((.ref b)), .val (.int (0 : Int32)), .val (.int en), .val (.int sur), .val (.int b0), .val (.int (4 : Int32)), .val (.int s138_0), .val (.int s156_0), .val (.int s254_0b), .val (.int (3 : Int32)), .val (.int cbbb)]) (S' := [.int (0 : Int32)]) rfl ⟨(XT.ii_lt_t c15), trivial⟩ ?_
                                exact J254_17 _ (by rw [if_pos c15])
                              · by_cases c16 : (191 : Int32) < cbbb
                                · refine wp_run ok hK (B := [(238, .if_icmp .lt 15, false), (241, .iload 10, false), (243, .sipush 191, false), (246, .if_icmp .gt 7, true), (253, .iconst 0, false)]) (by decide +kernel) (ps := [Op.if_icmp.holds .lt cbbb (128 : Int32) = false, Op.if_icmp.holds .gt cbbb (191 : Int32) = true]) (pc' := 254) (L' := #[.val ((.ref b)), .val (.int (0 : Int32)), .val (.int en), .val (.int sur), .val (.int b0), .val (.int (4 : Int32)), .val (.int s138_0), .val (.int s156_0), .val (.int s254_0b), .val (.int (3 : Int32)), .val (.int cbbb)]) (S' := [.int (0 : Int32)]) rfl ⟨(XT.ii_lt_f c15), (XT.ii_gt_t c16), trivial⟩ ?_
                                  exact J254_17 _ (by rw [if_neg c15, if_pos c16])
                                · refine wp_run ok hK (B := [(238, .if_icmp .lt 15, false), (241, .iload 10, false), (243, .sipush 191, false), (246, .if_icmp .gt 7, false), (249, .iconst 1, false), (250, .goto 4, false)]) (by decide +kernel) (ps := [Op.if_icmp.holds .lt cbbb (128 : Int32) = false, Op.if_icmp.holds .gt cbbb (191 : Int32) = false]) (pc' := 254) (L' := #[.val ((.ref b)), .val (.int (0 : Int32)), .val (.int en), .val (.int sur), .val (.int b0), .val (.int (4 : Int32)), .val (.int s138_0), .val (.int s156_0), .val (.int s254_0b), .val (.int (3 : Int32)), .val (.int cbbb)]) (S' := [.int (1 : Int32)]) rfl ⟨(XT.ii_lt_f c15), (XT.ii_gt_f c16), trivial⟩ ?_
                                  exact J254_17 _ (by rw [if_neg c15, if_neg c16])
                          by_cases c11 : cbb < (128 : Int32)
                          · refine wp_run ok hK (B := [(238, .if_icmp .lt 15, true), (253, .iconst 0, false)]) (by decide +kernel) (ps := [Op.if_icmp.holds .lt cbb (128 : Int32) = true]) (pc' := 254) (L' := #[.val ((.ref b)), .val (.int (0 : Int32)), .val (.int en), .val (.int sur), .val (.int b0), .val (.int (4 : Int32)), .val (.int s138_0), .val (.int s156_0), .val (.int s254_0), .val (.int (2 : Int32)), .val (.int cbb)]) (S' := [.int (0 : Int32)]) rfl ⟨(XT.ii_lt_t c11), trivial⟩ ?_
                            exact J254_13 _ (by rw [if_pos c11])
                          · by_cases c12 : (191 : Int32) < cbb
                            · refine wp_run ok hK (B := [(238, .if_icmp .lt 15, false), (241, .iload 10, false), (243, .sipush 191, false), (246, .if_icmp .gt 7, true), (253, .iconst 0, false)]) (by decide +kernel) (ps := [Op.if_icmp.holds .lt cbb (128 : Int32) = false, Op.if_icmp.holds .gt cbb (191 : Int32) = true]) (pc' := 254) (L' := #[.val ((.ref b)), .val (.int (0 : Int32)), .val (.int en), .val (.int sur), .val (.int b0), .val (.int (4 : Int32)), .val (.int s138_0), .val (.int s156_0), .val (.int s254_0), .val (.int (2 : Int32)), .val (.int cbb)]) (S' := [.int (0 : Int32)]) rfl ⟨(XT.ii_lt_f c11), (XT.ii_gt_t c12), trivial⟩ ?_
                              exact J254_13 _ (by rw [if_neg c11, if_pos c12])
                            · refine wp_run ok hK (B := [(238, .if_icmp .lt 15, false), (241, .iload 10, false), (243, .sipush 191, false), (246, .if_icmp .gt 7, false), (249, .iconst 1, false), (250, .goto 4, false)]) (by decide +kernel) (ps := [Op.if_icmp.holds .lt cbb (128 : Int32) = false, Op.if_icmp.holds .gt cbb (191 : Int32) = false]) (pc' := 254) (L' := #[.val ((.ref b)), .val (.int (0 : Int32)), .val (.int en), .val (.int sur), .val (.int b0), .val (.int (4 : Int32)), .val (.int s138_0), .val (.int s156_0), .val (.int s254_0), .val (.int (2 : Int32)), .val (.int cbb)]) (S' := [.int (1 : Int32)]) rfl ⟨(XT.ii_lt_f c11), (XT.ii_gt_f c12), trivial⟩ ?_
                              exact J254_13 _ (by rw [if_neg c11, if_neg c12])
                      by_cases c7 : cb < s138_0
                      · refine wp_run ok hK (B := [(215, .if_icmp .lt 14, true), (229, .iconst 0, false), (230, .goto 24, false)]) (by decide +kernel) (ps := [Op.if_icmp.holds .lt cb s138_0 = true]) (pc' := 254) (L' := #[.val ((.ref b)), .val (.int (0 : Int32)), .val (.int en), .val (.int sur), .val (.int b0), .val (.int (4 : Int32)), .val (.int s138_0), .val (.int s156_0), .val (.int s176_0), .val (.int (1 : Int32)), .val (.int cb)]) (S' := [.int (0 : Int32)]) rfl ⟨(XT.ii_lt_t c7), trivial⟩ ?_
                        exact J254_9 _ (by rw [if_pos c7])
                      · by_cases c8 : s156_0 < cb
                        · refine wp_run ok hK (B := [(215, .if_icmp .lt 14, false), (218, .iload 10, false), (220, .iload 7, false), (222, .if_icmp .gt 7, true), (229, .iconst 0, false), (230, .goto 24, false)]) (by decide +kernel) (ps := [Op.if_icmp.holds .lt cb s138_0 = false, Op.if_icmp.holds .gt cb s156_0 = true]) (pc' := 254) (L' := #[.val ((.ref b)), .val (.int (0 : Int32)), .val (.int en), .val (.int sur), .val (.int b0), .val (.int (4 : Int32)), .val (.int s138_0), .val (.int s156_0), .val (.int s176_0), .val (.int (1 : Int32)), .val (.int cb)]) (S' := [.int (0 : Int32)]) rfl ⟨(XT.ii_lt_f c7), (XT.ii_gt_t c8), trivial⟩ ?_
                          exact J254_9 _ (by rw [if_neg c7, if_pos c8])
                        · refine wp_run ok hK (B := [(215, .if_icmp .lt 14, false), (218, .iload 10, false), (220, .iload 7, false), (222, .if_icmp .gt 7, false), (225, .iconst 1, false), (226, .goto 28, false)]) (by decide +kernel) (ps := [Op.if_icmp.holds .lt cb s138_0 = false, Op.if_icmp.holds .gt cb s156_0 = false]) (pc' := 254) (L' := #[.val ((.ref b)), .val (.int (0 : Int32)), .val (.int en), .val (.int sur), .val (.int b0), .val (.int (4 : Int32)), .val (.int s138_0), .val (.int s156_0), .val (.int s176_0), .val (.int (1 : Int32)), .val (.int cb)]) (S' := [.int (1 : Int32)]) rfl ⟨(XT.ii_lt_f c7), (XT.ii_gt_f c8), trivial⟩ ?_
                          exact J254_9 _ (by rw [if_neg c7, if_neg c8])
                  by_cases c5 : (en - (0 : Int32)) < (4 : Int32)
                  · refine wp_run ok hK (B := [(168, .if_icmp .lt 7, true), (175, .iconst 0, false)]) (by decide +kernel) (ps := [Op.if_icmp.holds .lt (en - (0 : Int32)) (4 : Int32) = true]) (pc' := 176) (L' := #[.val ((.ref b)), .val (.int (0 : Int32)), .val (.int en), .val (.int sur), .val (.int b0), .val (.int (4 : Int32)), .val (.int s138_0), .val (.int s156_0), .unset, .unset, .unset]) (S' := [.int (0 : Int32)]) rfl ⟨(XT.ii_lt_t c5), trivial⟩ ?_
                    exact J176_6 _ (by rw [if_pos c5])
                  · refine wp_run ok hK (B := [(168, .if_icmp .lt 7, false), (171, .iconst 1, false), (172, .goto 4, false)]) (by decide +kernel) (ps := [Op.if_icmp.holds .lt (en - (0 : Int32)) (4 : Int32) = false]) (pc' := 176) (L' := #[.val ((.ref b)), .val (.int (0 : Int32)), .val (.int en), .val (.int sur), .val (.int b0), .val (.int (4 : Int32)), .val (.int s138_0), .val (.int s156_0), .unset, .unset, .unset]) (S' := [.int (1 : Int32)]) rfl ⟨(XT.ii_lt_f c5), trivial⟩ ?_
                    exact J176_6 _ (by rw [if_neg c5])
                by_cases c3 : b0 = (244 : Int32)
                · refine wp_run ok hK (B := [(145, .if_icmp .ne 9, false), (148, .sipush 143, false), (151, .goto 5, false)]) (by decide +kernel) (ps := [Op.if_icmp.holds .ne b0 (244 : Int32) = false]) (pc' := 156) (L' := #[.val ((.ref b)), .val (.int (0 : Int32)), .val (.int en), .val (.int sur), .val (.int b0), .val (.int (4 : Int32)), .val (.int s138_0), .val (.int (191 : Int32)), .unset, .unset, .unset]) (S' := [.int (143 : Int32)]) rfl ⟨(XT.ii_ne_f c3), trivial⟩ ?_
                  exact J156_4 _ (by rw [if_pos c3])
                · refine wp_run ok hK (B := [(145, .if_icmp .ne 9, true), (154, .iload 7, false)]) (by decide +kernel) (ps := [Op.if_icmp.holds .ne b0 (244 : Int32) = true]) (pc' := 156) (L' := #[.val ((.ref b)), .val (.int (0 : Int32)), .val (.int en), .val (.int sur), .val (.int b0), .val (.int (4 : Int32)), .val (.int s138_0), .val (.int (191 : Int32)), .unset, .unset, .unset]) (S' := [.int (191 : Int32)]) rfl ⟨(XT.ii_ne_t c3), trivial⟩ ?_
                  exact J156_4 _ (by rw [if_neg c3])
              by_cases c1 : b0 = (240 : Int32)
              · refine wp_run ok hK (B := [(127, .if_icmp .ne 9, false), (130, .sipush 144, false), (133, .goto 5, false)]) (by decide +kernel) (ps := [Op.if_icmp.holds .ne b0 (240 : Int32) = false]) (pc' := 138) (L' := #[.val ((.ref b)), .val (.int (0 : Int32)), .val (.int en), .val (.int sur), .val (.int b0), .val (.int (4 : Int32)), .val (.int (128 : Int32)), .val (.int (191 : Int32)), .unset, .unset, .unset]) (S' := [.int (144 : Int32)]) rfl ⟨(XT.ii_ne_f c1), trivial⟩ ?_
                exact J138_2 _ (by rw [if_pos c1])
              · refine wp_run ok hK (B := [(127, .if_icmp .ne 9, true), (136, .iload 6, false)]) (by decide +kernel) (ps := [Op.if_icmp.holds .ne b0 (240 : Int32) = true]) (pc' := 138) (L' := #[.val ((.ref b)), .val (.int (0 : Int32)), .val (.int en), .val (.int sur), .val (.int b0), .val (.int (4 : Int32)), .val (.int (128 : Int32)), .val (.int (191 : Int32)), .unset, .unset, .unset]) (S' := [.int (128 : Int32)]) rfl ⟨(XT.ii_ne_t c1), trivial⟩ ?_
                exact J138_2 _ (by rw [if_neg c1])
        · refine wp_run ok hK (B := [(54, .if_icmp .gt 49, false)]) (by decide +kernel) (ps := [Op.if_icmp.holds .gt b0 (239 : Int32) = false]) (pc' := 57) (L' := #[.val ((.ref b)), .val (.int (0 : Int32)), .val (.int en), .val (.int sur), .val (.int b0), .unset, .val (.int (128 : Int32)), .val (.int (191 : Int32)), .unset, .unset, .unset]) (S' := []) rfl ⟨(XT.ii_gt_f hc54), trivial⟩ ?_
          refine wp_run ok hK (B := [(57, .iconst 3, false), (58, .istore 5, false), (60, .iload 4, false), (62, .sipush 224, false)]) (by decide +kernel) (ps := []) (pc' := 65) (L' := #[.val ((.ref b)), .val (.int (0 : Int32)), .val (.int en), .val (.int sur), .val (.int b0), .val (.int (3 : Int32)), .val (.int (128 : Int32)), .val (.int (191 : Int32)), .unset, .unset, .unset]) (S' := [.int (224 : Int32), .int b0]) rfl trivial ?_
          have J76_20 : ∀ (s76_0 : Int32) (h_s76_0 : s76_0 = (if b0 = (224 : Int32) then (160 : Int32) else (128 : Int32))), WP X n0 (Q_sq0 Z b en sur x0 x1 x2 x3 x4 x5 x6 x7 h0) h0 0 0 76 #[.val ((.ref b)), .val (.int (0 : Int32)), .val (.int en), .val (.int sur), .val (.int b0), .val (.int (3 : Int32)), .val (.int (128 : Int32)), .val (.int (191 : Int32)), .unset, .unset, .unset] [.int s76_0] := by
            intro s76_0 h_s76_0
            refine wp_run ok hK (B := [(76, .istore 6, false), (78, .iload 4, false), (80, .sipush 237, false)]) (by decide +kernel) (ps := []) (pc' := 83) (L' := #[.val ((.ref b)), .val (.int (0 : Int32)), .val (.int en), .val (.int sur), .val (.int b0), .val (.int (3 : Int32)), .val (.int s76_0), .val (.int (191 : Int32)), .unset, .unset, .unset]) (S' := [.int (237 : Int32), .int b0]) rfl trivial ?_
            have J98_23 : ∀ (s98_0 : Int32) (h_s98_0 : s98_0 = (if b0 = (237 : Int32) then (if sur = (0 : Int32) then (159 : Int32) else (191 : Int32)) else (191 : Int32))), WP X n0 (Q_sq0 Z b en sur x0 x1 x2 x3 x4 x5 x6 x7 h0) h0 0 0 98 #[.val ((.ref b)), .val (.int (0 : Int32)), .val (.int en), .val (.int sur), .val (.int b0), .val (.int (3 : Int32)), .val (.int s76_0), .val (.int (191 : Int32)), .unset, .unset, .unset] [.int s98_0] := by
              intro s98_0 h_s98_0
              refine wp_run ok hK (B := [(98, .istore 7, false), (100, .goto 63, false), (163, .iload_n 2, false), (164, .iload_n 1, false), (165, .isub, false), (166, .iload 5, false)]) (by decide +kernel) (ps := []) (pc' := 168) (L' := #[.val ((.ref b)), .val (.int (0 : Int32)), .val (.int en), .val (.int sur), .val (.int b0), .val (.int (3 : Int32)), .val (.int s76_0), .val (.int s98_0), .unset, .unset, .unset]) (S' := [.int (3 : Int32), .int (en - (0 : Int32))]) rfl trivial ?_
              have J176_25 : ∀ (s176_0 : Int32) (h_s176_0 : s176_0 = (if (en - (0 : Int32)) < (3 : Int32) then (0 : Int32) else (1 : Int32))), WP X n0 (Q_sq0 Z b en sur x0 x1 x2 x3 x4 x5 x6 x7 h0) h0 0 0 176 #[.val ((.ref b)), .val (.int (0 : Int32)), .val (.int en), .val (.int sur), .val (.int b0), .val (.int (3 : Int32)), .val (.int s76_0), .val (.int s98_0), .unset, .unset, .unset] [.int s176_0] := by
                intro s176_0 h_s176_0
                refine wp_run ok hK (B := [(176, .istore 8, false), (178, .iconst 1, false), (179, .istore 9, false)]) (by decide +kernel) (ps := []) (pc' := 181) (L' := #[.val ((.ref b)), .val (.int (0 : Int32)), .val (.int en), .val (.int sur), .val (.int b0), .val (.int (3 : Int32)), .val (.int s76_0), .val (.int s98_0), .val (.int s176_0), .val (.int (1 : Int32)), .unset]) (S' := []) rfl trivial ?_
                refine wp_run ok hK (B := [(181, .iload 8, false)]) (by decide +kernel) (ps := []) (pc' := 183) (L' := #[.val ((.ref b)), .val (.int (0 : Int32)), .val (.int en), .val (.int sur), .val (.int b0), .val (.int (3 : Int32)), .val (.int s76_0), .val (.int s98_0), .val (.int s176_0), .val (.int (1 : Int32)), .unset]) (S' := [.int s176_0]) rfl trivial ?_
                by_cases hc183 : s176_0 = (0 : Int32)
                · refine wp_run ok hK (B := [(183, .ifCond .eq 79, true)]) (by decide +kernel) (ps := [Op.ifCond.holds .eq s176_0 = true]) (pc' := 262) (L' := #[.val ((.ref b)), .val (.int (0 : Int32)), .val (.int en), .val (.int sur), .val (.int b0), .val (.int (3 : Int32)), .val (.int s76_0), .val (.int s98_0), .val (.int s176_0), .val (.int (1 : Int32)), .unset]) (S' := []) rfl ⟨(XT.i0_eq_t hc183), trivial⟩ ?_
                  refine wp_run ok hK (B := [(262, .iload 8, false), (264, .ifCond .eq 10, true), (274, .iconst (-1), false)]) (by decide +kernel) (ps := [Op.ifCond.holds .eq s176_0 = true]) (pc' := 275) (L' := #[.val ((.ref b)), .val (.int (0 : Int32)), .val (.int en), .val (.int sur), .val (.int b0), .val (.int (3 : Int32)), .val (.int s76_0), .val (.int s98_0), .val (.int s176_0), .val (.int (1 : Int32)), .unset]) (S' := [.int (-1 : Int32)]) rfl ⟨(XT.i0_eq_t hc183), trivial⟩ ?_
                  refine wp_retI ok (by decide +kernel) (by decide) (by decide) ?_
                  exact ⟨congrArg (fun z => some (Value.int z)) (own_sq0_13 en sur x0 x1 x2 x3 x4 x5 x6 x7 b0 h_b0 hc24 hc32 hc46 hc54 s76_0 h_s76_0 s98_0 h_s98_0 s176_0 h_s176_0 hc183), rfl⟩
                · refine wp_run ok hK (B := [(183, .ifCond .eq 79, false)]) (by decide +kernel) (ps := [Op.ifCond.holds .eq s176_0 = false]) (pc' := 186) (L' := #[.val ((.ref b)), .val (.int (0 : Int32)), .val (.int en), .val (.int sur), .val (.int b0), .val (.int (3 : Int32)), .val (.int s76_0), .val (.int s98_0), .val (.int s176_0), .val (.int (1 : Int32)), .unset]) (S' := []) rfl ⟨(XT.i0_eq_f hc183), trivial⟩ ?_
                  refine wp_run ok hK (B := [(186, .iload 9, false), (188, .iload 5, false), (190, .if_icmp .ge 72, false), (193, .aload_n 0, false), (194, .iload_n 1, false), (195, .iload 9, false), (197, .iadd, false)]) (by decide +kernel) (ps := [Op.if_icmp.holds .ge (1 : Int32) (3 : Int32) = false]) (pc' := 198) (L' := #[.val ((.ref b)), .val (.int (0 : Int32)), .val (.int en), .val (.int sur), .val (.int b0), .val (.int (3 : Int32)), .val (.int s76_0), .val (.int s98_0), .val (.int s176_0), .val (.int (1 : Int32)), .unset]) (S' := [.int (1 : Int32), (.ref b)]) rfl ⟨(XT.ii_ge_f (by decide)), trivial⟩ ?_
                  refine wp_aB ok A_b (i := 1) (v := .int x1) (by rfl) (by decide) rfl (by decide +kernel) ?_
                  refine wp_run ok hK (B := [(199, .sipush 255, false), (202, .iand, false), (203, .istore 10, false)]) (by decide +kernel) (ps := []) (pc' := 205) (L' := #[.val ((.ref b)), .val (.int (0 : Int32)), .val (.int en), .val (.int sur), .val (.int b0), .val (.int (3 : Int32)), .val (.int s76_0), .val (.int s98_0), .val (.int s176_0), .val (.int (1 : Int32)), .val (.int (x1 &&& (255 : Int32)))]) (S' := []) rfl trivial ?_
                  obtain ⟨cb, h_cb⟩ : ∃ z : Int32, z = (x1 &&& (255 : Int32)) := ⟨_, rfl⟩
                  rw [← h_cb]
                  refine wp_run ok hK (B := [(205, .iload 9, false), (207, .iconst 1, false), (208, .if_icmp .ne 25, false), (211, .iload 10, false), (213, .iload 6, false)]) (by decide +kernel) (ps := [Op.if_icmp.holds .ne (1 : Int32) (1 : Int32) = false]) (pc' := 215) (L' := #[.val ((.ref b)), .val (.int (0 : Int32)), .val (.int en), .val (.int sur), .val (.int b0), .val (.int (3 : Int32)), .val (.int s76_0), .val (.int s98_0), .val (.int s176_0), .val (.int (1 : Int32)), .val (.int cb)]) (S' := [.int s76_0, .int cb]) rfl ⟨(XT.ii_ne_f (by decide)), trivial⟩ ?_
                  have J254_28 : ∀ (s254_0 : Int32) (h_s254_0 : s254_0 = (if cb < s76_0 then (0 : Int32) else (if s98_0 < cb then (0 : Int32) else (1 : Int32)))), WP X n0 (Q_sq0 Z b en sur x0 x1 x2 x3 x4 x5 x6 x7 h0) h0 0 0 254 #[.val ((.ref b)), .val (.int (0 : Int32)), .val (.int en), .val (.int sur), .val (.int b0), .val (.int (3 : Int32)), .val (.int s76_0), .val (.int s98_0), .val (.int s176_0), .val (.int (1 : Int32)), .val (.int cb)] [.int s254_0] := by
                    intro s254_0 h_s254_0
                    refine wp_run ok hK (B := [(254, .istore 8, false), (256, .iinc 9 1, false)]) (by decide +kernel) (ps := []) (pc' := 259) (L' := #[.val ((.ref b)), .val (.int (0 : Int32)), .val (.int en), .val (.int sur), .val (.int b0), .val (.int (3 : Int32)), .val (.int s76_0), .val (.int s98_0), .val (.int s254_0), .val (.int (2 : Int32)), .val (.int cb)]) (S' := []) rfl trivial ?_
                    refine wp_run ok hK (B := [(259, .goto (-78), false), (181, .iload 8, false)]) (by decide +kernel) (ps := []) (pc' := 183) (L' := #[.val ((.ref b)), .val (.int (0 : Int32)), .val (.int en), .val (.int sur), .val (.int b0), .val (.int (3 : Int32)), .val (.int s76_0), .val (.int s98_0), .val (.int s254_0), .val (.int (2 : Int32)), .val (.int cb)]) (S' := [.int s254_0]) rfl trivial ?_
                    by_cases hc183_29 : s254_0 = (0 : Int32)
                    · refine wp_run ok hK (B := [(183, .ifCond .eq 79, true)]) (by decide +kernel) (ps := [Op.ifCond.holds .eq s254_0 = true]) (pc' := 262) (L' := #[.val ((.ref b)), .val (.int (0 : Int32)), .val (.int en), .val (.int sur), .val (.int b0), .val (.int (3 : Int32)), .val (.int s76_0), .val (.int s98_0), .val (.int s254_0), .val (.int (2 : Int32)), .val (.int cb)]) (S' := []) rfl ⟨(XT.i0_eq_t hc183_29), trivial⟩ ?_
                      refine wp_run ok hK (B := [(262, .iload 8, false), (264, .ifCond .eq 10, true), (274, .iconst (-1), false)]) (by decide +kernel) (ps := [Op.ifCond.holds .eq s254_0 = true]) (pc' := 275) (L' := #[.val ((.ref b)), .val (.int (0 : Int32)), .val (.int en), .val (.int sur), .val (.int b0), .val (.int (3 : Int32)), .val (.int s76_0), .val (.int s98_0), .val (.int s254_0), .val (.int (2 : Int32)), .val (.int cb)]) (S' := [.int (-1 : Int32)]) rfl ⟨(XT.i0_eq_t hc183_29), trivial⟩ ?_
                      refine wp_retI ok (by decide +kernel) (by decide) (by decide) ?_
                      exact ⟨congrArg (fun z => some (Value.int z)) (own_sq0_14 en sur x0 x1 x2 x3 x4 x5 x6 x7 b0 h_b0 hc24 hc32 hc46 hc54 s76_0 h_s76_0 s98_0 h_s98_0 s176_0 h_s176_0 hc183 cb h_cb s254_0 h_s254_0 hc183_29), rfl⟩
                    · refine wp_run ok hK (B := [(183, .ifCond .eq 79, false)]) (by decide +kernel) (ps := [Op.ifCond.holds .eq s254_0 = false]) (pc' := 186) (L' := #[.val ((.ref b)), .val (.int (0 : Int32)), .val (.int en), .val (.int sur), .val (.int b0), .val (.int (3 : Int32)), .val (.int s76_0), .val (.int s98_0), .val (.int s254_0), .val (.int (2 : Int32)), .val (.int cb)]) (S' := []) rfl ⟨(XT.i0_eq_f hc183_29), trivial⟩ ?_
                      refine wp_run ok hK (B := [(186, .iload 9, false), (188, .iload 5, false), (190, .if_icmp .ge 72, false), (193, .aload_n 0, false), (194, .iload_n 1, false), (195, .iload 9, false), (197, .iadd, false)]) (by decide +kernel) (ps := [Op.if_icmp.holds .ge (2 : Int32) (3 : Int32) = false]) (pc' := 198) (L' := #[.val ((.ref b)), .val (.int (0 : Int32)), .val (.int en), .val (.int sur), .val (.int b0), .val (.int (3 : Int32)), .val (.int s76_0), .val (.int s98_0), .val (.int s254_0), .val (.int (2 : Int32)), .val (.int cb)]) (S' := [.int (2 : Int32), (.ref b)]) rfl ⟨(XT.ii_ge_f (by decide)), trivial⟩ ?_
                      refine wp_aB ok A_b (i := 2) (v := .int x2) (by rfl) (by decide) rfl (by decide +kernel) ?_
                      refine wp_run ok hK (B := [(199, .sipush 255, false), (202, .iand, false), (203, .istore 10, false)]) (by decide +kernel) (ps := []) (pc' := 205) (L' := #[.val ((.ref b)), .val (.int (0 : Int32)), .val (.int en), .val (.int sur), .val (.int b0), .val (.int (3 : Int32)), .val (.int s76_0), .val (.int s98_0), .val (.int s254_0), .val (.int (2 : Int32)), .val (.int (x2 &&& (255 : Int32)))]) (S' := []) rfl trivial ?_
                      obtain ⟨cbb, h_cbb⟩ : ∃ z : Int32, z = (x2 &&& (255 : Int32)) := ⟨_, rfl⟩
                      rw [← h_cbb]
                      refine wp_run ok hK (B := [(205, .iload 9, false), (207, .iconst 1, false), (208, .if_icmp .ne 25, true), (233, .iload 10, false), (235, .sipush 128, false)]) (by decide +kernel) (ps := [Op.if_icmp.holds .ne (2 : Int32) (1 : Int32) = true]) (pc' := 238) (L' := #[.val ((.ref b)), .val (.int (0 : Int32)), .val (.int en), .val (.int sur), .val (.int b0), .val (.int (3 : Int32)), .val (.int s76_0), .val (.int s98_0), .val (.int s254_0), .val (.int (2 : Int32)), .val (.int cbb)]) (S' := [.int (128 : Int32), .int cbb]) rfl ⟨(XT.ii_ne_t (by decide)), trivial⟩ ?_
                      have J254_32 : ∀ (s254_0b : Int32) (h_s254_0b : s254_0b = (if cbb < (128 : Int32) then (0 : Int32) else (if (191 : Int32) < cbb then (0 : Int32) else (1 : Int32)))), WP X n0 (Q_sq0 Z b en sur x0 x1 x2 x3 x4 x5 x6 x7 h0) h0 0 0 254 #[.val ((.ref b)), .val (.int (0 : Int32)), .val (.int en), .val (.int sur), .val (.int b0), .val (.int (3 : Int32)), .val (.int s76_0), .val (.int s98_0), .val (.int s254_0), .val (.int (2 : Int32)), .val (.int cbb)] [.int s254_0b] := by
                        intro s254_0b h_s254_0b
                        refine wp_run ok hK (B := [(254, .istore 8, false), (256, .iinc 9 1, false)]) (by decide +kernel) (ps := []) (pc' := 259) (L' := #[.val ((.ref b)), .val (.int (0 : Int32)), .val (.int en), .val (.int sur), .val (.int b0), .val (.int (3 : Int32)), .val (.int s76_0), .val (.int s98_0), .val (.int s254_0b), .val (.int (3 : Int32)), .val (.int cbb)]) (S' := []) rfl trivial ?_
                        refine wp_run ok hK (B := [(259, .goto (-78), false), (181, .iload 8, false)]) (by decide +kernel) (ps := []) (pc' := 183) (L' := #[.val ((.ref b)), .val (.int (0 : Int32)), .val (.int en), .val (.int sur), .val (.int b0), .val (.int (3 : Int32)), .val (.int s76_0), .val (.int s98_0), .val (.int s254_0b), .val (.int (3 : Int32)), .val (.int cbb)]) (S' := [.int s254_0b]) rfl trivial ?_
                        by_cases hc183_33 : s254_0b = (0 : Int32)
                        · refine wp_run ok hK (B := [(183, .ifCond .eq 79, true)]) (by decide +kernel) (ps := [Op.ifCond.holds .eq s254_0b = true]) (pc' := 262) (L' := #[.val ((.ref b)), .val (.int (0 : Int32)), .val (.int en), .val (.int sur), .val (.int b0), .val (.int (3 : Int32)), .val (.int s76_0), .val (.int s98_0), .val (.int s254_0b), .val (.int (3 : Int32)), .val (.int cbb)]) (S' := []) rfl ⟨(XT.i0_eq_t hc183_33), trivial⟩ ?_
                          refine wp_run ok hK (B := [(262, .iload 8, false), (264, .ifCond .eq 10, true), (274, .iconst (-1), false)]) (by decide +kernel) (ps := [Op.ifCond.holds .eq s254_0b = true]) (pc' := 275) (L' := #[.val ((.ref b)), .val (.int (0 : Int32)), .val (.int en), .val (.int sur), .val (.int b0), .val (.int (3 : Int32)), .val (.int s76_0), .val (.int s98_0), .val (.int s254_0b), .val (.int (3 : Int32)), .val (.int cbb)]) (S' := [.int (-1 : Int32)]) rfl ⟨(XT.i0_eq_t hc183_33), trivial⟩ ?_
                          refine wp_retI ok (by decide +kernel) (by decide) (by decide) ?_
                          exact ⟨congrArg (fun z => some (Value.int z)) (own_sq0_15 en sur x0 x1 x2 x3 x4 x5 x6 x7 b0 h_b0 hc24 hc32 hc46 hc54 s76_0 h_s76_0 s98_0 h_s98_0 s176_0 h_s176_0 hc183 cb h_cb s254_0 h_s254_0 hc183_29 cbb h_cbb s254_0b h_s254_0b hc183_33), rfl⟩
                        · refine wp_run ok hK (B := [(183, .ifCond .eq 79, false)]) (by decide +kernel) (ps := [Op.ifCond.holds .eq s254_0b = false]) (pc' := 186) (L' := #[.val ((.ref b)), .val (.int (0 : Int32)), .val (.int en), .val (.int sur), .val (.int b0), .val (.int (3 : Int32)), .val (.int s76_0), .val (.int s98_0), .val (.int s254_0b), .val (.int (3 : Int32)), .val (.int cbb)]) (S' := []) rfl ⟨(XT.i0_eq_f hc183_33), trivial⟩ ?_
                          refine wp_run ok hK (B := [(186, .iload 9, false), (188, .iload 5, false), (190, .if_icmp .ge 72, true), (262, .iload 8, false), (264, .ifCond .eq 10, false), (267, .iload_n 1, false), (268, .iload 5, false), (270, .iadd, false), (271, .goto 4, false)]) (by decide +kernel) (ps := [Op.if_icmp.holds .ge (3 : Int32) (3 : Int32) = true, Op.ifCond.holds .eq s254_0b = false]) (pc' := 275) (L' := #[.val ((.ref b)), .val (.int (0 : Int32)), .val (.int en), .val (.int sur), .val (.int b0), .val (.int (3 : Int32)), .val (.int s76_0), .val (.int s98_0), .val (.int s254_0b), .val (.int (3 : Int32)), .val (.int cbb)]) (S' := [.int (3 : Int32)]) rfl ⟨(XT.ii_ge_t (by decide)), (XT.i0_eq_f hc183_33), trivial⟩ ?_
                          refine wp_retI ok (by decide +kernel) (by decide) (by decide) ?_
                          exact ⟨congrArg (fun z => some (Value.int z)) (own_sq0_16 en sur x0 x1 x2 x3 x4 x5 x6 x7 b0 h_b0 hc24 hc32 hc46 hc54 s76_0 h_s76_0 s98_0 h_s98_0 s176_0 h_s176_0 hc183 cb h_cb s254_0 h_s254_0 hc183_29 cbb h_cbb s254_0b h_s254_0b hc183_33), rfl⟩
                      by_cases c30 : cbb < (128 : Int32)
                      · refine wp_run ok hK (B := [(238, .if_icmp .lt 15, true), (253, .iconst 0, false)]) (by decide +kernel) (ps := [Op.if_icmp.holds .lt cbb (128 : Int32) = true]) (pc' := 254) (L' := #[.val ((.ref b)), .val (.int (0 : Int32)), .val (.int en), .val (.int sur), .val (.int b0), .val (.int (3 : Int32)), .val (.int s76_0), .val (.int s98_0), .val (.int s254_0), .val (.int (2 : Int32)), .val (.int cbb)]) (S' := [.int (0 : Int32)]) rfl ⟨(XT.ii_lt_t c30), trivial⟩ ?_
                        exact J254_32 _ (by rw [if_pos c30])
                      · by_cases c31 : (191 : Int32) < cbb
                        · refine wp_run ok hK (B := [(238, .if_icmp .lt 15, false), (241, .iload 10, false), (243, .sipush 191, false), (246, .if_icmp .gt 7, true), (253, .iconst 0, false)]) (by decide +kernel) (ps := [Op.if_icmp.holds .lt cbb (128 : Int32) = false, Op.if_icmp.holds .gt cbb (191 : Int32) = true]) (pc' := 254) (L' := #[.val ((.ref b)), .val (.int (0 : Int32)), .val (.int en), .val (.int sur), .val (.int b0), .val (.int (3 : Int32)), .val (.int s76_0), .val (.int s98_0), .val (.int s254_0), .val (.int (2 : Int32)), .val (.int cbb)]) (S' := [.int (0 : Int32)]) rfl ⟨(XT.ii_lt_f c30), (XT.ii_gt_t c31), trivial⟩ ?_
                          exact J254_32 _ (by rw [if_neg c30, if_pos c31])
                        · refine wp_run ok hK (B := [(238, .if_icmp .lt 15, false), (241, .iload 10, false), (243, .sipush 191, false), (246, .if_icmp .gt 7, false), (249, .iconst 1, false), (250, .goto 4, false)]) (by decide +kernel) (ps := [Op.if_icmp.holds .lt cbb (128 : Int32) = false, Op.if_icmp.holds .gt cbb (191 : Int32) = false]) (pc' := 254) (L' := #[.val ((.ref b)), .val (.int (0 : Int32)), .val (.int en), .val (.int sur), .val (.int b0), .val (.int (3 : Int32)), .val (.int s76_0), .val (.int s98_0), .val (.int s254_0), .val (.int (2 : Int32)), .val (.int cbb)]) (S' := [.int (1 : Int32)]) rfl ⟨(XT.ii_lt_f c30), (XT.ii_gt_f c31), trivial⟩ ?_
                          exact J254_32 _ (by rw [if_neg c30, if_neg c31])
                  by_cases c26 : cb < s76_0
                  · refine wp_run ok hK (B := [(215, .if_icmp .lt 14, true), (229, .iconst 0, false), (230, .goto 24, false)]) (by decide +kernel) (ps := [Op.if_icmp.holds .lt cb s76_0 = true]) (pc' := 254) (L' := #[.val ((.ref b)), .val (.int (0 : Int32)), .val (.int en), .val (.int sur), .val (.int b0), .val (.int (3 : Int32)), .val (.int s76_0), .val (.int s98_0), .val (.int s176_0), .val (.int (1 : Int32)), .val (.int cb)]) (S' := [.int (0 : Int32)]) rfl ⟨(XT.ii_lt_t c26), trivial⟩ ?_
                    exact J254_28 _ (by rw [if_pos c26])
                  · by_cases c27 : s98_0 < cb
                    · refine wp_run ok hK (B := [(215, .if_icmp .lt 14, false), (218, .iload 10, false), (220, .iload 7, false), (222, .if_icmp .gt 7, true), (229, .iconst 0, false), (230, .goto 24, false)]) (by decide +kernel) (ps := [Op.if_icmp.holds .lt cb s76_0 = false, Op.if_icmp.holds .gt cb s98_0 = true]) (pc' := 254) (L' := #[.val ((.ref b)), .val (.int (0 : Int32)), .val (.int en), .val (.int sur), .val (.int b0), .val (.int (3 : Int32)), .val (.int s76_0), .val (.int s98_0), .val (.int s176_0), .val (.int (1 : Int32)), .val (.int cb)]) (S' := [.int (0 : Int32)]) rfl ⟨(XT.ii_lt_f c26), (XT.ii_gt_t c27), trivial⟩ ?_
                      exact J254_28 _ (by rw [if_neg c26, if_pos c27])
                    · refine wp_run ok hK (B := [(215, .if_icmp .lt 14, false), (218, .iload 10, false), (220, .iload 7, false), (222, .if_icmp .gt 7, false), (225, .iconst 1, false), (226, .goto 28, false)]) (by decide +kernel) (ps := [Op.if_icmp.holds .lt cb s76_0 = false, Op.if_icmp.holds .gt cb s98_0 = false]) (pc' := 254) (L' := #[.val ((.ref b)), .val (.int (0 : Int32)), .val (.int en), .val (.int sur), .val (.int b0), .val (.int (3 : Int32)), .val (.int s76_0), .val (.int s98_0), .val (.int s176_0), .val (.int (1 : Int32)), .val (.int cb)]) (S' := [.int (1 : Int32)]) rfl ⟨(XT.ii_lt_f c26), (XT.ii_gt_f c27), trivial⟩ ?_
                      exact J254_28 _ (by rw [if_neg c26, if_neg c27])
              by_cases c24 : (en - (0 : Int32)) < (3 : Int32)
              · refine wp_run ok hK (B := [(168, .if_icmp .lt 7, true), (175, .iconst 0, false)]) (by decide +kernel) (ps := [Op.if_icmp.holds .lt (en - (0 : Int32)) (3 : Int32) = true]) (pc' := 176) (L' := #[.val ((.ref b)), .val (.int (0 : Int32)), .val (.int en), .val (.int sur), .val (.int b0), .val (.int (3 : Int32)), .val (.int s76_0), .val (.int s98_0), .unset, .unset, .unset]) (S' := [.int (0 : Int32)]) rfl ⟨(XT.ii_lt_t c24), trivial⟩ ?_
                exact J176_25 _ (by rw [if_pos c24])
              · refine wp_run ok hK (B := [(168, .if_icmp .lt 7, false), (171, .iconst 1, false), (172, .goto 4, false)]) (by decide +kernel) (ps := [Op.if_icmp.holds .lt (en - (0 : Int32)) (3 : Int32) = false]) (pc' := 176) (L' := #[.val ((.ref b)), .val (.int (0 : Int32)), .val (.int en), .val (.int sur), .val (.int b0), .val (.int (3 : Int32)), .val (.int s76_0), .val (.int s98_0), .unset, .unset, .unset]) (S' := [.int (1 : Int32)]) rfl ⟨(XT.ii_lt_f c24), trivial⟩ ?_
                exact J176_25 _ (by rw [if_neg c24])
            by_cases c21 : b0 = (237 : Int32)
            · by_cases c22 : sur = (0 : Int32)
              · refine wp_run ok hK (B := [(83, .if_icmp .ne 13, false), (86, .iload_n 3, false), (87, .ifCond .ne 9, false), (90, .sipush 159, false), (93, .goto 5, false)]) (by decide +kernel) (ps := [Op.if_icmp.holds .ne b0 (237 : Int32) = false, Op.ifCond.holds .ne sur = false]) (pc' := 98) (L' := #[.val ((.ref b)), .val (.int (0 : Int32)), .val (.int en), .val (.int sur), .val (.int b0), .val (.int (3 : Int32)), .val (.int s76_0), .val (.int (191 : Int32)), .unset, .unset, .unset]) (S' := [.int (159 : Int32)]) rfl ⟨(XT.ii_ne_f c21), (XT.i0_ne_f c22), trivial⟩ ?_
                exact J98_23 _ (by rw [if_pos c21, if_pos c22])
              · refine wp_run ok hK (B := [(83, .if_icmp .ne 13, false), (86, .iload_n 3, false), (87, .ifCond .ne 9, true), (96, .iload 7, false)]) (by decide +kernel) (ps := [Op.if_icmp.holds .ne b0 (237 : Int32) = false, Op.ifCond.holds .ne sur = true]) (pc' := 98) (L' := #[.val ((.ref b)), .val (.int (0 : Int32)), .val (.int en), .val (.int sur), .val (.int b0), .val (.int (3 : Int32)), .val (.int s76_0), .val (.int (191 : Int32)), .unset, .unset, .unset]) (S' := [.int (191 : Int32)]) rfl ⟨(XT.ii_ne_f c21), (XT.i0_ne_t c22), trivial⟩ ?_
                exact J98_23 _ (by rw [if_pos c21, if_neg c22])
            · refine wp_run ok hK (B := [(83, .if_icmp .ne 13, true), (96, .iload 7, false)]) (by decide +kernel) (ps := [Op.if_icmp.holds .ne b0 (237 : Int32) = true]) (pc' := 98) (L' := #[.val ((.ref b)), .val (.int (0 : Int32)), .val (.int en), .val (.int sur), .val (.int b0), .val (.int (3 : Int32)), .val (.int s76_0), .val (.int (191 : Int32)), .unset, .unset, .unset]) (S' := [.int (191 : Int32)]) rfl ⟨(XT.ii_ne_t c21), trivial⟩ ?_
              exact J98_23 _ (by rw [if_neg c21])
          by_cases c19 : b0 = (224 : Int32)
          · refine wp_run ok hK (B := [(65, .if_icmp .ne 9, false), (68, .sipush 160, false), (71, .goto 5, false)]) (by decide +kernel) (ps := [Op.if_icmp.holds .ne b0 (224 : Int32) = false]) (pc' := 76) (L' := #[.val ((.ref b)), .val (.int (0 : Int32)), .val (.int en), .val (.int sur), .val (.int b0), .val (.int (3 : Int32)), .val (.int (128 : Int32)), .val (.int (191 : Int32)), .unset, .unset, .unset]) (S' := [.int (160 : Int32)]) rfl ⟨(XT.ii_ne_f c19), trivial⟩ ?_
            exact J76_20 _ (by rw [if_pos c19])
          · refine wp_run ok hK (B := [(65, .if_icmp .ne 9, true), (74, .iload 6, false)]) (by decide +kernel) (ps := [Op.if_icmp.holds .ne b0 (224 : Int32) = true]) (pc' := 76) (L' := #[.val ((.ref b)), .val (.int (0 : Int32)), .val (.int en), .val (.int sur), .val (.int b0), .val (.int (3 : Int32)), .val (.int (128 : Int32)), .val (.int (191 : Int32)), .unset, .unset, .unset]) (S' := [.int (128 : Int32)]) rfl ⟨(XT.ii_ne_t c19), trivial⟩ ?_
            exact J76_20 _ (by rw [if_neg c19])
    · refine wp_run ok hK (B := [(32, .if_icmp .gt 9, false)]) (by decide +kernel) (ps := [Op.if_icmp.holds .gt b0 (223 : Int32) = false]) (pc' := 35) (L' := #[.val ((.ref b)), .val (.int (0 : Int32)), .val (.int en), .val (.int sur), .val (.int b0), .unset, .val (.int (128 : Int32)), .val (.int (191 : Int32)), .unset, .unset, .unset]) (S' := []) rfl ⟨(XT.ii_gt_f hc32), trivial⟩ ?_
      refine wp_run ok hK (B := [(35, .iconst 2, false), (36, .istore 5, false), (38, .goto 125, false), (163, .iload_n 2, false), (164, .iload_n 1, false), (165, .isub, false), (166, .iload 5, false)]) (by decide +kernel) (ps := []) (pc' := 168) (L' := #[.val ((.ref b)), .val (.int (0 : Int32)), .val (.int en), .val (.int sur), .val (.int b0), .val (.int (2 : Int32)), .val (.int (128 : Int32)), .val (.int (191 : Int32)), .unset, .unset, .unset]) (S' := [.int (2 : Int32), .int (en - (0 : Int32))]) rfl trivial ?_
      have J176_35 : ∀ (s176_0 : Int32) (h_s176_0 : s176_0 = (if (en - (0 : Int32)) < (2 : Int32) then (0 : Int32) else (1 : Int32))), WP X n0 (Q_sq0 Z b en sur x0 x1 x2 x3 x4 x5 x6 x7 h0) h0 0 0 176 #[.val ((.ref b)), .val (.int (0 : Int32)), .val (.int en), .val (.int sur), .val (.int b0), .val (.int (2 : Int32)), .val (.int (128 : Int32)), .val (.int (191 : Int32)), .unset, .unset, .unset] [.int s176_0] := by
        intro s176_0 h_s176_0
        refine wp_run ok hK (B := [(176, .istore 8, false), (178, .iconst 1, false), (179, .istore 9, false)]) (by decide +kernel) (ps := []) (pc' := 181) (L' := #[.val ((.ref b)), .val (.int (0 : Int32)), .val (.int en), .val (.int sur), .val (.int b0), .val (.int (2 : Int32)), .val (.int (128 : Int32)), .val (.int (191 : Int32)), .val (.int s176_0), .val (.int (1 : Int32)), .unset]) (S' := []) rfl trivial ?_
        refine wp_run ok hK (B := [(181, .iload 8, false)]) (by decide +kernel) (ps := []) (pc' := 183) (L' := #[.val ((.ref b)), .val (.int (0 : Int32)), .val (.int en), .val (.int sur), .val (.int b0), .val (.int (2 : Int32)), .val (.int (128 : Int32)), .val (.int (191 : Int32)), .val (.int s176_0), .val (.int (1 : Int32)), .unset]) (S' := [.int s176_0]) rfl trivial ?_
        by_cases hc183 : s176_0 = (0 : Int32)
        · refine wp_run ok hK (B := [(183, .ifCond .eq 79, true)]) (by decide +kernel) (ps := [Op.ifCond.holds .eq s176_0 = true]) (pc' := 262) (L' := #[.val ((.ref b)), .val (.int (0 : Int32)), .val (.int en), .val (.int sur), .val (.int b0), .val (.int (2 : Int32)), .val (.int (128 : Int32)), .val (.int (191 : Int32)), .val (.int s176_0), .val (.int (1 : Int32)), .unset]) (S' := []) rfl ⟨(XT.i0_eq_t hc183), trivial⟩ ?_
          refine wp_run ok hK (B := [(262, .iload 8, false), (264, .ifCond .eq 10, true), (274, .iconst (-1), false)]) (by decide +kernel) (ps := [Op.ifCond.holds .eq s176_0 = true]) (pc' := 275) (L' := #[.val ((.ref b)), .val (.int (0 : Int32)), .val (.int en), .val (.int sur), .val (.int b0), .val (.int (2 : Int32)), .val (.int (128 : Int32)), .val (.int (191 : Int32)), .val (.int s176_0), .val (.int (1 : Int32)), .unset]) (S' := [.int (-1 : Int32)]) rfl ⟨(XT.i0_eq_t hc183), trivial⟩ ?_
          refine wp_retI ok (by decide +kernel) (by decide) (by decide) ?_
          exact ⟨congrArg (fun z => some (Value.int z)) (own_sq0_17 en sur x0 x1 x2 x3 x4 x5 x6 x7 b0 h_b0 hc24 hc32 s176_0 h_s176_0 hc183), rfl⟩
        · refine wp_run ok hK (B := [(183, .ifCond .eq 79, false)]) (by decide +kernel) (ps := [Op.ifCond.holds .eq s176_0 = false]) (pc' := 186) (L' := #[.val ((.ref b)), .val (.int (0 : Int32)), .val (.int en), .val (.int sur), .val (.int b0), .val (.int (2 : Int32)), .val (.int (128 : Int32)), .val (.int (191 : Int32)), .val (.int s176_0), .val (.int (1 : Int32)), .unset]) (S' := []) rfl ⟨(XT.i0_eq_f hc183), trivial⟩ ?_
          refine wp_run ok hK (B := [(186, .iload 9, false), (188, .iload 5, false), (190, .if_icmp .ge 72, false), (193, .aload_n 0, false), (194, .iload_n 1, false), (195, .iload 9, false), (197, .iadd, false)]) (by decide +kernel) (ps := [Op.if_icmp.holds .ge (1 : Int32) (2 : Int32) = false]) (pc' := 198) (L' := #[.val ((.ref b)), .val (.int (0 : Int32)), .val (.int en), .val (.int sur), .val (.int b0), .val (.int (2 : Int32)), .val (.int (128 : Int32)), .val (.int (191 : Int32)), .val (.int s176_0), .val (.int (1 : Int32)), .unset]) (S' := [.int (1 : Int32), (.ref b)]) rfl ⟨(XT.ii_ge_f (by decide)), trivial⟩ ?_
          refine wp_aB ok A_b (i := 1) (v := .int x1) (by rfl) (by decide) rfl (by decide +kernel) ?_
          refine wp_run ok hK (B := [(199, .sipush 255, false), (202, .iand, false), (203, .istore 10, false)]) (by decide +kernel) (ps := []) (pc' := 205) (L' := #[.val ((.ref b)), .val (.int (0 : Int32)), .val (.int en), .val (.int sur), .val (.int b0), .val (.int (2 : Int32)), .val (.int (128 : Int32)), .val (.int (191 : Int32)), .val (.int s176_0), .val (.int (1 : Int32)), .val (.int (x1 &&& (255 : Int32)))]) (S' := []) rfl trivial ?_
          obtain ⟨cb, h_cb⟩ : ∃ z : Int32, z = (x1 &&& (255 : Int32)) := ⟨_, rfl⟩
          rw [← h_cb]
          refine wp_run ok hK (B := [(205, .iload 9, false), (207, .iconst 1, false), (208, .if_icmp .ne 25, false), (211, .iload 10, false), (213, .iload 6, false)]) (by decide +kernel) (ps := [Op.if_icmp.holds .ne (1 : Int32) (1 : Int32) = false]) (pc' := 215) (L' := #[.val ((.ref b)), .val (.int (0 : Int32)), .val (.int en), .val (.int sur), .val (.int b0), .val (.int (2 : Int32)), .val (.int (128 : Int32)), .val (.int (191 : Int32)), .val (.int s176_0), .val (.int (1 : Int32)), .val (.int cb)]) (S' := [.int (128 : Int32), .int cb]) rfl ⟨(XT.ii_ne_f (by decide)), trivial⟩ ?_
          have J254_38 : ∀ (s254_0 : Int32) (h_s254_0 : s254_0 = (if cb < (128 : Int32) then (0 : Int32) else (if (191 : Int32) < cb then (0 : Int32) else (1 : Int32)))), WP X n0 (Q_sq0 Z b en sur x0 x1 x2 x3 x4 x5 x6 x7 h0) h0 0 0 254 #[.val ((.ref b)), .val (.int (0 : Int32)), .val (.int en), .val (.int sur), .val (.int b0), .val (.int (2 : Int32)), .val (.int (128 : Int32)), .val (.int (191 : Int32)), .val (.int s176_0), .val (.int (1 : Int32)), .val (.int cb)] [.int s254_0] := by
            intro s254_0 h_s254_0
            refine wp_run ok hK (B := [(254, .istore 8, false), (256, .iinc 9 1, false)]) (by decide +kernel) (ps := []) (pc' := 259) (L' := #[.val ((.ref b)), .val (.int (0 : Int32)), .val (.int en), .val (.int sur), .val (.int b0), .val (.int (2 : Int32)), .val (.int (128 : Int32)), .val (.int (191 : Int32)), .val (.int s254_0), .val (.int (2 : Int32)), .val (.int cb)]) (S' := []) rfl trivial ?_
            refine wp_run ok hK (B := [(259, .goto (-78), false), (181, .iload 8, false)]) (by decide +kernel) (ps := []) (pc' := 183) (L' := #[.val ((.ref b)), .val (.int (0 : Int32)), .val (.int en), .val (.int sur), .val (.int b0), .val (.int (2 : Int32)), .val (.int (128 : Int32)), .val (.int (191 : Int32)), .val (.int s254_0), .val (.int (2 : Int32)), .val (.int cb)]) (S' := [.int s254_0]) rfl trivial ?_
            by_cases hc183_39 : s254_0 = (0 : Int32)
            · refine wp_run ok hK (B := [(183, .ifCond .eq 79, true)]) (by decide +kernel) (ps := [Op.ifCond.holds .eq s254_0 = true]) (pc' := 262) (L' := #[.val ((.ref b)), .val (.int (0 : Int32)), .val (.int en), .val (.int sur), .val (.int b0), .val (.int (2 : Int32)), .val (.int (128 : Int32)), .val (.int (191 : Int32)), .val (.int s254_0), .val (.int (2 : Int32)), .val (.int cb)]) (S' := []) rfl ⟨(XT.i0_eq_t hc183_39), trivial⟩ ?_
              refine wp_run ok hK (B := [(262, .iload 8, false), (264, .ifCond .eq 10, true), (274, .iconst (-1), false)]) (by decide +kernel) (ps := [Op.ifCond.holds .eq s254_0 = true]) (pc' := 275) (L' := #[.val ((.ref b)), .val (.int (0 : Int32)), .val (.int en), .val (.int sur), .val (.int b0), .val (.int (2 : Int32)), .val (.int (128 : Int32)), .val (.int (191 : Int32)), .val (.int s254_0), .val (.int (2 : Int32)), .val (.int cb)]) (S' := [.int (-1 : Int32)]) rfl ⟨(XT.i0_eq_t hc183_39), trivial⟩ ?_
              refine wp_retI ok (by decide +kernel) (by decide) (by decide) ?_
              exact ⟨congrArg (fun z => some (Value.int z)) (own_sq0_18 en sur x0 x1 x2 x3 x4 x5 x6 x7 b0 h_b0 hc24 hc32 s176_0 h_s176_0 hc183 cb h_cb s254_0 h_s254_0 hc183_39), rfl⟩
            · refine wp_run ok hK (B := [(183, .ifCond .eq 79, false)]) (by decide +kernel) (ps := [Op.ifCond.holds .eq s254_0 = false]) (pc' := 186) (L' := #[.val ((.ref b)), .val (.int (0 : Int32)), .val (.int en), .val (.int sur), .val (.int b0), .val (.int (2 : Int32)), .val (.int (128 : Int32)), .val (.int (191 : Int32)), .val (.int s254_0), .val (.int (2 : Int32)), .val (.int cb)]) (S' := []) rfl ⟨(XT.i0_eq_f hc183_39), trivial⟩ ?_
              refine wp_run ok hK (B := [(186, .iload 9, false), (188, .iload 5, false), (190, .if_icmp .ge 72, true), (262, .iload 8, false), (264, .ifCond .eq 10, false), (267, .iload_n 1, false), (268, .iload 5, false), (270, .iadd, false), (271, .goto 4, false)]) (by decide +kernel) (ps := [Op.if_icmp.holds .ge (2 : Int32) (2 : Int32) = true, Op.ifCond.holds .eq s254_0 = false]) (pc' := 275) (L' := #[.val ((.ref b)), .val (.int (0 : Int32)), .val (.int en), .val (.int sur), .val (.int b0), .val (.int (2 : Int32)), .val (.int (128 : Int32)), .val (.int (191 : Int32)), .val (.int s254_0), .val (.int (2 : Int32)), .val (.int cb)]) (S' := [.int (2 : Int32)]) rfl ⟨(XT.ii_ge_t (by decide)), (XT.i0_eq_f hc183_39), trivial⟩ ?_
              refine wp_retI ok (by decide +kernel) (by decide) (by decide) ?_
              exact ⟨congrArg (fun z => some (Value.int z)) (own_sq0_19 en sur x0 x1 x2 x3 x4 x5 x6 x7 b0 h_b0 hc24 hc32 s176_0 h_s176_0 hc183 cb h_cb s254_0 h_s254_0 hc183_39), rfl⟩
          by_cases c36 : cb < (128 : Int32)
          · refine wp_run ok hK (B := [(215, .if_icmp .lt 14, true), (229, .iconst 0, false), (230, .goto 24, false)]) (by decide +kernel) (ps := [Op.if_icmp.holds .lt cb (128 : Int32) = true]) (pc' := 254) (L' := #[.val ((.ref b)), .val (.int (0 : Int32)), .val (.int en), .val (.int sur), .val (.int b0), .val (.int (2 : Int32)), .val (.int (128 : Int32)), .val (.int (191 : Int32)), .val (.int s176_0), .val (.int (1 : Int32)), .val (.int cb)]) (S' := [.int (0 : Int32)]) rfl ⟨(XT.ii_lt_t c36), trivial⟩ ?_
            exact J254_38 _ (by rw [if_pos c36])
          · by_cases c37 : (191 : Int32) < cb
            · refine wp_run ok hK (B := [(215, .if_icmp .lt 14, false), (218, .iload 10, false), (220, .iload 7, false), (222, .if_icmp .gt 7, true), (229, .iconst 0, false), (230, .goto 24, false)]) (by decide +kernel) (ps := [Op.if_icmp.holds .lt cb (128 : Int32) = false, Op.if_icmp.holds .gt cb (191 : Int32) = true]) (pc' := 254) (L' := #[.val ((.ref b)), .val (.int (0 : Int32)), .val (.int en), .val (.int sur), .val (.int b0), .val (.int (2 : Int32)), .val (.int (128 : Int32)), .val (.int (191 : Int32)), .val (.int s176_0), .val (.int (1 : Int32)), .val (.int cb)]) (S' := [.int (0 : Int32)]) rfl ⟨(XT.ii_lt_f c36), (XT.ii_gt_t c37), trivial⟩ ?_
              exact J254_38 _ (by rw [if_neg c36, if_pos c37])
            · refine wp_run ok hK (B := [(215, .if_icmp .lt 14, false), (218, .iload 10, false), (220, .iload 7, false), (222, .if_icmp .gt 7, false), (225, .iconst 1, false), (226, .goto 28, false)]) (by decide +kernel) (ps := [Op.if_icmp.holds .lt cb (128 : Int32) = false, Op.if_icmp.holds .gt cb (191 : Int32) = false]) (pc' := 254) (L' := #[.val ((.ref b)), .val (.int (0 : Int32)), .val (.int en), .val (.int sur), .val (.int b0), .val (.int (2 : Int32)), .val (.int (128 : Int32)), .val (.int (191 : Int32)), .val (.int s176_0), .val (.int (1 : Int32)), .val (.int cb)]) (S' := [.int (1 : Int32)]) rfl ⟨(XT.ii_lt_f c36), (XT.ii_gt_f c37), trivial⟩ ?_
              exact J254_38 _ (by rw [if_neg c36, if_neg c37])
      by_cases c34 : (en - (0 : Int32)) < (2 : Int32)
      · refine wp_run ok hK (B := [(168, .if_icmp .lt 7, true), (175, .iconst 0, false)]) (by decide +kernel) (ps := [Op.if_icmp.holds .lt (en - (0 : Int32)) (2 : Int32) = true]) (pc' := 176) (L' := #[.val ((.ref b)), .val (.int (0 : Int32)), .val (.int en), .val (.int sur), .val (.int b0), .val (.int (2 : Int32)), .val (.int (128 : Int32)), .val (.int (191 : Int32)), .unset, .unset, .unset]) (S' := [.int (0 : Int32)]) rfl ⟨(XT.ii_lt_t c34), trivial⟩ ?_
        exact J176_35 _ (by rw [if_pos c34])
      · refine wp_run ok hK (B := [(168, .if_icmp .lt 7, false), (171, .iconst 1, false), (172, .goto 4, false)]) (by decide +kernel) (ps := [Op.if_icmp.holds .lt (en - (0 : Int32)) (2 : Int32) = false]) (pc' := 176) (L' := #[.val ((.ref b)), .val (.int (0 : Int32)), .val (.int en), .val (.int sur), .val (.int b0), .val (.int (2 : Int32)), .val (.int (128 : Int32)), .val (.int (191 : Int32)), .unset, .unset, .unset]) (S' := [.int (1 : Int32)]) rfl ⟨(XT.ii_lt_f c34), trivial⟩ ?_
        exact J176_35 _ (by rw [if_neg c34])
def k_sq1 : List (Nat × Value) := []
def Q_sq1 (Z : State) (b : Addr) (en : Int32) (sur : Int32) (x0 : Int32) (x1 : Int32) (x2 : Int32) (x3 : Int32) (x4 : Int32) (x5 : Int32) (x6 : Int32) (x7 : Int32) (h0 : Heap) : Post := fun v h => v = some (.int (seqZ (1 : Int32) (x1 &&& (255 : Int32)) (x2 &&& (255 : Int32)) (x3 &&& (255 : Int32)) (x4 &&& (255 : Int32)) (en - (1 : Int32)) sur)) ∧ h0 = h
theorem own_sq1_1 (en : Int32) (sur : Int32) (x0 : Int32) (x1 : Int32) (x2 : Int32) (x3 : Int32) (x4 : Int32) (x5 : Int32) (x6 : Int32) (x7 : Int32) (b0 : Int32) (h_b0 : b0 = (x1 &&& (255 : Int32))) (hc24 : b0 < (194 : Int32)) : b0 < (224 : Int32) := by
  rw [Int32.lt_iff_toInt_lt] at *; simp only [Int32.reduceToInt] at *; omega
theorem own_sq1_2 (en : Int32) (sur : Int32) (x0 : Int32) (x1 : Int32) (x2 : Int32) (x3 : Int32) (x4 : Int32) (x5 : Int32) (x6 : Int32) (x7 : Int32) (b0 : Int32) (h_b0 : b0 = (x1 &&& (255 : Int32))) (hc24 : b0 < (194 : Int32)) : b0 < (240 : Int32) := by
  rw [Int32.lt_iff_toInt_lt] at *; simp only [Int32.reduceToInt] at *; omega
theorem own_sq1_3 (en : Int32) (sur : Int32) (x0 : Int32) (x1 : Int32) (x2 : Int32) (x3 : Int32) (x4 : Int32) (x5 : Int32) (x6 : Int32) (x7 : Int32) (b0 : Int32) (h_b0 : b0 = (x1 &&& (255 : Int32))) (hc24 : b0 < (194 : Int32)) : (-1 : Int32) = (seqZ (1 : Int32) (x1 &&& (255 : Int32)) (x2 &&& (255 : Int32)) (x3 &&& (255 : Int32)) (x4 &&& (255 : Int32)) (en - (1 : Int32)) sur) := by
  have e := @seqZ_0 (1 : Int32) (x1 &&& 255) (x2 &&& 255) (x3 &&& 255) (x4 &&& 255) (en - (1 : Int32)) sur
  refine e ?_
  clear e
  generalize x1 &&& 255 = y0 at *
  generalize x2 &&& 255 = y1 at *
  generalize x3 &&& 255 = y2 at *
  generalize x4 &&& 255 = y3 at *
  generalize en - (1 : Int32) = dd at *
  simp only [own_i, own_l, own_ite, Int32.reduceToInt, ne_eq] at *
  simp only [seqN]
  repeat' (first | omega | split)
theorem own_sq1_4 (en : Int32) (sur : Int32) (x0 : Int32) (x1 : Int32) (x2 : Int32) (x3 : Int32) (x4 : Int32) (x5 : Int32) (x6 : Int32) (x7 : Int32) (b0 : Int32) (h_b0 : b0 = (x1 &&& (255 : Int32))) (hc24 : ¬ (b0 < (194 : Int32))) (hc32 : (223 : Int32) < b0) (hc46 : b0 < (224 : Int32)) : b0 < (240 : Int32) := by
  rw [Int32.lt_iff_toInt_lt] at *; simp only [Int32.reduceToInt] at *; omega
theorem own_sq1_5 (en : Int32) (sur : Int32) (x0 : Int32) (x1 : Int32) (x2 : Int32) (x3 : Int32) (x4 : Int32) (x5 : Int32) (x6 : Int32) (x7 : Int32) (b0 : Int32) (h_b0 : b0 = (x1 &&& (255 : Int32))) (hc24 : ¬ (b0 < (194 : Int32))) (hc32 : (223 : Int32) < b0) (hc46 : b0 < (224 : Int32)) : (-1 : Int32) = (seqZ (1 : Int32) (x1 &&& (255 : Int32)) (x2 &&& (255 : Int32)) (x3 &&& (255 : Int32)) (x4 &&& (255 : Int32)) (en - (1 : Int32)) sur) := by
  have e := @seqZ_0 (1 : Int32) (x1 &&& 255) (x2 &&& 255) (x3 &&& 255) (x4 &&& 255) (en - (1 : Int32)) sur
  refine e ?_
  clear e
  generalize x1 &&& 255 = y0 at *
  generalize x2 &&& 255 = y1 at *
  generalize x3 &&& 255 = y2 at *
  generalize x4 &&& 255 = y3 at *
  generalize en - (1 : Int32) = dd at *
  simp only [own_i, own_l, own_ite, Int32.reduceToInt, ne_eq] at *
  simp only [seqN]
  repeat' (first | omega | split)
theorem own_sq1_6 (en : Int32) (sur : Int32) (x0 : Int32) (x1 : Int32) (x2 : Int32) (x3 : Int32) (x4 : Int32) (x5 : Int32) (x6 : Int32) (x7 : Int32) (b0 : Int32) (h_b0 : b0 = (x1 &&& (255 : Int32))) (hc24 : ¬ (b0 < (194 : Int32))) (hc32 : (223 : Int32) < b0) (hc46 : ¬ (b0 < (224 : Int32))) (hc54 : (239 : Int32) < b0) (hc108 : b0 < (240 : Int32)) : (-1 : Int32) = (seqZ (1 : Int32) (x1 &&& (255 : Int32)) (x2 &&& (255 : Int32)) (x3 &&& (255 : Int32)) (x4 &&& (255 : Int32)) (en - (1 : Int32)) sur) := by
  have e := @seqZ_0 (1 : Int32) (x1 &&& 255) (x2 &&& 255) (x3 &&& 255) (x4 &&& 255) (en - (1 : Int32)) sur
  refine e ?_
  clear e
  generalize x1 &&& 255 = y0 at *
  generalize x2 &&& 255 = y1 at *
  generalize x3 &&& 255 = y2 at *
  generalize x4 &&& 255 = y3 at *
  generalize en - (1 : Int32) = dd at *
  simp only [own_i, own_l, own_ite, Int32.reduceToInt, ne_eq] at *
  simp only [seqN]
  repeat' (first | omega | split)
theorem own_sq1_7 (en : Int32) (sur : Int32) (x0 : Int32) (x1 : Int32) (x2 : Int32) (x3 : Int32) (x4 : Int32) (x5 : Int32) (x6 : Int32) (x7 : Int32) (b0 : Int32) (h_b0 : b0 = (x1 &&& (255 : Int32))) (hc24 : ¬ (b0 < (194 : Int32))) (hc32 : (223 : Int32) < b0) (hc46 : ¬ (b0 < (224 : Int32))) (hc54 : (239 : Int32) < b0) (hc108 : ¬ (b0 < (240 : Int32))) (hc116 : (244 : Int32) < b0) : (-1 : Int32) = (seqZ (1 : Int32) (x1 &&& (255 : Int32)) (x2 &&& (255 : Int32)) (x3 &&& (255 : Int32)) (x4 &&& (255 : Int32)) (en - (1 : Int32)) sur) := by
  have e := @seqZ_0 (1 : Int32) (x1 &&& 255) (x2 &&& 255) (x3 &&& 255) (x4 &&& 255) (en - (1 : Int32)) sur
  refine e ?_
  clear e
  generalize x1 &&& 255 = y0 at *
  generalize x2 &&& 255 = y1 at *
  generalize x3 &&& 255 = y2 at *
  generalize x4 &&& 255 = y3 at *
  generalize en - (1 : Int32) = dd at *
  simp only [own_i, own_l, own_ite, Int32.reduceToInt, ne_eq] at *
  simp only [seqN]
  repeat' (first | omega | split)
theorem own_sq1_8 (en : Int32) (sur : Int32) (x0 : Int32) (x1 : Int32) (x2 : Int32) (x3 : Int32) (x4 : Int32) (x5 : Int32) (x6 : Int32) (x7 : Int32) (b0 : Int32) (h_b0 : b0 = (x1 &&& (255 : Int32))) (hc24 : ¬ (b0 < (194 : Int32))) (hc32 : (223 : Int32) < b0) (hc46 : ¬ (b0 < (224 : Int32))) (hc54 : (239 : Int32) < b0) (hc108 : ¬ (b0 < (240 : Int32))) (hc116 : ¬ ((244 : Int32) < b0)) (s138_0 : Int32) (h_s138_0 : s138_0 = (if b0 = (240 : Int32) then (144 : Int32) else (128 : Int32))) (s156_0 : Int32) (h_s156_0 : s156_0 = (if b0 = (244 : Int32) then (143 : Int32) else (191 : Int32))) (s176_0 : Int32) (h_s176_0 : s176_0 = (if (en - (1 : Int32)) < (4 : Int32) then (0 : Int32) else (1 : Int32))) (hc183 : s176_0 = (0 : Int32)) : (-1 : Int32) = (seqZ (1 : Int32) (x1 &&& (255 : Int32)) (x2 &&& (255 : Int32)) (x3 &&& (255 : Int32)) (x4 &&& (255 : Int32)) (en - (1 : Int32)) sur) := by
  have e := @seqZ_0 (1 : Int32) (x1 &&& 255) (x2 &&& 255) (x3 &&& 255) (x4 &&& 255) (en - (1 : Int32)) sur
  refine e ?_
  clear e
  generalize x1 &&& 255 = y0 at *
  generalize x2 &&& 255 = y1 at *
  generalize x3 &&& 255 = y2 at *
  generalize x4 &&& 255 = y3 at *
  generalize en - (1 : Int32) = dd at *
  simp only [own_i, own_l, own_ite, Int32.reduceToInt, ne_eq] at *
  simp only [seqN]
  repeat' (first | omega | split at h_s138_0 | split at h_s156_0 | split at h_s176_0 | split)
theorem own_sq1_9 (en : Int32) (sur : Int32) (x0 : Int32) (x1 : Int32) (x2 : Int32) (x3 : Int32) (x4 : Int32) (x5 : Int32) (x6 : Int32) (x7 : Int32) (b0 : Int32) (h_b0 : b0 = (x1 &&& (255 : Int32))) (hc24 : ¬ (b0 < (194 : Int32))) (hc32 : (223 : Int32) < b0) (hc46 : ¬ (b0 < (224 : Int32))) (hc54 : (239 : Int32) < b0) (hc108 : ¬ (b0 < (240 : Int32))) (hc116 : ¬ ((244 : Int32) < b0)) (s138_0 : Int32) (h_s138_0 : s138_0 = (if b0 = (240 : Int32) then (144 : Int32) else (128 : Int32))) (s156_0 : Int32) (h_s156_0 : s156_0 = (if b0 = (244 : Int32) then (143 : Int32) else (191 : Int32))) (s176_0 : Int32) (h_s176_0 : s176_0 = (if (en - (1 : Int32)) < (4 : Int32) then (0 : Int32) else (1 : Int32))) (hc183 : ¬ (s176_0 = (0 : Int32))) (cb : Int32) (h_cb : cb = (x2 &&& (255 : Int32))) (s254_0 : Int32) (h_s254_0 : s254_0 = (if cb < s138_0 then (0 : Int32) else (if s156_0 < cb then (0 : Int32) else (1 : Int32)))) (hc183_10 : s254_0 = (0 : Int32)) : (-1 : Int32) = (seqZ (1 : Int32) (x1 &&& (255 : Int32)) (x2 &&& (255 : Int32)) (x3 &&& (255 : Int32)) (x4 &&& (255 : Int32)) (en - (1 : Int32)) sur) := by
  have e := @seqZ_0 (1 : Int32) (x1 &&& 255) (x2 &&& 255) (x3 &&& 255) (x4 &&& 255) (en - (1 : Int32)) sur
  refine e ?_
  clear e
  generalize x1 &&& 255 = y0 at *
  generalize x2 &&& 255 = y1 at *
  generalize x3 &&& 255 = y2 at *
  generalize x4 &&& 255 = y3 at *
  generalize en - (1 : Int32) = dd at *
  simp only [own_i, own_l, own_ite, Int32.reduceToInt, ne_eq] at *
  simp only [seqN]
  repeat' (first | omega | split at h_s138_0 | split at h_s156_0 | split at h_s176_0 | split at h_s254_0 | split)
theorem own_sq1_10 (en : Int32) (sur : Int32) (x0 : Int32) (x1 : Int32) (x2 : Int32) (x3 : Int32) (x4 : Int32) (x5 : Int32) (x6 : Int32) (x7 : Int32) (b0 : Int32) (h_b0 : b0 = (x1 &&& (255 : Int32))) (hc24 : ¬ (b0 < (194 : Int32))) (hc32 : (223 : Int32) < b0) (hc46 : ¬ (b0 < (224 : Int32))) (hc54 : (239 : Int32) < b0) (hc108 : ¬ (b0 < (240 : Int32))) (hc116 : ¬ ((244 : Int32) < b0)) (s138_0 : Int32) (h_s138_0 : s138_0 = (if b0 = (240 : Int32) then (144 : Int32) else (128 : Int32))) (s156_0 : Int32) (h_s156_0 : s156_0 = (if b0 = (244 : Int32) then (143 : Int32) else (191 : Int32))) (s176_0 : Int32) (h_s176_0 : s176_0 = (if (en - (1 : Int32)) < (4 : Int32) then (0 : Int32) else (1 : Int32))) (hc183 : ¬ (s176_0 = (0 : Int32))) (cb : Int32) (h_cb : cb = (x2 &&& (255 : Int32))) (s254_0 : Int32) (h_s254_0 : s254_0 = (if cb < s138_0 then (0 : Int32) else (if s156_0 < cb then (0 : Int32) else (1 : Int32)))) (hc183_10 : ¬ (s254_0 = (0 : Int32))) (cbb : Int32) (h_cbb : cbb = (x3 &&& (255 : Int32))) (s254_0b : Int32) (h_s254_0b : s254_0b = (if cbb < (128 : Int32) then (0 : Int32) else (if (191 : Int32) < cbb then (0 : Int32) else (1 : Int32)))) (hc183_14 : s254_0b = (0 : Int32)) : (-1 : Int32) = (seqZ (1 : Int32) (x1 &&& (255 : Int32)) (x2 &&& (255 : Int32)) (x3 &&& (255 : Int32)) (x4 &&& (255 : Int32)) (en - (1 : Int32)) sur) := by
  have e := @seqZ_0 (1 : Int32) (x1 &&& 255) (x2 &&& 255) (x3 &&& 255) (x4 &&& 255) (en - (1 : Int32)) sur
  refine e ?_
  clear e
  generalize x1 &&& 255 = y0 at *
  generalize x2 &&& 255 = y1 at *
  generalize x3 &&& 255 = y2 at *
  generalize x4 &&& 255 = y3 at *
  generalize en - (1 : Int32) = dd at *
  simp only [own_i, own_l, own_ite, Int32.reduceToInt, ne_eq] at *
  simp only [seqN]
  repeat' (first | omega | split at h_s138_0 | split at h_s156_0 | split at h_s176_0 | split at h_s254_0 | split at h_s254_0b | split)
theorem own_sq1_11 (en : Int32) (sur : Int32) (x0 : Int32) (x1 : Int32) (x2 : Int32) (x3 : Int32) (x4 : Int32) (x5 : Int32) (x6 : Int32) (x7 : Int32) (b0 : Int32) (h_b0 : b0 = (x1 &&& (255 : Int32))) (hc24 : ¬ (b0 < (194 : Int32))) (hc32 : (223 : Int32) < b0) (hc46 : ¬ (b0 < (224 : Int32))) (hc54 : (239 : Int32) < b0) (hc108 : ¬ (b0 < (240 : Int32))) (hc116 : ¬ ((244 : Int32) < b0)) (s138_0 : Int32) (h_s138_0 : s138_0 = (if b0 = (240 : Int32) then (144 : Int32) else (128 : Int32))) (s156_0 : Int32) (h_s156_0 : s156_0 = (if b0 = (244 : Int32) then (143 : Int32) else (191 : Int32))) (s176_0 : Int32) (h_s176_0 : s176_0 = (if (en - (1 : Int32)) < (4 : Int32) then (0 : Int32) else (1 : Int32))) (hc183 : ¬ (s176_0 = (0 : Int32))) (cb : Int32) (h_cb : cb = (x2 &&& (255 : Int32))) (s254_0 : Int32) (h_s254_0 : s254_0 = (if cb < s138_0 then (0 : Int32) else (if s156_0 < cb then (0 : Int32) else (1 : Int32)))) (hc183_10 : ¬ (s254_0 = (0 : Int32))) (cbb : Int32) (h_cbb : cbb = (x3 &&& (255 : Int32))) (s254_0b : Int32) (h_s254_0b : s254_0b = (if cbb < (128 : Int32) then (0 : Int32) else (if (191 : Int32) < cbb then (0 : Int32) else (1 : Int32)))) (hc183_14 : ¬ (s254_0b = (0 : Int32))) (cbbb : Int32) (h_cbbb : cbbb = (x4 &&& (255 : Int32))) (s254_0bb : Int32) (h_s254_0bb : s254_0bb = (if cbbb < (128 : Int32) then (0 : Int32) else (if (191 : Int32) < cbbb then (0 : Int32) else (1 : Int32)))) (hc183_18 : s254_0bb = (0 : Int32)) : (-1 : Int32) = (seqZ (1 : Int32) (x1 &&& (255 : Int32)) (x2 &&& (255 : Int32)) (x3 &&& (255 : Int32)) (x4 &&& (255 : Int32)) (en - (1 : Int32)) sur) := by
  have e := @seqZ_0 (1 : Int32) (x1 &&& 255) (x2 &&& 255) (x3 &&& 255) (x4 &&& 255) (en - (1 : Int32)) sur
  refine e ?_
  clear e
  generalize x1 &&& 255 = y0 at *
  generalize x2 &&& 255 = y1 at *
  generalize x3 &&& 255 = y2 at *
  generalize x4 &&& 255 = y3 at *
  generalize en - (1 : Int32) = dd at *
  simp only [own_i, own_l, own_ite, Int32.reduceToInt, ne_eq] at *
  simp only [seqN]
  repeat' (first | omega | split at h_s138_0 | split at h_s156_0 | split at h_s176_0 | split at h_s254_0 | split at h_s254_0b | split at h_s254_0bb | split)
theorem own_sq1_12 (en : Int32) (sur : Int32) (x0 : Int32) (x1 : Int32) (x2 : Int32) (x3 : Int32) (x4 : Int32) (x5 : Int32) (x6 : Int32) (x7 : Int32) (b0 : Int32) (h_b0 : b0 = (x1 &&& (255 : Int32))) (hc24 : ¬ (b0 < (194 : Int32))) (hc32 : (223 : Int32) < b0) (hc46 : ¬ (b0 < (224 : Int32))) (hc54 : (239 : Int32) < b0) (hc108 : ¬ (b0 < (240 : Int32))) (hc116 : ¬ ((244 : Int32) < b0)) (s138_0 : Int32) (h_s138_0 : s138_0 = (if b0 = (240 : Int32) then (144 : Int32) else (128 : Int32))) (s156_0 : Int32) (h_s156_0 : s156_0 = (if b0 = (244 : Int32) then (143 : Int32) else (191 : Int32))) (s176_0 : Int32) (h_s176_0 : s176_0 = (if (en - (1 : Int32)) < (4 : Int32) then (0 : Int32) else (1 : Int32))) (hc183 : ¬ (s176_0 = (0 : Int32))) (cb : Int32) (h_cb : cb = (x2 &&& (255 : Int32))) (s254_0 : Int32) (h_s254_0 : s254_0 = (if cb < s138_0 then (0 : Int32) else (if s156_0 < cb then (0 : Int32) else (1 : Int32)))) (hc183_10 : ¬ (s254_0 = (0 : Int32))) (cbb : Int32) (h_cbb : cbb = (x3 &&& (255 : Int32))) (s254_0b : Int32) (h_s254_0b : s254_0b = (if cbb < (128 : Int32) then (0 : Int32) else (if (191 : Int32) < cbb then (0 : Int32) else (1 : Int32)))) (hc183_14 : ¬ (s254_0b = (0 : Int32))) (cbbb : Int32) (h_cbbb : cbbb = (x4 &&& (255 : Int32))) (s254_0bb : Int32) (h_s254_0bb : s254_0bb = (if cbbb < (128 : Int32) then (0 : Int32) else (if (191 : Int32) < cbbb then (0 : Int32) else (1 : Int32)))) (hc183_18 : ¬ (s254_0bb = (0 : Int32))) : (5 : Int32) = (seqZ (1 : Int32) (x1 &&& (255 : Int32)) (x2 &&& (255 : Int32)) (x3 &&& (255 : Int32)) (x4 &&& (255 : Int32)) (en - (1 : Int32)) sur) := by
  have e := @seqZ_4 (1 : Int32) (x1 &&& 255) (x2 &&& 255) (x3 &&& 255) (x4 &&& 255) (en - (1 : Int32)) sur
  refine Eq.trans (by decide) (e ?_)
  clear e
  generalize x1 &&& 255 = y0 at *
  generalize x2 &&& 255 = y1 at *
  generalize x3 &&& 255 = y2 at *
  generalize x4 &&& 255 = y3 at *
  generalize en - (1 : Int32) = dd at *
  simp only [own_i, own_l, own_ite, Int32.reduceToInt, ne_eq] at *
  simp only [seqN]
  repeat' (first | omega | split at h_s138_0 | split at h_s156_0 | split at h_s176_0 | split at h_s254_0 | split at h_s254_0b | split at h_s254_0bb | split)
theorem own_sq1_13 (en : Int32) (sur : Int32) (x0 : Int32) (x1 : Int32) (x2 : Int32) (x3 : Int32) (x4 : Int32) (x5 : Int32) (x6 : Int32) (x7 : Int32) (b0 : Int32) (h_b0 : b0 = (x1 &&& (255 : Int32))) (hc24 : ¬ (b0 < (194 : Int32))) (hc32 : (223 : Int32) < b0) (hc46 : ¬ (b0 < (224 : Int32))) (hc54 : ¬ ((239 : Int32) < b0)) (s76_0 : Int32) (h_s76_0 : s76_0 = (if b0 = (224 : Int32) then (160 : Int32) else (128 : Int32))) (s98_0 : Int32) (h_s98_0 : s98_0 = (if b0 = (237 : Int32) then (if sur = (0 : Int32) then (159 : Int32) else (191 : Int32)) else (191 : Int32))) (s176_0 : Int32) (h_s176_0 : s176_0 = (if (en - (1 : Int32)) < (3 : Int32) then (0 : Int32) else (1 : Int32))) (hc183 : s176_0 = (0 : Int32)) : (-1 : Int32) = (seqZ (1 : Int32) (x1 &&& (255 : Int32)) (x2 &&& (255 : Int32)) (x3 &&& (255 : Int32)) (x4 &&& (255 : Int32)) (en - (1 : Int32)) sur) := by
  have e := @seqZ_0 (1 : Int32) (x1 &&& 255) (x2 &&& 255) (x3 &&& 255) (x4 &&& 255) (en - (1 : Int32)) sur
  refine e ?_
  clear e
  generalize x1 &&& 255 = y0 at *
  generalize x2 &&& 255 = y1 at *
  generalize x3 &&& 255 = y2 at *
  generalize x4 &&& 255 = y3 at *
  generalize en - (1 : Int32) = dd at *
  simp only [own_i, own_l, own_ite, Int32.reduceToInt, ne_eq] at *
  simp only [seqN]
  repeat' (first | omega | split at h_s76_0 | split at h_s98_0 | split at h_s176_0 | split)
theorem own_sq1_14 (en : Int32) (sur : Int32) (x0 : Int32) (x1 : Int32) (x2 : Int32) (x3 : Int32) (x4 : Int32) (x5 : Int32) (x6 : Int32) (x7 : Int32) (b0 : Int32) (h_b0 : b0 = (x1 &&& (255 : Int32))) (hc24 : ¬ (b0 < (194 : Int32))) (hc32 : (223 : Int32) < b0) (hc46 : ¬ (b0 < (224 : Int32))) (hc54 : ¬ ((239 : Int32) < b0)) (s76_0 : Int32) (h_s76_0 : s76_0 = (if b0 = (224 : Int32) then (160 : Int32) else (128 : Int32))) (s98_0 : Int32) (h_s98_0 : s98_0 = (if b0 = (237 : Int32) then (if sur = (0 : Int32) then (159 : Int32) else (191 : Int32)) else (191 : Int32))) (s176_0 : Int32) (h_s176_0 : s176_0 = (if (en - (1 : Int32)) < (3 : Int32) then (0 : Int32) else (1 : Int32))) (hc183 : ¬ (s176_0 = (0 : Int32))) (cb : Int32) (h_cb : cb = (x2 &&& (255 : Int32))) (s254_0 : Int32) (h_s254_0 : s254_0 = (if cb < s76_0 then (0 : Int32) else (if s98_0 < cb then (0 : Int32) else (1 : Int32)))) (hc183_29 : s254_0 = (0 : Int32)) : (-1 : Int32) = (seqZ (1 : Int32) (x1 &&& (255 : Int32)) (x2 &&& (255 : Int32)) (x3 &&& (255 : Int32)) (x4 &&& (255 : Int32)) (en - (1 : Int32)) sur) := by
  have e := @seqZ_0 (1 : Int32) (x1 &&& 255) (x2 &&& 255) (x3 &&& 255) (x4 &&& 255) (en - (1 : Int32)) sur
  refine e ?_
  clear e
  generalize x1 &&& 255 = y0 at *
  generalize x2 &&& 255 = y1 at *
  generalize x3 &&& 255 = y2 at *
  generalize x4 &&& 255 = y3 at *
  generalize en - (1 : Int32) = dd at *
  simp only [own_i, own_l, own_ite, Int32.reduceToInt, ne_eq] at *
  simp only [seqN]
  repeat' (first | omega | split at h_s76_0 | split at h_s98_0 | split at h_s176_0 | split at h_s254_0 | split)
theorem own_sq1_15 (en : Int32) (sur : Int32) (x0 : Int32) (x1 : Int32) (x2 : Int32) (x3 : Int32) (x4 : Int32) (x5 : Int32) (x6 : Int32) (x7 : Int32) (b0 : Int32) (h_b0 : b0 = (x1 &&& (255 : Int32))) (hc24 : ¬ (b0 < (194 : Int32))) (hc32 : (223 : Int32) < b0) (hc46 : ¬ (b0 < (224 : Int32))) (hc54 : ¬ ((239 : Int32) < b0)) (s76_0 : Int32) (h_s76_0 : s76_0 = (if b0 = (224 : Int32) then (160 : Int32) else (128 : Int32))) (s98_0 : Int32) (h_s98_0 : s98_0 = (if b0 = (237 : Int32) then (if sur = (0 : Int32) then (159 : Int32) else (191 : Int32)) else (191 : Int32))) (s176_0 : Int32) (h_s176_0 : s176_0 = (if (en - (1 : Int32)) < (3 : Int32) then (0 : Int32) else (1 : Int32))) (hc183 : ¬ (s176_0 = (0 : Int32))) (cb : Int32) (h_cb : cb = (x2 &&& (255 : Int32))) (s254_0 : Int32) (h_s254_0 : s254_0 = (if cb < s76_0 then (0 : Int32) else (if s98_0 < cb then (0 : Int32) else (1 : Int32)))) (hc183_29 : ¬ (s254_0 = (0 : Int32))) (cbb : Int32) (h_cbb : cbb = (x3 &&& (255 : Int32))) (s254_0b : Int32) (h_s254_0b : s254_0b = (if cbb < (128 : Int32) then (0 : Int32) else (if (191 : Int32) < cbb then (0 : Int32) else (1 : Int32)))) (hc183_33 : s254_0b = (0 : Int32)) : (-1 : Int32) = (seqZ (1 : Int32) (x1 &&& (255 : Int32)) (x2 &&& (255 : Int32)) (x3 &&& (255 : Int32)) (x4 &&& (255 : Int32)) (en - (1 : Int32)) sur) := by
  have e := @seqZ_0 (1 : Int32) (x1 &&& 255) (x2 &&& 255) (x3 &&& 255) (x4 &&& 255) (en - (1 : Int32)) sur
  refine e ?_
  clear e
  generalize x1 &&& 255 = y0 at *
  generalize x2 &&& 255 = y1 at *
  generalize x3 &&& 255 = y2 at *
  generalize x4 &&& 255 = y3 at *
  generalize en - (1 : Int32) = dd at *
  simp only [own_i, own_l, own_ite, Int32.reduceToInt, ne_eq] at *
  simp only [seqN]
  repeat' (first | omega | split at h_s76_0 | split at h_s98_0 | split at h_s176_0 | split at h_s254_0 | split at h_s254_0b | split)
theorem own_sq1_16 (en : Int32) (sur : Int32) (x0 : Int32) (x1 : Int32) (x2 : Int32) (x3 : Int32) (x4 : Int32) (x5 : Int32) (x6 : Int32) (x7 : Int32) (b0 : Int32) (h_b0 : b0 = (x1 &&& (255 : Int32))) (hc24 : ¬ (b0 < (194 : Int32))) (hc32 : (223 : Int32) < b0) (hc46 : ¬ (b0 < (224 : Int32))) (hc54 : ¬ ((239 : Int32) < b0)) (s76_0 : Int32) (h_s76_0 : s76_0 = (if b0 = (224 : Int32) then (160 : Int32) else (128 : Int32))) (s98_0 : Int32) (h_s98_0 : s98_0 = (if b0 = (237 : Int32) then (if sur = (0 : Int32) then (159 : Int32) else (191 : Int32)) else (191 : Int32))) (s176_0 : Int32) (h_s176_0 : s176_0 = (if (en - (1 : Int32)) < (3 : Int32) then (0 : Int32) else (1 : Int32))) (hc183 : ¬ (s176_0 = (0 : Int32))) (cb : Int32) (h_cb : cb = (x2 &&& (255 : Int32))) (s254_0 : Int32) (h_s254_0 : s254_0 = (if cb < s76_0 then (0 : Int32) else (if s98_0 < cb then (0 : Int32) else (1 : Int32)))) (hc183_29 : ¬ (s254_0 = (0 : Int32))) (cbb : Int32) (h_cbb : cbb = (x3 &&& (255 : Int32))) (s254_0b : Int32) (h_s254_0b : s254_0b = (if cbb < (128 : Int32) then (0 : Int32) else (if (191 : Int32) < cbb then (0 : Int32) else (1 : Int32)))) (hc183_33 : ¬ (s254_0b = (0 : Int32))) : (4 : Int32) = (seqZ (1 : Int32) (x1 &&& (255 : Int32)) (x2 &&& (255 : Int32)) (x3 &&& (255 : Int32)) (x4 &&& (255 : Int32)) (en - (1 : Int32)) sur) := by
  have e := @seqZ_3 (1 : Int32) (x1 &&& 255) (x2 &&& 255) (x3 &&& 255) (x4 &&& 255) (en - (1 : Int32)) sur
  refine Eq.trans (by decide) (e ?_)
  clear e
  generalize x1 &&& 255 = y0 at *
  generalize x2 &&& 255 = y1 at *
  generalize x3 &&& 255 = y2 at *
  generalize x4 &&& 255 = y3 at *
  generalize en - (1 : Int32) = dd at *
  simp only [own_i, own_l, own_ite, Int32.reduceToInt, ne_eq] at *
  simp only [seqN]
  repeat' (first | omega | split at h_s76_0 | split at h_s98_0 | split at h_s176_0 | split at h_s254_0 | split at h_s254_0b | split)
theorem own_sq1_17 (en : Int32) (sur : Int32) (x0 : Int32) (x1 : Int32) (x2 : Int32) (x3 : Int32) (x4 : Int32) (x5 : Int32) (x6 : Int32) (x7 : Int32) (b0 : Int32) (h_b0 : b0 = (x1 &&& (255 : Int32))) (hc24 : ¬ (b0 < (194 : Int32))) (hc32 : ¬ ((223 : Int32) < b0)) (s176_0 : Int32) (h_s176_0 : s176_0 = (if (en - (1 : Int32)) < (2 : Int32) then (0 : Int32) else (1 : Int32))) (hc183 : s176_0 = (0 : Int32)) : (-1 : Int32) = (seqZ (1 : Int32) (x1 &&& (255 : Int32)) (x2 &&& (255 : Int32)) (x3 &&& (255 : Int32)) (x4 &&& (255 : Int32)) (en - (1 : Int32)) sur) := by
  have e := @seqZ_0 (1 : Int32) (x1 &&& 255) (x2 &&& 255) (x3 &&& 255) (x4 &&& 255) (en - (1 : Int32)) sur
  refine e ?_
  clear e
  generalize x1 &&& 255 = y0 at *
  generalize x2 &&& 255 = y1 at *
  generalize x3 &&& 255 = y2 at *
  generalize x4 &&& 255 = y3 at *
  generalize en - (1 : Int32) = dd at *
  simp only [own_i, own_l, own_ite, Int32.reduceToInt, ne_eq] at *
  simp only [seqN]
  repeat' (first | omega | split at h_s176_0 | split)
theorem own_sq1_18 (en : Int32) (sur : Int32) (x0 : Int32) (x1 : Int32) (x2 : Int32) (x3 : Int32) (x4 : Int32) (x5 : Int32) (x6 : Int32) (x7 : Int32) (b0 : Int32) (h_b0 : b0 = (x1 &&& (255 : Int32))) (hc24 : ¬ (b0 < (194 : Int32))) (hc32 : ¬ ((223 : Int32) < b0)) (s176_0 : Int32) (h_s176_0 : s176_0 = (if (en - (1 : Int32)) < (2 : Int32) then (0 : Int32) else (1 : Int32))) (hc183 : ¬ (s176_0 = (0 : Int32))) (cb : Int32) (h_cb : cb = (x2 &&& (255 : Int32))) (s254_0 : Int32) (h_s254_0 : s254_0 = (if cb < (128 : Int32) then (0 : Int32) else (if (191 : Int32) < cb then (0 : Int32) else (1 : Int32)))) (hc183_39 : s254_0 = (0 : Int32)) : (-1 : Int32) = (seqZ (1 : Int32) (x1 &&& (255 : Int32)) (x2 &&& (255 : Int32)) (x3 &&& (255 : Int32)) (x4 &&& (255 : Int32)) (en - (1 : Int32)) sur) := by
  have e := @seqZ_0 (1 : Int32) (x1 &&& 255) (x2 &&& 255) (x3 &&& 255) (x4 &&& 255) (en - (1 : Int32)) sur
  refine e ?_
  clear e
  generalize x1 &&& 255 = y0 at *
  generalize x2 &&& 255 = y1 at *
  generalize x3 &&& 255 = y2 at *
  generalize x4 &&& 255 = y3 at *
  generalize en - (1 : Int32) = dd at *
  simp only [own_i, own_l, own_ite, Int32.reduceToInt, ne_eq] at *
  simp only [seqN]
  repeat' (first | omega | split at h_s176_0 | split at h_s254_0 | split)
theorem own_sq1_19 (en : Int32) (sur : Int32) (x0 : Int32) (x1 : Int32) (x2 : Int32) (x3 : Int32) (x4 : Int32) (x5 : Int32) (x6 : Int32) (x7 : Int32) (b0 : Int32) (h_b0 : b0 = (x1 &&& (255 : Int32))) (hc24 : ¬ (b0 < (194 : Int32))) (hc32 : ¬ ((223 : Int32) < b0)) (s176_0 : Int32) (h_s176_0 : s176_0 = (if (en - (1 : Int32)) < (2 : Int32) then (0 : Int32) else (1 : Int32))) (hc183 : ¬ (s176_0 = (0 : Int32))) (cb : Int32) (h_cb : cb = (x2 &&& (255 : Int32))) (s254_0 : Int32) (h_s254_0 : s254_0 = (if cb < (128 : Int32) then (0 : Int32) else (if (191 : Int32) < cb then (0 : Int32) else (1 : Int32)))) (hc183_39 : ¬ (s254_0 = (0 : Int32))) : (3 : Int32) = (seqZ (1 : Int32) (x1 &&& (255 : Int32)) (x2 &&& (255 : Int32)) (x3 &&& (255 : Int32)) (x4 &&& (255 : Int32)) (en - (1 : Int32)) sur) := by
  have e := @seqZ_2 (1 : Int32) (x1 &&& 255) (x2 &&& 255) (x3 &&& 255) (x4 &&& 255) (en - (1 : Int32)) sur
  refine Eq.trans (by decide) (e ?_)
  clear e
  generalize x1 &&& 255 = y0 at *
  generalize x2 &&& 255 = y1 at *
  generalize x3 &&& 255 = y2 at *
  generalize x4 &&& 255 = y3 at *
  generalize en - (1 : Int32) = dd at *
  simp only [own_i, own_l, own_ite, Int32.reduceToInt, ne_eq] at *
  simp only [seqN]
  repeat' (first | omega | split at h_s176_0 | split at h_s254_0 | split)
theorem pn_sq1 : plainFor (⟨"com/example/stamp_to_key/stamptokey/Utf8", "sequenceEnd", "([BIIZ)I"⟩ : MethodName) = true := by first | (refine plainFor_of_name ?_; simp [plainName, overriddenIn]; done) | decide +kernel
set_option maxRecDepth 65536 in
set_option maxHeartbeats 40000000 in
theorem c_sq1 (l : Launch) (Z : State) (a0 : Array Value) (hw : ∀ d ∈ tables_1, d.before a0 Z = true) (b : Addr) (en : Int32) (sur : Int32) (x0 : Int32) (x1 : Int32) (x2 : Int32) (x3 : Int32) (x4 : Int32) (x5 : Int32) (x6 : Int32) (x7 : Int32) (h0 : Heap) (n0 : Nat) (Z0 : n0 ≤ h0.size) (A_b : Ar Z h0 b .byte 8 (lst [.int x0, .int x1, .int x2, .int x3, .int x4, .int x5, .int x6, .int x7])) (g_b : n0 ≤ b) :
    Con l Z (⟨"com/example/stamp_to_key/stamptokey/Utf8", "sequenceEnd", "([BIIZ)I"⟩ : MethodName) prog_34_method_5_code 11 (some .int) ({ frames := 0, cells := 0, slots := 0, locals := 0 } : Room) #[(.ref b), .int (1 : Int32), .int en, .int sur] h0 n0 (Q_sq1 Z b en sur x0 x1 x2 x3 x4 x5 x6 x7 h0) [] := by
  refine con_of_wp pn_sq1 (L0 := #[.val ((.ref b)), .val (.int (1 : Int32)), .val (.int en), .val (.int sur), .unset, .unset, .unset, .unset, .unset, .unset, .unset]) (fun m => by first | (simp [entryFrame, mkF, argsToLocals, Value.category]; done) | rfl) (fun X hl ok => ?_)
  subst hl
  have hK : Konst Z a0 "com/example/stamp_to_key/stamptokey/Utf8" k_sq1 := trivial
  refine wp_run ok hK (B := [(0, .aload_n 0, false), (1, .iload_n 1, false)]) (by decide +kernel) (ps := []) (pc' := 2) (L' := #[.val ((.ref b)), .val (.int (1 : Int32)), .val (.int en), .val (.int sur), .unset, .unset, .unset, .unset, .unset, .unset, .unset]) (S' := [.int (1 : Int32), (.ref b)]) rfl trivial ?_
  refine wp_aB ok A_b (i := 1) (v := .int x1) (by rfl) (by decide) rfl (by decide +kernel) ?_
  refine wp_run ok hK (B := [(3, .sipush 255, false), (6, .iand, false), (7, .istore 4, false)]) (by decide +kernel) (ps := []) (pc' := 9) (L' := #[.val ((.ref b)), .val (.int (1 : Int32)), .val (.int en), .val (.int sur), .val (.int (x1 &&& (255 : Int32))), .unset, .unset, .unset, .unset, .unset, .unset]) (S' := []) rfl trivial ?_
  obtain ⟨b0, h_b0⟩ : ∃ z : Int32, z = (x1 &&& (255 : Int32)) := ⟨_, rfl⟩
  rw [← h_b0]
  refine wp_run ok hK (B := [(9, .sipush 128, false), (12, .istore 6, false), (14, .sipush 191, false), (17, .istore 7, false)]) (by decide +kernel) (ps := []) (pc' := 19) (L' := #[.val ((.ref b)), .val (.int (1 : Int32)), .val (.int en), .val (.int sur), .val (.int b0), .unset, .val (.int (128 : Int32)), .val (.int (191 : Int32)), .unset, .unset, .unset]) (S' := []) rfl trivial ?_
  refine wp_run ok hK (B := [(19, .iload 4, false), (21, .sipush 194, false)]) (by decide +kernel) (ps := []) (pc' := 24) (L' := #[.val ((.ref b)), .val (.int (1 : Int32)), .val (.int en), .val (.int sur), .val (.int b0), .unset, .val (.int (128 : Int32)), .val (.int (191 : Int32)), .unset, .unset, .unset]) (S' := [.int (194 : Int32), .int b0]) rfl trivial ?_
  by_cases hc24 : b0 < (194 : Int32)
  · refine wp_run ok hK (B := [(24, .if_icmp .lt 17, true)]) (by decide +kernel) (ps := [Op.if_icmp.holds .lt b0 (194 : Int32) = true]) (pc' := 41) (L' := #[.val ((.ref b)), .val (.int (1 : Int32)), .val (.int en), .val (.int sur), .val (.int b0), .unset, .val (.int (128 : Int32)), .val (.int (191 : Int32)), .unset, .unset, .unset]) (S' := []) rfl ⟨(XT.ii_lt_t hc24), trivial⟩ ?_
    refine wp_run ok hK (B := [(41, .iload 4, false), (43, .sipush 224, false), (46, .if_icmp .lt 57, true), (103, .iload 4, false), (105, .sipush 240, false), (108, .if_icmp .lt 53, true), (161, .iconst (-1), false)]) (by decide +kernel) (ps := [Op.if_icmp.holds .lt b0 (224 : Int32) = true, Op.if_icmp.holds .lt b0 (240 : Int32) = true]) (pc' := 162) (L' := #[.val ((.ref b)), .val (.int (1 : Int32)), .val (.int en), .val (.int sur), .val (.int b0), .unset, .val (.int (128 : Int32)), .val (.int (191 : Int32)), .unset, .unset, .unset]) (S' := [.int (-1 : Int32)]) rfl ⟨(XT.ii_lt_t (own_sq1_1 en sur x0 x1 x2 x3 x4 x5 x6 x7 b0 h_b0 hc24)), (XT.ii_lt_t (own_sq1_2 en sur x0 x1 x2 x3 x4 x5 x6 x7 b0 h_b0 hc24)), trivial⟩ ?_
    refine wp_retI ok (by decide +kernel) (by decide) (by decide) ?_
    exact ⟨congrArg (fun z => some (Value.int z)) (own_sq1_3 en sur x0 x1 x2 x3 x4 x5 x6 x7 b0 h_b0 hc24), rfl⟩
  · refine wp_run ok hK (B := [(24, .if_icmp .lt 17, false)]) (by decide +kernel) (ps := [Op.if_icmp.holds .lt b0 (194 : Int32) = false]) (pc' := 27) (L' := #[.val ((.ref b)), .val (.int (1 : Int32)), .val (.int en), .val (.int sur), .val (.int b0), .unset, .val (.int (128 : Int32)), .val (.int (191 : Int32)), .unset, .unset, .unset]) (S' := []) rfl ⟨(XT.ii_lt_f hc24), trivial⟩ ?_
    refine wp_run ok hK (B := [(27, .iload 4, false), (29, .sipush 223, false)]) (by decide +kernel) (ps := []) (pc' := 32) (L' := #[.val ((.ref b)), .val (.int (1 : Int32)), .val (.int en), .val (.int sur), .val (.int b0), .unset, .val (.int (128 : Int32)), .val (.int (191 : Int32)), .unset, .unset, .unset]) (S' := [.int (223 : Int32), .int b0]) rfl trivial ?_
    by_cases hc32 : (223 : Int32) < b0
    · refine wp_run ok hK (B := [(32, .if_icmp .gt 9, true)]) (by decide +kernel) (ps := [Op.if_icmp.holds .gt b0 (223 : Int32) = true]) (pc' := 41) (L' := #[.val ((.ref b)), .val (.int (1 : Int32)), .val (.int en), .val (.int sur), .val (.int b0), .unset, .val (.int (128 : Int32)), .val (.int (191 : Int32)), .unset, .unset, .unset]) (S' := []) rfl ⟨(XT.ii_gt_t hc32), trivial⟩ ?_
      refine wp_run ok hK (B := [(41, .iload 4, false), (43, .sipush 224, false)]) (by decide +kernel) (ps := []) (pc' := 46) (L' := #[.val ((.ref b)), .val (.int (1 : Int32)), .val (.int en), .val (.int sur), .val (.int b0), .unset, .val (.int (128 : Int32)), .val (.int (191 : Int32)), .unset, .unset, .unset]) (S' := [.int (224 : Int32), .int b0]) rfl trivial ?_
      by_cases hc46 : b0 < (224 : Int32)
      · refine wp_run ok hK (B := [(46, .if_icmp .lt 57, true)]) (by decide +kernel) (ps := [Op.if_icmp.holds .lt b0 (224 : Int32) = true]) (pc' := 103) (L' := #[.val ((.ref b)), .val (.int (1 : Int32)), .val (.int en), .val (.int sur), .val (.int b0), .unset, .val (.int (128 : Int32)), .val (.int (191 : Int32)), .unset, .unset, .unset]) (S' := []) rfl ⟨(XT.ii_lt_t hc46), trivial⟩ ?_
        refine wp_run ok hK (B := [(103, .iload 4, false), (105, .sipush 240, false), (108, .if_icmp .lt 53, true), (161, .iconst (-1), false)]) (by decide +kernel) (ps := [Op.if_icmp.holds .lt b0 (240 : Int32) = true]) (pc' := 162) (L' := #[.val ((.ref b)), .val (.int (1 : Int32)), .val (.int en), .val (.int sur), .val (.int b0), .unset, .val (.int (128 : Int32)), .val (.int (191 : Int32)), .unset, .unset, .unset]) (S' := [.int (-1 : Int32)]) rfl ⟨(XT.ii_lt_t (own_sq1_4 en sur x0 x1 x2 x3 x4 x5 x6 x7 b0 h_b0 hc24 hc32 hc46)), trivial⟩ ?_
        refine wp_retI ok (by decide +kernel) (by decide) (by decide) ?_
        exact ⟨congrArg (fun z => some (Value.int z)) (own_sq1_5 en sur x0 x1 x2 x3 x4 x5 x6 x7 b0 h_b0 hc24 hc32 hc46), rfl⟩
      · refine wp_run ok hK (B := [(46, .if_icmp .lt 57, false)]) (by decide +kernel) (ps := [Op.if_icmp.holds .lt b0 (224 : Int32) = false]) (pc' := 49) (L' := #[.val ((.ref b)), .val (.int (1 : Int32)), .val (.int en), .val (.int sur), .val (.int b0), .unset, .val (.int (128 : Int32)), .val (.int (191 : Int32)), .unset, .unset, .unset]) (S' := []) rfl ⟨(XT.ii_lt_f hc46), trivial⟩ ?_
        refine wp_run ok hK (B := [(49, .iload 4, false), (51, .sipush 239, false)]) (by decide +kernel) (ps := []) (pc' := 54) (L' := #[.val ((.ref b)), .val (.int (1 : Int32)), .val (.int en), .val (.int sur), .val (.int b0), .unset, .val (.int (128 : Int32)), .val (.int (191 : Int32)), .unset, .unset, .unset]) (S' := [.int (239 : Int32), .int b0]) rfl trivial ?_
        by_cases hc54 : (239 : Int32) < b0
        · refine wp_run ok hK (B := [(54, .if_icmp .gt 49, true)]) (by decide +kernel) (ps := [Op.if_icmp.holds .gt b0 (239 : Int32) = true]) (pc' := 103) (L' := #[.val ((.ref b)), .val (.int (1 : Int32)), .val (.int en), .val (.int sur), .val (.int b0), .unset, .val (.int (128 : Int32)), .val (.int (191 : Int32)), .unset, .unset, .unset]) (S' := []) rfl ⟨(XT.ii_gt_t hc54), trivial⟩ ?_
          refine wp_run ok hK (B := [(103, .iload 4, false), (105, .sipush 240, false)]) (by decide +kernel) (ps := []) (pc' := 108) (L' := #[.val ((.ref b)), .val (.int (1 : Int32)), .val (.int en), .val (.int sur), .val (.int b0), .unset, .val (.int (128 : Int32)), .val (.int (191 : Int32)), .unset, .unset, .unset]) (S' := [.int (240 : Int32), .int b0]) rfl trivial ?_
          by_cases hc108 : b0 < (240 : Int32)
          · refine wp_run ok hK (B := [(108, .if_icmp .lt 53, true)]) (by decide +kernel) (ps := [Op.if_icmp.holds .lt b0 (240 : Int32) = true]) (pc' := 161) (L' := #[.val ((.ref b)), .val (.int (1 : Int32)), .val (.int en), .val (.int sur), .val (.int b0), .unset, .val (.int (128 : Int32)), .val (.int (191 : Int32)), .unset, .unset, .unset]) (S' := []) rfl ⟨(XT.ii_lt_t hc108), trivial⟩ ?_
            refine wp_run ok hK (B := [(161, .iconst (-1), false)]) (by decide +kernel) (ps := []) (pc' := 162) (L' := #[.val ((.ref b)), .val (.int (1 : Int32)), .val (.int en), .val (.int sur), .val (.int b0), .unset, .val (.int (128 : Int32)), .val (.int (191 : Int32)), .unset, .unset, .unset]) (S' := [.int (-1 : Int32)]) rfl trivial ?_
            refine wp_retI ok (by decide +kernel) (by decide) (by decide) ?_
            exact ⟨congrArg (fun z => some (Value.int z)) (own_sq1_6 en sur x0 x1 x2 x3 x4 x5 x6 x7 b0 h_b0 hc24 hc32 hc46 hc54 hc108), rfl⟩
          · refine wp_run ok hK (B := [(108, .if_icmp .lt 53, false)]) (by decide +kernel) (ps := [Op.if_icmp.holds .lt b0 (240 : Int32) = false]) (pc' := 111) (L' := #[.val ((.ref b)), .val (.int (1 : Int32)), .val (.int en), .val (.int sur), .val (.int b0), .unset, .val (.int (128 : Int32)), .val (.int (191 : Int32)), .unset, .unset, .unset]) (S' := []) rfl ⟨(XT.ii_lt_f hc108), trivial⟩ ?_
            refine wp_run ok hK (B := [(111, .iload 4, false), (113, .sipush 244, false)]) (by decide +kernel) (ps := []) (pc' := 116) (L' := #[.val ((.ref b)), .val (.int (1 : Int32)), .val (.int en), .val (.int sur), .val (.int b0), .unset, .val (.int (128 : Int32)), .val (.int (191 : Int32)), .unset, .unset, .unset]) (S' := [.int (244 : Int32), .int b0]) rfl trivial ?_
            by_cases hc116 : (244 : Int32) < b0
            · refine wp_run ok hK (B := [(116, .if_icmp .gt 45, true)]) (by decide +kernel) (ps := [Op.if_icmp.holds .gt b0 (244 : Int32) = true]) (pc' := 161) (L' := #[.val ((.ref b)), .val (.int (1 : Int32)), .val (.int en), .val (.int sur), .val (.int b0), .unset, .val (.int (128 : Int32)), .val (.int (191 : Int32)), .unset, .unset, .unset]) (S' := []) rfl ⟨(XT.ii_gt_t hc116), trivial⟩ ?_
              refine wp_run ok hK (B := [(161, .iconst (-1), false)]) (by decide +kernel) (ps := []) (pc' := 162) (L' := #[.val ((.ref b)), .val (.int (1 : Int32)), .val (.int en), .val (.int sur), .val (.int b0), .unset, .val (.int (128 : Int32)), .val (.int (191 : Int32)), .unset, .unset, .unset]) (S' := [.int (-1 : Int32)]) rfl trivial ?_
              refine wp_retI ok (by decide +kernel) (by decide) (by decide) ?_
              exact ⟨congrArg (fun z => some (Value.int z)) (own_sq1_7 en sur x0 x1 x2 x3 x4 x5 x6 x7 b0 h_b0 hc24 hc32 hc46 hc54 hc108 hc116), rfl⟩
            · refine wp_run ok hK (B := [(116, .if_icmp .gt 45, false)]) (by decide +kernel) (ps := [Op.if_icmp.holds .gt b0 (244 : Int32) = false]) (pc' := 119) (L' := #[.val ((.ref b)), .val (.int (1 : Int32)), .val (.int en), .val (.int sur), .val (.int b0), .unset, .val (.int (128 : Int32)), .val (.int (191 : Int32)), .unset, .unset, .unset]) (S' := []) rfl ⟨(XT.ii_gt_f hc116), trivial⟩ ?_
              refine wp_run ok hK (B := [(119, .iconst 4, false), (120, .istore 5, false), (122, .iload 4, false), (124, .sipush 240, false)]) (by decide +kernel) (ps := []) (pc' := 127) (L' := #[.val ((.ref b)), .val (.int (1 : Int32)), .val (.int en), .val (.int sur), .val (.int b0), .val (.int (4 : Int32)), .val (.int (128 : Int32)), .val (.int (191 : Int32)), .unset, .unset, .unset]) (S' := [.int (240 : Int32), .int b0]) rfl trivial ?_
              have J138_2 : ∀ (s138_0 : Int32) (h_s138_0 : s138_0 = (if b0 = (240 : Int32) then (144 : Int32) else (128 : Int32))), WP X n0 (Q_sq1 Z b en sur x0 x1 x2 x3 x4 x5 x6 x7 h0) h0 0 0 138 #[.val ((.ref b)), .val (.int (1 : Int32)), .val (.int en), .val (.int sur), .val (.int b0), .val (.int (4 : Int32)), .val (.int (128 : Int32)), .val (.int (191 : Int32)), .unset, .unset, .unset] [.int s138_0] := by
                intro s138_0 h_s138_0
                refine wp_run ok hK (B := [(138, .istore 6, false), (140, .iload 4, false), (142, .sipush 244, false)]) (by decide +kernel) (ps := []) (pc' := 145) (L' := #[.val ((.ref b)), .val (.int (1 : Int32)), .val (.int en), .val (.int sur), .val (.int b0), .val (.int (4 : Int32)), .val (.int s138_0), .val (.int (191 : Int32)), .unset, .unset, .unset]) (S' := [.int (244 : Int32), .int b0]) rfl trivial ?_
                have J156_4 : ∀ (s156_0 : Int32) (h_s156_0 : s156_0 = (if b0 = (244 : Int32) then (143 : Int32) else (191 : Int32))), WP X n0 (Q_sq1 Z b en sur x0 x1 x2 x3 x4 x5 x6 x7 h0) h0 0 0 156 #[.val ((.ref b)), .val (.int (1 : Int32)), .val (.int en), .val (.int sur), .val (.int b0), .val (.int (4 : Int32)), .val (.int s138_0), .val (.int (191 : Int32)), .unset, .unset, .unset] [.int s156_0] := by
                  intro s156_0 h_s156_0
                  refine wp_run ok hK (B := [(156, .istore 7, false), (158, .goto 5, false), (163, .iload_n 2, false), (164, .iload_n 1, false), (165, .isub, false), (166, .iload 5, false)]) (by decide +kernel) (ps := []) (pc' := 168) (L' := #[.val ((.ref b)), .val (.int (1 : Int32)), .val (.int en), .val (.int sur), .val (.int b0), .val (.int (4 : Int32)), .val (.int s138_0), .val (.int s156_0), .unset, .unset, .unset]) (S' := [.int (4 : Int32), .int (en - (1 : Int32))]) rfl trivial ?_
                  have J176_6 : ∀ (s176_0 : Int32) (h_s176_0 : s176_0 = (if (en - (1 : Int32)) < (4 : Int32) then (0 : Int32) else (1 : Int32))), WP X n0 (Q_sq1 Z b en sur x0 x1 x2 x3 x4 x5 x6 x7 h0) h0 0 0 176 #[.val ((.ref b)), .val (.int (1 : Int32)), .val (.int en), .val (.int sur), .val (.int b0), .val (.int (4 : Int32)), .val (.int s138_0), .val (.int s156_0), .unset, .unset, .unset] [.int s176_0] := by
                    intro s176_0 h_s176_0
                    refine wp_run ok hK (B := [(176, .istore 8, false), (178, .iconst 1, false), (179, .istore 9, false)]) (by decide +kernel) (ps := []) (pc' := 181) (L' := #[.val ((.ref b)), .val (.int (1 : Int32)), .val (.int en), .val (.int sur), .val (.int b0), .val (.int (4 : Int32)), .val (.int s138_0), .val (.int s156_0), .val (.int s176_0), .val (.int (1 : Int32)), .unset]) (S' := []) rfl trivial ?_
                    refine wp_run ok hK (B := [(181, .iload 8, false)]) (by decide +kernel) (ps := []) (pc' := 183) (L' := #[.val ((.ref b)), .val (.int (1 : Int32)), .val (.int en), .val (.int sur), .val (.int b0), .val (.int (4 : Int32)), .val (.int s138_0), .val (.int s156_0), .val (.int s176_0), .val (.int (1 : Int32)), .unset]) (S' := [.int s176_0]) rfl trivial ?_
                    by_cases hc183 : s176_0 = (0 : Int32)
                    · refine wp_run ok hK (B := [(183, .ifCond .eq 79, true)]) (by decide +kernel) (ps := [Op.ifCond.holds .eq s176_0 = true]) (pc' := 262) (L' := #[.val ((.ref b)), .val (.int (1 : Int32)), .val (.int en), .val (.int sur), .val (.int b0), .val (.int (4 : Int32)), .val (.int s138_0), .val (.int s156_0), .val (.int s176_0), .val (.int (1 : Int32)), .unset]) (S' := []) rfl ⟨(XT.i0_eq_t hc183), trivial⟩ ?_
                      refine wp_run ok hK (B := [(262, .iload 8, false), (264, .ifCond .eq 10, true), (274, .iconst (-1), false)]) (by decide +kernel) (ps := [Op.ifCond.holds .eq s176_0 = true]) (pc' := 275) (L' := #[.val ((.ref b)), .val (.int (1 : Int32)), .val (.int en), .val (.int sur), .val (.int b0), .val (.int (4 : Int32)), .val (.int s138_0), .val (.int s156_0), .val (.int s176_0), .val (.int (1 : Int32)), .unset]) (S' := [.int (-1 : Int32)]) rfl ⟨(XT.i0_eq_t hc183), trivial⟩ ?_
                      refine wp_retI ok (by decide +kernel) (by decide) (by decide) ?_
                      exact ⟨congrArg (fun z => some (Value.int z)) (own_sq1_8 en sur x0 x1 x2 x3 x4 x5 x6 x7 b0 h_b0 hc24 hc32 hc46 hc54 hc108 hc116 s138_0 h_s138_0 s156_0 h_s156_0 s176_0 h_s176_0 hc183), rfl⟩
                    · refine wp_run ok hK (B := [(183, .ifCond .eq 79, false)]) (by decide +kernel) (ps := [Op.ifCond.holds .eq s176_0 = false]) (pc' := 186) (L' := #[.val ((.ref b)), .val (.int (1 : Int32)), .val (.int en), .val (.int sur), .val (.int b0), .val (.int (4 : Int32)), .val (.int s138_0), .val (.int s156_0), .val (.int s176_0), .val (.int (1 : Int32)), .unset]) (S' := []) rfl ⟨(XT.i0_eq_f hc183), trivial⟩ ?_
                      refine wp_run ok hK (B := [(186, .iload 9, false), (188, .iload 5, false), (190, .if_icmp .ge 72, false), (193, .aload_n 0, false), (194, .iload_n 1, false), (195, .iload 9, false), (197, .iadd, false)]) (by decide +kernel) (ps := [Op.if_icmp.holds .ge (1 : Int32) (4 : Int32) = false]) (pc' := 198) (L' := #[.val ((.ref b)), .val (.int (1 : Int32)), .val (.int en), .val (.int sur), .val (.int b0), .val (.int (4 : Int32)), .val (.int s138_0), .val (.int s156_0), .val (.int s176_0), .val (.int (1 : Int32)), .unset]) (S' := [.int (2 : Int32), (.ref b)]) rfl ⟨(XT.ii_ge_f (by decide)), trivial⟩ ?_
                      refine wp_aB ok A_b (i := 2) (v := .int x2) (by rfl) (by decide) rfl (by decide +kernel) ?_
                      refine wp_run ok hK (B := [(199, .sipush 255, false), (202, .iand, false), (203, .istore 10, false)]) (by decide +kernel) (ps := []) (pc' := 205) (L' := #[.val ((.ref b)), .val (.int (1 : Int32)), .val (.int en), .val (.int sur), .val (.int b0), .val (.int (4 : Int32)), .val (.int s138_0), .val (.int s156_0), .val (.int s176_0), .val (.int (1 : Int32)), .val (.int (x2 &&& (255 : Int32)))]) (S' := []) rfl trivial ?_
                      obtain ⟨cb, h_cb⟩ : ∃ z : Int32, z = (x2 &&& (255 : Int32)) := ⟨_, rfl⟩
                      rw [← h_cb]
                      refine wp_run ok hK (B := [(205, .iload 9, false), (207, .iconst 1, false), (208, .if_icmp .ne 25, false), (211, .iload 10, false), (213, .iload 6, false)]) (by decide +kernel) (ps := [Op.if_icmp.holds .ne (1 : Int32) (1 : Int32) = false]) (pc' := 215) (L' := #[.val ((.ref b)), .val (.int (1 : Int32)), .val (.int en), .val (.int sur), .val (.int b0), .val (.int (4 : Int32)), .val (.int s138_0), .val (.int s156_0), .val (.int s176_0), .val (.int (1 : Int32)), .val (.int cb)]) (S' := [.int s138_0, .int cb]) rfl ⟨(XT.ii_ne_f (by decide)), trivial⟩ ?_
                      have J254_9 : ∀ (s254_0 : Int32) (h_s254_0 : s254_0 = (if cb < s138_0 then (0 : Int32) else (if s156_0 < cb then (0 : Int32) else (1 : Int32)))), WP X n0 (Q_sq1 Z b en sur x0 x1 x2 x3 x4 x5 x6 x7 h0) h0 0 0 254 #[.val ((.ref b)), .val (.int (1 : Int32)), .val (.int en), .val (.int sur), .val (.int b0), .val (.int (4 : Int32)), .val (.int s138_0), .val (.int s156_0), .val (.int s176_0), .val (.int (1 : Int32)), .val (.int cb)] [.int s254_0] := by
                        intro s254_0 h_s254_0
                        refine wp_run ok hK (B := [(254, .istore 8, false), (256, .iinc 9 1, false)]) (by decide +kernel) (ps := []) (pc' := 259) (L' := #[.val ((.ref b)), .val (.int (1 : Int32)), .val (.int en), .val (.int sur), .val (.int b0), .val (.int (4 : Int32)), .val (.int s138_0), .val (.int s156_0), .val (.int s254_0), .val (.int (2 : Int32)), .val (.int cb)]) (S' := []) rfl trivial ?_
                        refine wp_run ok hK (B := [(259, .goto (-78), false), (181, .iload 8, false)]) (by decide +kernel) (ps := []) (pc' := 183) (L' := #[.val ((.ref b)), .val (.int (1 : Int32)), .val (.int en), .val (.int sur), .val (.int b0), .val (.int (4 : Int32)), .val (.int s138_0), .val (.int s156_0), .val (.int s254_0), .val (.int (2 : Int32)), .val (.int cb)]) (S' := [.int s254_0]) rfl trivial ?_
                        by_cases hc183_10 : s254_0 = (0 : Int32)
                        · refine wp_run ok hK (B := [(183, .ifCond .eq 79, true)]) (by decide +kernel) (ps := [Op.ifCond.holds .eq s254_0 = true]) (pc' := 262) (L' := #[.val ((.ref b)), .val (.int (1 : Int32)), .val (.int en), .val (.int sur), .val (.int b0), .val (.int (4 : Int32)), .val (.int s138_0), .val (.int s156_0), .val (.int s254_0), .val (.int (2 : Int32)), .val (.int cb)]) (S' := []) rfl ⟨(XT.i0_eq_t hc183_10), trivial⟩ ?_
                          refine wp_run ok hK (B := [(262, .iload 8, false), (264, .ifCond .eq 10, true), (274, .iconst (-1), false)]) (by decide +kernel) (ps := [Op.ifCond.holds .eq s254_0 = true]) (pc' := 275) (L' := #[.val ((.ref b)), .val (.int (1 : Int32)), .val (.int en), .val (.int sur), .val (.int b0), .val (.int (4 : Int32)), .val (.int s138_0), .val (.int s156_0), .val (.int s254_0), .val (.int (2 : Int32)), .val (.int cb)]) (S' := [.int (-1 : Int32)]) rfl ⟨(XT.i0_eq_t hc183_10), trivial⟩ ?_
                          refine wp_retI ok (by decide +kernel) (by decide) (by decide) ?_
                          exact ⟨congrArg (fun z => some (Value.int z)) (own_sq1_9 en sur x0 x1 x2 x3 x4 x5 x6 x7 b0 h_b0 hc24 hc32 hc46 hc54 hc108 hc116 s138_0 h_s138_0 s156_0 h_s156_0 s176_0 h_s176_0 hc183 cb h_cb s254_0 h_s254_0 hc183_10), rfl⟩
                        · refine wp_run ok hK (B := [(183, .ifCond .eq 79, false)]) (by decide +kernel) (ps := [Op.ifCond.holds .eq s254_0 = false]) (pc' := 186) (L' := #[.val ((.ref b)), .val (.int (1 : Int32)), .val (.int en), .val (.int sur), .val (.int b0), .val (.int (4 : Int32)), .val (.int s138_0), .val (.int s156_0), .val (.int s254_0), .val (.int (2 : Int32)), .val (.int cb)]) (S' := []) rfl ⟨(XT.i0_eq_f hc183_10), trivial⟩ ?_
                          refine wp_run ok hK (B := [(186, .iload 9, false), (188, .iload 5, false), (190, .if_icmp .ge 72, false), (193, .aload_n 0, false), (194, .iload_n 1, false), (195, .iload 9, false), (197, .iadd, false)]) (by decide +kernel) (ps := [Op.if_icmp.holds .ge (2 : Int32) (4 : Int32) = false]) (pc' := 198) (L' := #[.val ((.ref b)), .val (.int (1 : Int32)), .val (.int en), .val (.int sur), .val (.int b0), .val (.int (4 : Int32)), .val (.int s138_0), .val (.int s156_0), .val (.int s254_0), .val (.int (2 : Int32)), .val (.int cb)]) (S' := [.int (3 : Int32), (.ref b)]) rfl ⟨(XT.ii_ge_f (by decide)), trivial⟩ ?_
                          refine wp_aB ok A_b (i := 3) (v := .int x3) (by rfl) (by decide) rfl (by decide +kernel) ?_
                          refine wp_run ok hK (B := [(199, .sipush 255, false), (202, .iand, false), (203, .istore 10, false)]) (by decide +kernel) (ps := []) (pc' := 205) (L' := #[.val ((.ref b)), .val (.int (1 : Int32)), .val (.int en), .val (.int sur), .val (.int b0), .val (.int (4 : Int32)), .val (.int s138_0), .val (.int s156_0), .val (.int s254_0), .val (.int (2 : Int32)), .val (.int (x3 &&& (255 : Int32)))]) (S' := []) rfl trivial ?_
                          obtain ⟨cbb, h_cbb⟩ : ∃ z : Int32, z = (x3 &&& (255 : Int32)) := ⟨_, rfl⟩
                          rw [← h_cbb]
                          refine wp_run ok hK (B := [(205, .iload 9, false), (207, .iconst 1, false), (208, .if_icmp .ne 25, true), (233, .iload 10, false), (235, .sipush 128, false)]) (by decide +kernel) (ps := [Op.if_icmp.holds .ne (2 : Int32) (1 : Int32) = true]) (pc' := 238) (L' := #[.val ((.ref b)), .val (.int (1 : Int32)), .val (.int en), .val (.int sur), .val (.int b0), .val (.int (4 : Int32)), .val (.int s138_0), .val (.int s156_0), .val (.int s254_0), .val (.int (2 : Int32)), .val (.int cbb)]) (S' := [.int (128 : Int32), .int cbb]) rfl ⟨(XT.ii_ne_t (by decide)), trivial⟩ ?_
                          have J254_13 : ∀ (s254_0b : Int32) (h_s254_0b : s254_0b = (if cbb < (128 : Int32) then (0 : Int32) else (if (191 : Int32) < cbb then (0 : Int32) else (1 : Int32)))), WP X n0 (Q_sq1 Z b en sur x0 x1 x2 x3 x4 x5 x6 x7 h0) h0 0 0 254 #[.val ((.ref b)), .val (.int (1 : Int32)), .val (.int en), .val (.int sur), .val (.int b0), .val (.int (4 : Int32)), .val (.int s138_0), .val (.int s156_0), .val (.int s254_0), .val (.int (2 : Int32)), .val (.int cbb)] [.int s254_0b] := by
                            intro s254_0b h_s254_0b
                            refine wp_run ok hK (B := [(254, .istore 8, false), (256, .iinc 9 1, false)]) (by decide +kernel) (ps := []) (pc' := 259) (L' := #[.val ((.ref b)), .val (.int (1 : Int32)), .val (.int en), .val (.int sur), .val (.int b0), .val (.int (4 : Int32)), .val (.int s138_0), .val (.int s156_0), .val (.int s254_0b), .val (.int (3 : Int32)), .val (.int cbb)]) (S' := []) rfl trivial ?_
                            refine wp_run ok hK (B := [(259, .goto (-78), false), (181, .iload 8, false)]) (by decide +kernel) (ps := []) (pc' := 183) (L' := #[.val ((.ref b)), .val (.int (1 : Int32)), .val (.int en), .val (.int sur), .val (.int b0), .val (.int (4 : Int32)), .val (.int s138_0), .val (.int s156_0), .val (.int s254_0b), .val (.int (3 : Int32)), .val (.int cbb)]) (S' := [.int s254_0b]) rfl trivial ?_
                            by_cases hc183_14 : s254_0b = (0 : Int32)
                            · refine wp_run ok hK (B := [(183, .ifCond .eq 79, true)]) (by decide +kernel) (ps := [Op.ifCond.holds .eq s254_0b = true]) (pc' := 262) (L' := #[.val ((.ref b)), .val (.int (1 : Int32)), .val (.int en), .val (.int sur), .val (.int b0), .val (.int (4 : Int32)), .val (.int s138_0), .val (.int s156_0), .val (.int s254_0b), .val (.int (3 : Int32)), .val (.int cbb)]) (S' := []) rfl ⟨(XT.i0_eq_t hc183_14), trivial⟩ ?_
                              refine wp_run ok hK (B := [(262, .iload 8, false), (264, .ifCond .eq 10, true), (274, .iconst (-1), false)]) (by decide +kernel) (ps := [Op.ifCond.holds .eq s254_0b = true]) (pc' := 275) (L' := #[.val ((.ref b)), .val (.int (1 : Int32)), .val (.int en), .val (.int sur), .val (.int b0), .val (.int (4 : Int32)), .val (.int s138_0), .val (.int s156_0), .val (.int s254_0b), .val (.int (3 : Int32)), .val (.int cbb)]) (S' := [.int (-1 : Int32)]) rfl ⟨(XT.i0_eq_t hc183_14), trivial⟩ ?_
                              refine wp_retI ok (by decide +kernel) (by decide) (by decide) ?_
                              exact ⟨congrArg (fun z => some (Value.int z)) (own_sq1_10 en sur x0 x1 x2 x3 x4 x5 x6 x7 b0 h_b0 hc24 hc32 hc46 hc54 hc108 hc116 s138_0 h_s138_0 s156_0 h_s156_0 s176_0 h_s176_0 hc183 cb h_cb s254_0 h_s254_0 hc183_10 cbb h_cbb s254_0b h_s254_0b hc183_14), rfl⟩
                            · refine wp_run ok hK (B := [(183, .ifCond .eq 79, false)]) (by decide +kernel) (ps := [Op.ifCond.holds .eq s254_0b = false]) (pc' := 186) (L' := #[.val ((.ref b)), .val (.int (1 : Int32)), .val (.int en), .val (.int sur), .val (.int b0), .val (.int (4 : Int32)), .val (.int s138_0), .val (.int s156_0), .val (.int s254_0b), .val (.int (3 : Int32)), .val (.int cbb)]) (S' := []) rfl ⟨(XT.i0_eq_f hc183_14), trivial⟩ ?_
                              refine wp_run ok hK (B := [(186, .iload 9, false), (188, .iload 5, false), (190, .if_icmp .ge 72, false), (193, .aload_n 0, false), (194, .iload_n 1, false), (195, .iload 9, false), (197, .iadd, false)]) (by decide +kernel) (ps := [Op.if_icmp.holds .ge (3 : Int32) (4 : Int32) = false]) (pc' := 198) (L' := #[.val ((.ref b)), .val (.int (1 : Int32)), .val (.int en), .val (.int sur), .val (.int b0), .val (.int (4 : Int32)), .val (.int s138_0), .val (.int s156_0), .val (.int s254_0b), .val (.int (3 : Int32)), .val (.int cbb)]) (S' := [.int (4 : Int32), (.ref b)]) rfl ⟨(XT.ii_ge_f (by decide)), trivial⟩ ?_
                              refine wp_aB ok A_b (i := 4) (v := .int x4) (by rfl) (by decide) rfl (by decide +kernel) ?_
                              refine wp_run ok hK (B := [(199, .sipush 255, false), (202, .iand, false), (203, .istore 10, false)]) (by decide +kernel) (ps := []) (pc' := 205) (L' := #[.val ((.ref b)), .val (.int (1 : Int32)), .val (.int en), .val (.int sur), .val (.int b0), .val (.int (4 : Int32)), .val (.int s138_0), .val (.int s156_0), .val (.int s254_0b), .val (.int (3 : Int32)), .val (.int (x4 &&& (255 : Int32)))]) (S' := []) rfl trivial ?_
                              obtain ⟨cbbb, h_cbbb⟩ : ∃ z : Int32, z = (x4 &&& (255 : Int32)) := ⟨_, rfl⟩
                              rw [← h_cbbb]
                              refine wp_run ok hK (B := [(205, .iload 9, false), (207, .iconst 1, false), (208, .if_icmp .ne 25, true), (233, .iload 10, false), (235, .sipush 128, false)]) (by decide +kernel) (ps := [Op.if_icmp.holds .ne (3 : Int32) (1 : Int32) = true]) (pc' := 238) (L' := #[.val ((.ref b)), .val (.int (1 : Int32)), .val (.int en), .val (.int sur), .val (.int b0), .val (.int (4 : Int32)), .val (.int s138_0), .val (.int s156_0), .val (.int s254_0b), .val (.int (3 : Int32)), .val (.int cbbb)]) (S' := [.int (128 : Int32), .int cbbb]) rfl ⟨(XT.ii_ne_t (by decide)), trivial⟩ ?_
                              have J254_17 : ∀ (s254_0bb : Int32) (h_s254_0bb : s254_0bb = (if cbbb < (128 : Int32) then (0 : Int32) else (if (191 : Int32) < cbbb then (0 : Int32) else (1 : Int32)))), WP X n0 (Q_sq1 Z b en sur x0 x1 x2 x3 x4 x5 x6 x7 h0) h0 0 0 254 #[.val ((.ref b)), .val (.int (1 : Int32)), .val (.int en), .val (.int sur), .val (.int b0), .val (.int (4 : Int32)), .val (.int s138_0), .val (.int s156_0), .val (.int s254_0b), .val (.int (3 : Int32)), .val (.int cbbb)] [.int s254_0bb] := by
                                intro s254_0bb h_s254_0bb
                                refine wp_run ok hK (B := [(254, .istore 8, false), (256, .iinc 9 1, false)]) (by decide +kernel) (ps := []) (pc' := 259) (L' := #[.val ((.ref b)), .val (.int (1 : Int32)), .val (.int en), .val (.int sur), .val (.int b0), .val (.int (4 : Int32)), .val (.int s138_0), .val (.int s156_0), .val (.int s254_0bb), .val (.int (4 : Int32)), .val (.int cbbb)]) (S' := []) rfl trivial ?_
                                refine wp_run ok hK (B := [(259, .goto (-78), false), (181, .iload 8, false)]) (by decide +kernel) (ps := []) (pc' := 183) (L' := #[.val ((.ref b)), .val (.int (1 : Int32)), .val (.int en), .val (.int sur), .val (.int b0), .val (.int (4 : Int32)), .val (.int s138_0), .val (.int s156_0), .val (.int s254_0bb), .val (.int (4 : Int32)), .val (.int cbbb)]) (S' := [.int s254_0bb]) rfl trivial ?_
                                by_cases hc183_18 : s254_0bb = (0 : Int32)
                                · refine wp_run ok hK (B := [(183, .ifCond .eq 79, true)]) (by decide +kernel) (ps := [Op.ifCond.holds .eq s254_0bb = true]) (pc' := 262) (L' := #[.val ((.ref b)), .val (.int (1 : Int32)), .val (.int en), .val (.int sur), .val (.int b0), .val (.int (4 : Int32)), .val (.int s138_0), .val (.int s156_0), .val (.int s254_0bb), .val (.int (4 : Int32)), .val (.int cbbb)]) (S' := []) rfl ⟨(XT.i0_eq_t hc183_18), trivial⟩ ?_
                                  refine wp_run ok hK (B := [(262, .iload 8, false), (264, .ifCond .eq 10, true), (274, .iconst (-1), false)]) (by decide +kernel) (ps := [Op.ifCond.holds .eq s254_0bb = true]) (pc' := 275) (L' := #[.val ((.ref b)), .val (.int (1 : Int32)), .val (.int en), .val (.int sur), .val (.int b0), .val (.int (4 : Int32)), .val (.int s138_0), .val (.int s156_0), .val (.int s254_0bb), .val (.int (4 : Int32)), .val (.int cbbb)]) (S' := [.int (-1 : Int32)]) rfl ⟨(XT.i0_eq_t hc183_18), trivial⟩ ?_
                                  refine wp_retI ok (by decide +kernel) (by decide) (by decide) ?_
                                  exact ⟨congrArg (fun z => some (Value.int z)) (own_sq1_11 en sur x0 x1 x2 x3 x4 x5 x6 x7 b0 h_b0 hc24 hc32 hc46 hc54 hc108 hc116 s138_0 h_s138_0 s156_0 h_s156_0 s176_0 h_s176_0 hc183 cb h_cb s254_0 h_s254_0 hc183_10 cbb h_cbb s254_0b h_s254_0b hc183_14 cbbb h_cbbb s254_0bb h_s254_0bb hc183_18), rfl⟩
                                · refine wp_run ok hK (B := [(183, .ifCond .eq 79, false)]) (by decide +kernel) (ps := [Op.ifCond.holds .eq s254_0bb = false]) (pc' := 186) (L' := #[.val ((.ref b)), .val (.int (1 : Int32)), .val (.int en), .val (.int sur), .val (.int b0), .val (.int (4 : Int32)), .val (.int s138_0), .val (.int s156_0), .val (.int s254_0bb), .val (.int (4 : Int32)), .val (.int cbbb)]) (S' := []) rfl ⟨(XT.i0_eq_f hc183_18), trivial⟩ ?_
                                  refine wp_run ok hK (B := [(186, .iload 9, false), (188, .iload 5, false), (190, .if_icmp .ge 72, true), (262, .iload 8, false), (264, .ifCond .eq 10, false), (267, .iload_n 1, false), (268, .iload 5, false), (270, .iadd, false), (271, .goto 4, false)]) (by decide +kernel) (ps := [Op.if_icmp.holds .ge (4 : Int32) (4 : Int32) = true, Op.ifCond.holds .eq s254_0bb = false]) (pc' := 275) (L' := #[.val ((.ref b)), .val (.int (1 : Int32)), .val (.int en), .val (.int sur), .val (.int b0), .val (.int (4 : Int32)), .val (.int s138_0), .val (.int s156_0), .val (.int s254_0bb), .val (.int (4 : Int32)), .val (.int cbbb)]) (S' := [.int (5 : Int32)]) rfl ⟨(XT.ii_ge_t (by decide)), (XT.i0_eq_f hc183_18), trivial⟩ ?_
                                  refine wp_retI ok (by decide +kernel) (by decide) (by decide) ?_
                                  exact ⟨congrArg (fun z => some (Value.int z)) (own_sq1_12 en sur x0 x1 x2 x3 x4 x5 x6 x7 b0 h_b0 hc24 hc32 hc46 hc54 hc108 hc116 s138_0 h_s138_0 s156_0 h_s156_0 s176_0 h_s176_0 hc183 cb h_cb s254_0 h_s254_0 hc183_10 cbb h_cbb s254_0b h_s254_0b hc183_14 cbbb h_cbbb s254_0bb h_s254_0bb hc183_18), rfl⟩
                              by_cases c15 : cbbb < (128 : Int32)
                              · refine wp_run ok hK (B := [(238, .if_icmp .lt 15, true), (253, .iconst 0, false)]) (by decide +kernel) (ps := [Op.if_icmp.holds .lt cbbb (128 : Int32) = true]) (pc' := 254) (L' := #[.val ((.ref b)), .val (.int (1 : Int32)), .val (.int en), .val (.int sur), .val (.int b0), .val (.int (4 : Int32)), .val (.int s138_0), .val (.int s156_0), .val (.int s254_0b), .val (.int (3 : Int32)), .val (.int cbbb)]) (S' := [.int (0 : Int32)]) rfl ⟨(XT.ii_lt_t c15), trivial⟩ ?_
                                exact J254_17 _ (by rw [if_pos c15])
                              · by_cases c16 : (191 : Int32) < cbbb
                                · refine wp_run ok hK (B := [(238, .if_icmp .lt 15, false), (241, .iload 10, false), (243, .sipush 191, false), (246, .if_icmp .gt 7, true), (253, .iconst 0, false)]) (by decide +kernel) (ps := [Op.if_icmp.holds .lt cbbb (128 : Int32) = false, Op.if_icmp.holds .gt cbbb (191 : Int32) = true]) (pc' := 254) (L' := #[.val ((.ref b)), .val (.int (1 : Int32)), .val (.int en), .val (.int sur), .val (.int b0), .val (.int (4 : Int32)), .val (.int s138_0), .val (.int s156_0), .val (.int s254_0b), .val (.int (3 : Int32)), .val (.int cbbb)]) (S' := [.int (0 : Int32)]) rfl ⟨(XT.ii_lt_f c15), (XT.ii_gt_t c16), trivial⟩ ?_
                                  exact J254_17 _ (by rw [if_neg c15, if_pos c16])
                                · refine wp_run ok hK (B := [(238, .if_icmp .lt 15, false), (241, .iload 10, false), (243, .sipush 191, false), (246, .if_icmp .gt 7, false), (249, .iconst 1, false), (250, .goto 4, false)]) (by decide +kernel) (ps := [Op.if_icmp.holds .lt cbbb (128 : Int32) = false, Op.if_icmp.holds .gt cbbb (191 : Int32) = false]) (pc' := 254) (L' := #[.val ((.ref b)), .val (.int (1 : Int32)), .val (.int en), .val (.int sur), .val (.int b0), .val (.int (4 : Int32)), .val (.int s138_0), .val (.int s156_0), .val (.int s254_0b), .val (.int (3 : Int32)), .val (.int cbbb)]) (S' := [.int (1 : Int32)]) rfl ⟨(XT.ii_lt_f c15), (XT.ii_gt_f c16), trivial⟩ ?_
                                  exact J254_17 _ (by rw [if_neg c15, if_neg c16])
                          by_cases c11 : cbb < (128 : Int32)
                          · refine wp_run ok hK (B := [(238, .if_icmp .lt 15, true), (253, .iconst 0, false)]) (by decide +kernel) (ps := [Op.if_icmp.holds .lt cbb (128 : Int32) = true]) (pc' := 254) (L' := #[.val ((.ref b)), .val (.int (1 : Int32)), .val (.int en), .val (.int sur), .val (.int b0), .val (.int (4 : Int32)), .val (.int s138_0), .val (.int s156_0), .val (.int s254_0), .val (.int (2 : Int32)), .val (.int cbb)]) (S' := [.int (0 : Int32)]) rfl ⟨(XT.ii_lt_t c11), trivial⟩ ?_
                            exact J254_13 _ (by rw [if_pos c11])
                          · by_cases c12 : (191 : Int32) < cbb
                            · refine wp_run ok hK (B := [(238, .if_icmp .lt 15, false), (241, .iload 10, false), (243, .sipush 191, false), (246, .if_icmp .gt 7, true), (253, .iconst 0, false)]) (by decide +kernel) (ps := [Op.if_icmp.holds .lt cbb (128 : Int32) = false, Op.if_icmp.holds .gt cbb (191 : Int32) = true]) (pc' := 254) (L' := #[.val ((.ref b)), .val (.int (1 : Int32)), .val (.int en), .val (.int sur), .val (.int b0), .val (.int (4 : Int32)), .val (.int s138_0), .val (.int s156_0), .val (.int s254_0), .val (.int (2 : Int32)), .val (.int cbb)]) (S' := [.int (0 : Int32)]) rfl ⟨(XT.ii_lt_f c11), (XT.ii_gt_t c12), trivial⟩ ?_
                              exact J254_13 _ (by rw [if_neg c11, if_pos c12])
                            · refine wp_run ok hK (B := [(238, .if_icmp .lt 15, false), (241, .iload 10, false), (243, .sipush 191, false), (246, .if_icmp .gt 7, false), (249, .iconst 1, false), (250, .goto 4, false)]) (by decide +kernel) (ps := [Op.if_icmp.holds .lt cbb (128 : Int32) = false, Op.if_icmp.holds .gt cbb (191 : Int32) = false]) (pc' := 254) (L' := #[.val ((.ref b)), .val (.int (1 : Int32)), .val (.int en), .val (.int sur), .val (.int b0), .val (.int (4 : Int32)), .val (.int s138_0), .val (.int s156_0), .val (.int s254_0), .val (.int (2 : Int32)), .val (.int cbb)]) (S' := [.int (1 : Int32)]) rfl ⟨(XT.ii_lt_f c11), (XT.ii_gt_f c12), trivial⟩ ?_
                              exact J254_13 _ (by rw [if_neg c11, if_neg c12])
                      by_cases c7 : cb < s138_0
                      · refine wp_run ok hK (B := [(215, .if_icmp .lt 14, true), (229, .iconst 0, false), (230, .goto 24, false)]) (by decide +kernel) (ps := [Op.if_icmp.holds .lt cb s138_0 = true]) (pc' := 254) (L' := #[.val ((.ref b)), .val (.int (1 : Int32)), .val (.int en), .val (.int sur), .val (.int b0), .val (.int (4 : Int32)), .val (.int s138_0), .val (.int s156_0), .val (.int s176_0), .val (.int (1 : Int32)), .val (.int cb)]) (S' := [.int (0 : Int32)]) rfl ⟨(XT.ii_lt_t c7), trivial⟩ ?_
                        exact J254_9 _ (by rw [if_pos c7])
                      · by_cases c8 : s156_0 < cb
                        · refine wp_run ok hK (B := [(215, .if_icmp .lt 14, false), (218, .iload 10, false), (220, .iload 7, false), (222, .if_icmp .gt 7, true), (229, .iconst 0, false), (230, .goto 24, false)]) (by decide +kernel) (ps := [Op.if_icmp.holds .lt cb s138_0 = false, Op.if_icmp.holds .gt cb s156_0 = true]) (pc' := 254) (L' := #[.val ((.ref b)), .val (.int (1 : Int32)), .val (.int en), .val (.int sur), .val (.int b0), .val (.int (4 : Int32)), .val (.int s138_0), .val (.int s156_0), .val (.int s176_0), .val (.int (1 : Int32)), .val (.int cb)]) (S' := [.int (0 : Int32)]) rfl ⟨(XT.ii_lt_f c7), (XT.ii_gt_t c8), trivial⟩ ?_
                          exact J254_9 _ (by rw [if_neg c7, if_pos c8])
                        · refine wp_run ok hK (B := [(215, .if_icmp .lt 14, false), (218, .iload 10, false), (220, .iload 7, false), (222, .if_icmp .gt 7, false), (225, .iconst 1, false), (226, .goto 28, false)]) (by decide +kernel) (ps := [Op.if_icmp.holds .lt cb s138_0 = false, Op.if_icmp.holds .gt cb s156_0 = false]) (pc' := 254) (L' := #[.val ((.ref b)), .val (.int (1 : Int32)), .val (.int en), .val (.int sur), .val (.int b0), .val (.int (4 : Int32)), .val (.int s138_0), .val (.int s156_0), .val (.int s176_0), .val (.int (1 : Int32)), .val (.int cb)]) (S' := [.int (1 : Int32)]) rfl ⟨(XT.ii_lt_f c7), (XT.ii_gt_f c8), trivial⟩ ?_
                          exact J254_9 _ (by rw [if_neg c7, if_neg c8])
                  by_cases c5 : (en - (1 : Int32)) < (4 : Int32)
                  · refine wp_run ok hK (B := [(168, .if_icmp .lt 7, true), (175, .iconst 0, false)]) (by decide +kernel) (ps := [Op.if_icmp.holds .lt (en - (1 : Int32)) (4 : Int32) = true]) (pc' := 176) (L' := #[.val ((.ref b)), .val (.int (1 : Int32)), .val (.int en), .val (.int sur), .val (.int b0), .val (.int (4 : Int32)), .val (.int s138_0), .val (.int s156_0), .unset, .unset, .unset]) (S' := [.int (0 : Int32)]) rfl ⟨(XT.ii_lt_t c5), trivial⟩ ?_
                    exact J176_6 _ (by rw [if_pos c5])
                  · refine wp_run ok hK (B := [(168, .if_icmp .lt 7, false), (171, .iconst 1, false), (172, .goto 4, false)]) (by decide +kernel) (ps := [Op.if_icmp.holds .lt (en - (1 : Int32)) (4 : Int32) = false]) (pc' := 176) (L' := #[.val ((.ref b)), .val (.int (1 : Int32)), .val (.int en), .val (.int sur), .val (.int b0), .val (.int (4 : Int32)), .val (.int s138_0), .val (.int s156_0), .unset, .unset, .unset]) (S' := [.int (1 : Int32)]) rfl ⟨(XT.ii_lt_f c5), trivial⟩ ?_
                    exact J176_6 _ (by rw [if_neg c5])
                by_cases c3 : b0 = (244 : Int32)
                · refine wp_run ok hK (B := [(145, .if_icmp .ne 9, false), (148, .sipush 143, false), (151, .goto 5, false)]) (by decide +kernel) (ps := [Op.if_icmp.holds .ne b0 (244 : Int32) = false]) (pc' := 156) (L' := #[.val ((.ref b)), .val (.int (1 : Int32)), .val (.int en), .val (.int sur), .val (.int b0), .val (.int (4 : Int32)), .val (.int s138_0), .val (.int (191 : Int32)), .unset, .unset, .unset]) (S' := [.int (143 : Int32)]) rfl ⟨(XT.ii_ne_f c3), trivial⟩ ?_
                  exact J156_4 _ (by rw [if_pos c3])
                · refine wp_run ok hK (B := [(145, .if_icmp .ne 9, true), (154, .iload 7, false)]) (by decide +kernel) (ps := [Op.if_icmp.holds .ne b0 (244 : Int32) = true]) (pc' := 156) (L' := #[.val ((.ref b)), .val (.int (1 : Int32)), .val (.int en), .val (.int sur), .val (.int b0), .val (.int (4 : Int32)), .val (.int s138_0), .val (.int (191 : Int32)), .unset, .unset, .unset]) (S' := [.int (191 : Int32)]) rfl ⟨(XT.ii_ne_t c3), trivial⟩ ?_
                  exact J156_4 _ (by rw [if_neg c3])
              by_cases c1 : b0 = (240 : Int32)
              · refine wp_run ok hK (B := [(127, .if_icmp .ne 9, false), (130, .sipush 144, false), (133, .goto 5, false)]) (by decide +kernel) (ps := [Op.if_icmp.holds .ne b0 (240 : Int32) = false]) (pc' := 138) (L' := #[.val ((.ref b)), .val (.int (1 : Int32)), .val (.int en), .val (.int sur), .val (.int b0), .val (.int (4 : Int32)), .val (.int (128 : Int32)), .val (.int (191 : Int32)), .unset, .unset, .unset]) (S' := [.int (144 : Int32)]) rfl ⟨(XT.ii_ne_f c1), trivial⟩ ?_
                exact J138_2 _ (by rw [if_pos c1])
              · refine wp_run ok hK (B := [(127, .if_icmp .ne 9, true), (136, .iload 6, false)]) (by decide +kernel) (ps := [Op.if_icmp.holds .ne b0 (240 : Int32) = true]) (pc' := 138) (L' := #[.val ((.ref b)), .val (.int (1 : Int32)), .val (.int en), .val (.int sur), .val (.int b0), .val (.int (4 : Int32)), .val (.int (128 : Int32)), .val (.int (191 : Int32)), .unset, .unset, .unset]) (S' := [.int (128 : Int32)]) rfl ⟨(XT.ii_ne_t c1), trivial⟩ ?_
                exact J138_2 _ (by rw [if_neg c1])
        · refine wp_run ok hK (B := [(54, .if_icmp .gt 49, false)]) (by decide +kernel) (ps := [Op.if_icmp.holds .gt b0 (239 : Int32) = false]) (pc' := 57) (L' := #[.val ((.ref b)), .val (.int (1 : Int32)), .val (.int en), .val (.int sur), .val (.int b0), .unset, .val (.int (128 : Int32)), .val (.int (191 : Int32)), .unset, .unset, .unset]) (S' := []) rfl ⟨(XT.ii_gt_f hc54), trivial⟩ ?_
          refine wp_run ok hK (B := [(57, .iconst 3, false), (58, .istore 5, false), (60, .iload 4, false), (62, .sipush 224, false)]) (by decide +kernel) (ps := []) (pc' := 65) (L' := #[.val ((.ref b)), .val (.int (1 : Int32)), .val (.int en), .val (.int sur), .val (.int b0), .val (.int (3 : Int32)), .val (.int (128 : Int32)), .val (.int (191 : Int32)), .unset, .unset, .unset]) (S' := [.int (224 : Int32), .int b0]) rfl trivial ?_
          have J76_20 : ∀ (s76_0 : Int32) (h_s76_0 : s76_0 = (if b0 = (224 : Int32) then (160 : Int32) else (128 : Int32))), WP X n0 (Q_sq1 Z b en sur x0 x1 x2 x3 x4 x5 x6 x7 h0) h0 0 0 76 #[.val ((.ref b)), .val (.int (1 : Int32)), .val (.int en), .val (.int sur), .val (.int b0), .val (.int (3 : Int32)), .val (.int (128 : Int32)), .val (.int (191 : Int32)), .unset, .unset, .unset] [.int s76_0] := by
            intro s76_0 h_s76_0
            refine wp_run ok hK (B := [(76, .istore 6, false), (78, .iload 4, false), (80, .sipush 237, false)]) (by decide +kernel) (ps := []) (pc' := 83) (L' := #[.val ((.ref b)), .val (.int (1 : Int32)), .val (.int en), .val (.int sur), .val (.int b0), .val (.int (3 : Int32)), .val (.int s76_0), .val (.int (191 : Int32)), .unset, .unset, .unset]) (S' := [.int (237 : Int32), .int b0]) rfl trivial ?_
            have J98_23 : ∀ (s98_0 : Int32) (h_s98_0 : s98_0 = (if b0 = (237 : Int32) then (if sur = (0 : Int32) then (159 : Int32) else (191 : Int32)) else (191 : Int32))), WP X n0 (Q_sq1 Z b en sur x0 x1 x2 x3 x4 x5 x6 x7 h0) h0 0 0 98 #[.val ((.ref b)), .val (.int (1 : Int32)), .val (.int en), .val (.int sur), .val (.int b0), .val (.int (3 : Int32)), .val (.int s76_0), .val (.int (191 : Int32)), .unset, .unset, .unset] [.int s98_0] := by
              intro s98_0 h_s98_0
              refine wp_run ok hK (B := [(98, .istore 7, false), (100, .goto 63, false), (163, .iload_n 2, false), (164, .iload_n 1, false), (165, .isub, false), (166, .iload 5, false)]) (by decide +kernel) (ps := []) (pc' := 168) (L' := #[.val ((.ref b)), .val (.int (1 : Int32)), .val (.int en), .val (.int sur), .val (.int b0), .val (.int (3 : Int32)), .val (.int s76_0), .val (.int s98_0), .unset, .unset, .unset]) (S' := [.int (3 : Int32), .int (en - (1 : Int32))]) rfl trivial ?_
              have J176_25 : ∀ (s176_0 : Int32) (h_s176_0 : s176_0 = (if (en - (1 : Int32)) < (3 : Int32) then (0 : Int32) else (1 : Int32))), WP X n0 (Q_sq1 Z b en sur x0 x1 x2 x3 x4 x5 x6 x7 h0) h0 0 0 176 #[.val ((.ref b)), .val (.int (1 : Int32)), .val (.int en), .val (.int sur), .val (.int b0), .val (.int (3 : Int32)), .val (.int s76_0), .val (.int s98_0), .unset, .unset, .unset] [.int s176_0] := by
                intro s176_0 h_s176_0
                refine wp_run ok hK (B := [(176, .istore 8, false), (178, .iconst 1, false), (179, .istore 9, false)]) (by decide +kernel) (ps := []) (pc' := 181) (L' := #[.val ((.ref b)), .val (.int (1 : Int32)), .val (.int en), .val (.int sur), .val (.int b0), .val (.int (3 : Int32)), .val (.int s76_0), .val (.int s98_0), .val (.int s176_0), .val (.int (1 : Int32)), .unset]) (S' := []) rfl trivial ?_
                refine wp_run ok hK (B := [(181, .iload 8, false)]) (by decide +kernel) (ps := []) (pc' := 183) (L' := #[.val ((.ref b)), .val (.int (1 : Int32)), .val (.int en), .val (.int sur), .val (.int b0), .val (.int (3 : Int32)), .val (.int s76_0), .val (.int s98_0), .val (.int s176_0), .val (.int (1 : Int32)), .unset]) (S' := [.int s176_0]) rfl trivial ?_
                by_cases hc183 : s176_0 = (0 : Int32)
                · refine wp_run ok hK (B := [(183, .ifCond .eq 79, true)]) (by decide +kernel) (ps := [Op.ifCond.holds .eq s176_0 = true]) (pc' := 262) (L' := #[.val ((.ref b)), .val (.int (1 : Int32)), .val (.int en), .val (.int sur), .val (.int b0), .val (.int (3 : Int32)), .val (.int s76_0), .val (.int s98_0), .val (.int s176_0), .val (.int (1 : Int32)), .unset]) (S' := []) rfl ⟨(XT.i0_eq_t hc183), trivial⟩ ?_
                  refine wp_run ok hK (B := [(262, .iload 8, false), (264, .ifCond .eq 10, true), (274, .iconst (-1), false)]) (by decide +kernel) (ps := [Op.ifCond.holds .eq s176_0 = true]) (pc' := 275) (L' := #[.val ((.ref b)), .val (.int (1 : Int32)), .val (.int en), .val (.int sur), .val (.int b0), .val (.int (3 : Int32)), .val (.int s76_0), .val (.int s98_0), .val (.int s176_0), .val (.int (1 : Int32)), .unset]) (S' := [.int (-1 : Int32)]) rfl ⟨(XT.i0_eq_t hc183), trivial⟩ ?_
                  refine wp_retI ok (by decide +kernel) (by decide) (by decide) ?_
                  exact ⟨congrArg (fun z => some (Value.int z)) (own_sq1_13 en sur x0 x1 x2 x3 x4 x5 x6 x7 b0 h_b0 hc24 hc32 hc46 hc54 s76_0 h_s76_0 s98_0 h_s98_0 s176_0 h_s176_0 hc183), rfl⟩
                · refine wp_run ok hK (B := [(183, .ifCond .eq 79, false)]) (by decide +kernel) (ps := [Op.ifCond.holds .eq s176_0 = false]) (pc' := 186) (L' := #[.val ((.ref b)), .val (.int (1 : Int32)), .val (.int en), .val (.int sur), .val (.int b0), .val (.int (3 : Int32)), .val (.int s76_0), .val (.int s98_0), .val (.int s176_0), .val (.int (1 : Int32)), .unset]) (S' := []) rfl ⟨(XT.i0_eq_f hc183), trivial⟩ ?_
                  refine wp_run ok hK (B := [(186, .iload 9, false), (188, .iload 5, false), (190, .if_icmp .ge 72, false), (193, .aload_n 0, false), (194, .iload_n 1, false), (195, .iload 9, false), (197, .iadd, false)]) (by decide +kernel) (ps := [Op.if_icmp.holds .ge (1 : Int32) (3 : Int32) = false]) (pc' := 198) (L' := #[.val ((.ref b)), .val (.int (1 : Int32)), .val (.int en), .val (.int sur), .val (.int b0), .val (.int (3 : Int32)), .val (.int s76_0), .val (.int s98_0), .val (.int s176_0), .val (.int (1 : Int32)), .unset]) (S' := [.int (2 : Int32), (.ref b)]) rfl ⟨(XT.ii_ge_f (by decide)), trivial⟩ ?_
                  refine wp_aB ok A_b (i := 2) (v := .int x2) (by rfl) (by decide) rfl (by decide +kernel) ?_
                  refine wp_run ok hK (B := [(199, .sipush 255, false), (202, .iand, false), (203, .istore 10, false)]) (by decide +kernel) (ps := []) (pc' := 205) (L' := #[.val ((.ref b)), .val (.int (1 : Int32)), .val (.int en), .val (.int sur), .val (.int b0), .val (.int (3 : Int32)), .val (.int s76_0), .val (.int s98_0), .val (.int s176_0), .val (.int (1 : Int32)), .val (.int (x2 &&& (255 : Int32)))]) (S' := []) rfl trivial ?_
                  obtain ⟨cb, h_cb⟩ : ∃ z : Int32, z = (x2 &&& (255 : Int32)) := ⟨_, rfl⟩
                  rw [← h_cb]
                  refine wp_run ok hK (B := [(205, .iload 9, false), (207, .iconst 1, false), (208, .if_icmp .ne 25, false), (211, .iload 10, false), (213, .iload 6, false)]) (by decide +kernel) (ps := [Op.if_icmp.holds .ne (1 : Int32) (1 : Int32) = false]) (pc' := 215) (L' := #[.val ((.ref b)), .val (.int (1 : Int32)), .val (.int en), .val (.int sur), .val (.int b0), .val (.int (3 : Int32)), .val (.int s76_0), .val (.int s98_0), .val (.int s176_0), .val (.int (1 : Int32)), .val (.int cb)]) (S' := [.int s76_0, .int cb]) rfl ⟨(XT.ii_ne_f (by decide)), trivial⟩ ?_
                  have J254_28 : ∀ (s254_0 : Int32) (h_s254_0 : s254_0 = (if cb < s76_0 then (0 : Int32) else (if s98_0 < cb then (0 : Int32) else (1 : Int32)))), WP X n0 (Q_sq1 Z b en sur x0 x1 x2 x3 x4 x5 x6 x7 h0) h0 0 0 254 #[.val ((.ref b)), .val (.int (1 : Int32)), .val (.int en), .val (.int sur), .val (.int b0), .val (.int (3 : Int32)), .val (.int s76_0), .val (.int s98_0), .val (.int s176_0), .val (.int (1 : Int32)), .val (.int cb)] [.int s254_0] := by
                    intro s254_0 h_s254_0
                    refine wp_run ok hK (B := [(254, .istore 8, false), (256, .iinc 9 1, false)]) (by decide +kernel) (ps := []) (pc' := 259) (L' := #[.val ((.ref b)), .val (.int (1 : Int32)), .val (.int en), .val (.int sur), .val (.int b0), .val (.int (3 : Int32)), .val (.int s76_0), .val (.int s98_0), .val (.int s254_0), .val (.int (2 : Int32)), .val (.int cb)]) (S' := []) rfl trivial ?_
                    refine wp_run ok hK (B := [(259, .goto (-78), false), (181, .iload 8, false)]) (by decide +kernel) (ps := []) (pc' := 183) (L' := #[.val ((.ref b)), .val (.int (1 : Int32)), .val (.int en), .val (.int sur), .val (.int b0), .val (.int (3 : Int32)), .val (.int s76_0), .val (.int s98_0), .val (.int s254_0), .val (.int (2 : Int32)), .val (.int cb)]) (S' := [.int s254_0]) rfl trivial ?_
                    by_cases hc183_29 : s254_0 = (0 : Int32)
                    · refine wp_run ok hK (B := [(183, .ifCond .eq 79, true)]) (by decide +kernel) (ps := [Op.ifCond.holds .eq s254_0 = true]) (pc' := 262) (L' := #[.val ((.ref b)), .val (.int (1 : Int32)), .val (.int en), .val (.int sur), .val (.int b0), .val (.int (3 : Int32)), .val (.int s76_0), .val (.int s98_0), .val (.int s254_0), .val (.int (2 : Int32)), .val (.int cb)]) (S' := []) rfl ⟨(XT.i0_eq_t hc183_29), trivial⟩ ?_
                      refine wp_run ok hK (B := [(262, .iload 8, false), (264, .ifCond .eq 10, true), (274, .iconst (-1), false)]) (by decide +kernel) (ps := [Op.ifCond.holds .eq s254_0 = true]) (pc' := 275) (L' := #[.val ((.ref b)), .val (.int (1 : Int32)), .val (.int en), .val (.int sur), .val (.int b0), .val (.int (3 : Int32)), .val (.int s76_0), .val (.int s98_0), .val (.int s254_0), .val (.int (2 : Int32)), .val (.int cb)]) (S' := [.int (-1 : Int32)]) rfl ⟨(XT.i0_eq_t hc183_29), trivial⟩ ?_
                      refine wp_retI ok (by decide +kernel) (by decide) (by decide) ?_
                      exact ⟨congrArg (fun z => some (Value.int z)) (own_sq1_14 en sur x0 x1 x2 x3 x4 x5 x6 x7 b0 h_b0 hc24 hc32 hc46 hc54 s76_0 h_s76_0 s98_0 h_s98_0 s176_0 h_s176_0 hc183 cb h_cb s254_0 h_s254_0 hc183_29), rfl⟩
                    · refine wp_run ok hK (B := [(183, .ifCond .eq 79, false)]) (by decide +kernel) (ps := [Op.ifCond.holds .eq s254_0 = false]) (pc' := 186) (L' := #[.val ((.ref b)), .val (.int (1 : Int32)), .val (.int en), .val (.int sur), .val (.int b0), .val (.int (3 : Int32)), .val (.int s76_0), .val (.int s98_0), .val (.int s254_0), .val (.int (2 : Int32)), .val (.int cb)]) (S' := []) rfl ⟨(XT.i0_eq_f hc183_29), trivial⟩ ?_
                      refine wp_run ok hK (B := [(186, .iload 9, false), (188, .iload 5, false), (190, .if_icmp .ge 72, false), (193, .aload_n 0, false), (194, .iload_n 1, false), (195, .iload 9, false), (197, .iadd, false)]) (by decide +kernel) (ps := [Op.if_icmp.holds .ge (2 : Int32) (3 : Int32) = false]) (pc' := 198) (L' := #[.val ((.ref b)), .val (.int (1 : Int32)), .val (.int en), .val (.int sur), .val (.int b0), .val (.int (3 : Int32)), .val (.int s76_0), .val (.int s98_0), .val (.int s254_0), .val (.int (2 : Int32)), .val (.int cb)]) (S' := [.int (3 : Int32), (.ref b)]) rfl ⟨(XT.ii_ge_f (by decide)), trivial⟩ ?_
                      refine wp_aB ok A_b (i := 3) (v := .int x3) (by rfl) (by decide) rfl (by decide +kernel) ?_
                      refine wp_run ok hK (B := [(199, .sipush 255, false), (202, .iand, false), (203, .istore 10, false)]) (by decide +kernel) (ps := []) (pc' := 205) (L' := #[.val ((.ref b)), .val (.int (1 : Int32)), .val (.int en), .val (.int sur), .val (.int b0), .val (.int (3 : Int32)), .val (.int s76_0), .val (.int s98_0), .val (.int s254_0), .val (.int (2 : Int32)), .val (.int (x3 &&& (255 : Int32)))]) (S' := []) rfl trivial ?_
                      obtain ⟨cbb, h_cbb⟩ : ∃ z : Int32, z = (x3 &&& (255 : Int32)) := ⟨_, rfl⟩
                      rw [← h_cbb]
                      refine wp_run ok hK (B := [(205, .iload 9, false), (207, .iconst 1, false), (208, .if_icmp .ne 25, true), (233, .iload 10, false), (235, .sipush 128, false)]) (by decide +kernel) (ps := [Op.if_icmp.holds .ne (2 : Int32) (1 : Int32) = true]) (pc' := 238) (L' := #[.val ((.ref b)), .val (.int (1 : Int32)), .val (.int en), .val (.int sur), .val (.int b0), .val (.int (3 : Int32)), .val (.int s76_0), .val (.int s98_0), .val (.int s254_0), .val (.int (2 : Int32)), .val (.int cbb)]) (S' := [.int (128 : Int32), .int cbb]) rfl ⟨(XT.ii_ne_t (by decide)), trivial⟩ ?_
                      have J254_32 : ∀ (s254_0b : Int32) (h_s254_0b : s254_0b = (if cbb < (128 : Int32) then (0 : Int32) else (if (191 : Int32) < cbb then (0 : Int32) else (1 : Int32)))), WP X n0 (Q_sq1 Z b en sur x0 x1 x2 x3 x4 x5 x6 x7 h0) h0 0 0 254 #[.val ((.ref b)), .val (.int (1 : Int32)), .val (.int en), .val (.int sur), .val (.int b0), .val (.int (3 : Int32)), .val (.int s76_0), .val (.int s98_0), .val (.int s254_0), .val (.int (2 : Int32)), .val (.int cbb)] [.int s254_0b] := by
                        intro s254_0b h_s254_0b
                        refine wp_run ok hK (B := [(254, .istore 8, false), (256, .iinc 9 1, false)]) (by decide +kernel) (ps := []) (pc' := 259) (L' := #[.val ((.ref b)), .val (.int (1 : Int32)), .val (.int en), .val (.int sur), .val (.int b0), .val (.int (3 : Int32)), .val (.int s76_0), .val (.int s98_0), .val (.int s254_0b), .val (.int (3 : Int32)), .val (.int cbb)]) (S' := []) rfl trivial ?_
                        refine wp_run ok hK (B := [(259, .goto (-78), false), (181, .iload 8, false)]) (by decide +kernel) (ps := []) (pc' := 183) (L' := #[.val ((.ref b)), .val (.int (1 : Int32)), .val (.int en), .val (.int sur), .val (.int b0), .val (.int (3 : Int32)), .val (.int s76_0), .val (.int s98_0), .val (.int s254_0b), .val (.int (3 : Int32)), .val (.int cbb)]) (S' := [.int s254_0b]) rfl trivial ?_
                        by_cases hc183_33 : s254_0b = (0 : Int32)
                        · refine wp_run ok hK (B := [(183, .ifCond .eq 79, true)]) (by decide +kernel) (ps := [Op.ifCond.holds .eq s254_0b = true]) (pc' := 262) (L' := #[.val ((.ref b)), .val (.int (1 : Int32)), .val (.int en), .val (.int sur), .val (.int b0), .val (.int (3 : Int32)), .val (.int s76_0), .val (.int s98_0), .val (.int s254_0b), .val (.int (3 : Int32)), .val (.int cbb)]) (S' := []) rfl ⟨(XT.i0_eq_t hc183_33), trivial⟩ ?_
                          refine wp_run ok hK (B := [(262, .iload 8, false), (264, .ifCond .eq 10, true), (274, .iconst (-1), false)]) (by decide +kernel) (ps := [Op.ifCond.holds .eq s254_0b = true]) (pc' := 275) (L' := #[.val ((.ref b)), .val (.int (1 : Int32)), .val (.int en), .val (.int sur), .val (.int b0), .val (.int (3 : Int32)), .val (.int s76_0), .val (.int s98_0), .val (.int s254_0b), .val (.int (3 : Int32)), .val (.int cbb)]) (S' := [.int (-1 : Int32)]) rfl ⟨(XT.i0_eq_t hc183_33), trivial⟩ ?_
                          refine wp_retI ok (by decide +kernel) (by decide) (by decide) ?_
                          exact ⟨congrArg (fun z => some (Value.int z)) (own_sq1_15 en sur x0 x1 x2 x3 x4 x5 x6 x7 b0 h_b0 hc24 hc32 hc46 hc54 s76_0 h_s76_0 s98_0 h_s98_0 s176_0 h_s176_0 hc183 cb h_cb s254_0 h_s254_0 hc183_29 cbb h_cbb s254_0b h_s254_0b hc183_33), rfl⟩
                        · refine wp_run ok hK (B := [(183, .ifCond .eq 79, false)]) (by decide +kernel) (ps := [Op.ifCond.holds .eq s254_0b = false]) (pc' := 186) (L' := #[.val ((.ref b)), .val (.int (1 : Int32)), .val (.int en), .val (.int sur), .val (.int b0), .val (.int (3 : Int32)), .val (.int s76_0), .val (.int s98_0), .val (.int s254_0b), .val (.int (3 : Int32)), .val (.int cbb)]) (S' := []) rfl ⟨(XT.i0_eq_f hc183_33), trivial⟩ ?_
                          refine wp_run ok hK (B := [(186, .iload 9, false), (188, .iload 5, false), (190, .if_icmp .ge 72, true), (262, .iload 8, false), (264, .ifCond .eq 10, false), (267, .iload_n 1, false), (268, .iload 5, false), (270, .iadd, false), (271, .goto 4, false)]) (by decide +kernel) (ps := [Op.if_icmp.holds .ge (3 : Int32) (3 : Int32) = true, Op.ifCond.holds .eq s254_0b = false]) (pc' := 275) (L' := #[.val ((.ref b)), .val (.int (1 : Int32)), .val (.int en), .val (.int sur), .val (.int b0), .val (.int (3 : Int32)), .val (.int s76_0), .val (.int s98_0), .val (.int s254_0b), .val (.int (3 : Int32)), .val (.int cbb)]) (S' := [.int (4 : Int32)]) rfl ⟨(XT.ii_ge_t (by decide)), (XT.i0_eq_f hc183_33), trivial⟩ ?_
                          refine wp_retI ok (by decide +kernel) (by decide) (by decide) ?_
                          exact ⟨congrArg (fun z => some (Value.int z)) (own_sq1_16 en sur x0 x1 x2 x3 x4 x5 x6 x7 b0 h_b0 hc24 hc32 hc46 hc54 s76_0 h_s76_0 s98_0 h_s98_0 s176_0 h_s176_0 hc183 cb h_cb s254_0 h_s254_0 hc183_29 cbb h_cbb s254_0b h_s254_0b hc183_33), rfl⟩
                      by_cases c30 : cbb < (128 : Int32)
                      · refine wp_run ok hK (B := [(238, .if_icmp .lt 15, true), (253, .iconst 0, false)]) (by decide +kernel) (ps := [Op.if_icmp.holds .lt cbb (128 : Int32) = true]) (pc' := 254) (L' := #[.val ((.ref b)), .val (.int (1 : Int32)), .val (.int en), .val (.int sur), .val (.int b0), .val (.int (3 : Int32)), .val (.int s76_0), .val (.int s98_0), .val (.int s254_0), .val (.int (2 : Int32)), .val (.int cbb)]) (S' := [.int (0 : Int32)]) rfl ⟨(XT.ii_lt_t c30), trivial⟩ ?_
                        exact J254_32 _ (by rw [if_pos c30])
                      · by_cases c31 : (191 : Int32) < cbb
                        · refine wp_run ok hK (B := [(238, .if_icmp .lt 15, false), (241, .iload 10, false), (243, .sipush 191, false), (246, .if_icmp .gt 7, true), (253, .iconst 0, false)]) (by decide +kernel) (ps := [Op.if_icmp.holds .lt cbb (128 : Int32) = false, Op.if_icmp.holds .gt cbb (191 : Int32) = true]) (pc' := 254) (L' := #[.val ((.ref b)), .val (.int (1 : Int32)), .val (.int en), .val (.int sur), .val (.int b0), .val (.int (3 : Int32)), .val (.int s76_0), .val (.int s98_0), .val (.int s254_0), .val (.int (2 : Int32)), .val (.int cbb)]) (S' := [.int (0 : Int32)]) rfl ⟨(XT.ii_lt_f c30), (XT.ii_gt_t c31), trivial⟩ ?_
                          exact J254_32 _ (by rw [if_neg c30, if_pos c31])
                        · refine wp_run ok hK (B := [(238, .if_icmp .lt 15, false), (241, .iload 10, false), (243, .sipush 191, false), (246, .if_icmp .gt 7, false), (249, .iconst 1, false), (250, .goto 4, false)]) (by decide +kernel) (ps := [Op.if_icmp.holds .lt cbb (128 : Int32) = false, Op.if_icmp.holds .gt cbb (191 : Int32) = false]) (pc' := 254) (L' := #[.val ((.ref b)), .val (.int (1 : Int32)), .val (.int en), .val (.int sur), .val (.int b0), .val (.int (3 : Int32)), .val (.int s76_0), .val (.int s98_0), .val (.int s254_0), .val (.int (2 : Int32)), .val (.int cbb)]) (S' := [.int (1 : Int32)]) rfl ⟨(XT.ii_lt_f c30), (XT.ii_gt_f c31), trivial⟩ ?_
                          exact J254_32 _ (by rw [if_neg c30, if_neg c31])
                  by_cases c26 : cb < s76_0
                  · refine wp_run ok hK (B := [(215, .if_icmp .lt 14, true), (229, .iconst 0, false), (230, .goto 24, false)]) (by decide +kernel) (ps := [Op.if_icmp.holds .lt cb s76_0 = true]) (pc' := 254) (L' := #[.val ((.ref b)), .val (.int (1 : Int32)), .val (.int en), .val (.int sur), .val (.int b0), .val (.int (3 : Int32)), .val (.int s76_0), .val (.int s98_0), .val (.int s176_0), .val (.int (1 : Int32)), .val (.int cb)]) (S' := [.int (0 : Int32)]) rfl ⟨(XT.ii_lt_t c26), trivial⟩ ?_
                    exact J254_28 _ (by rw [if_pos c26])
                  · by_cases c27 : s98_0 < cb
                    · refine wp_run ok hK (B := [(215, .if_icmp .lt 14, false), (218, .iload 10, false), (220, .iload 7, false), (222, .if_icmp .gt 7, true), (229, .iconst 0, false), (230, .goto 24, false)]) (by decide +kernel) (ps := [Op.if_icmp.holds .lt cb s76_0 = false, Op.if_icmp.holds .gt cb s98_0 = true]) (pc' := 254) (L' := #[.val ((.ref b)), .val (.int (1 : Int32)), .val (.int en), .val (.int sur), .val (.int b0), .val (.int (3 : Int32)), .val (.int s76_0), .val (.int s98_0), .val (.int s176_0), .val (.int (1 : Int32)), .val (.int cb)]) (S' := [.int (0 : Int32)]) rfl ⟨(XT.ii_lt_f c26), (XT.ii_gt_t c27), trivial⟩ ?_
                      exact J254_28 _ (by rw [if_neg c26, if_pos c27])
                    · refine wp_run ok hK (B := [(215, .if_icmp .lt 14, false), (218, .iload 10, false), (220, .iload 7, false), (222, .if_icmp .gt 7, false), (225, .iconst 1, false), (226, .goto 28, false)]) (by decide +kernel) (ps := [Op.if_icmp.holds .lt cb s76_0 = false, Op.if_icmp.holds .gt cb s98_0 = false]) (pc' := 254) (L' := #[.val ((.ref b)), .val (.int (1 : Int32)), .val (.int en), .val (.int sur), .val (.int b0), .val (.int (3 : Int32)), .val (.int s76_0), .val (.int s98_0), .val (.int s176_0), .val (.int (1 : Int32)), .val (.int cb)]) (S' := [.int (1 : Int32)]) rfl ⟨(XT.ii_lt_f c26), (XT.ii_gt_f c27), trivial⟩ ?_
                      exact J254_28 _ (by rw [if_neg c26, if_neg c27])
              by_cases c24 : (en - (1 : Int32)) < (3 : Int32)
              · refine wp_run ok hK (B := [(168, .if_icmp .lt 7, true), (175, .iconst 0, false)]) (by decide +kernel) (ps := [Op.if_icmp.holds .lt (en - (1 : Int32)) (3 : Int32) = true]) (pc' := 176) (L' := #[.val ((.ref b)), .val (.int (1 : Int32)), .val (.int en), .val (.int sur), .val (.int b0), .val (.int (3 : Int32)), .val (.int s76_0), .val (.int s98_0), .unset, .unset, .unset]) (S' := [.int (0 : Int32)]) rfl ⟨(XT.ii_lt_t c24), trivial⟩ ?_
                exact J176_25 _ (by rw [if_pos c24])
              · refine wp_run ok hK (B := [(168, .if_icmp .lt 7, false), (171, .iconst 1, false), (172, .goto 4, false)]) (by decide +kernel) (ps := [Op.if_icmp.holds .lt (en - (1 : Int32)) (3 : Int32) = false]) (pc' := 176) (L' := #[.val ((.ref b)), .val (.int (1 : Int32)), .val (.int en), .val (.int sur), .val (.int b0), .val (.int (3 : Int32)), .val (.int s76_0), .val (.int s98_0), .unset, .unset, .unset]) (S' := [.int (1 : Int32)]) rfl ⟨(XT.ii_lt_f c24), trivial⟩ ?_
                exact J176_25 _ (by rw [if_neg c24])
            by_cases c21 : b0 = (237 : Int32)
            · by_cases c22 : sur = (0 : Int32)
              · refine wp_run ok hK (B := [(83, .if_icmp .ne 13, false), (86, .iload_n 3, false), (87, .ifCond .ne 9, false), (90, .sipush 159, false), (93, .goto 5, false)]) (by decide +kernel) (ps := [Op.if_icmp.holds .ne b0 (237 : Int32) = false, Op.ifCond.holds .ne sur = false]) (pc' := 98) (L' := #[.val ((.ref b)), .val (.int (1 : Int32)), .val (.int en), .val (.int sur), .val (.int b0), .val (.int (3 : Int32)), .val (.int s76_0), .val (.int (191 : Int32)), .unset, .unset, .unset]) (S' := [.int (159 : Int32)]) rfl ⟨(XT.ii_ne_f c21), (XT.i0_ne_f c22), trivial⟩ ?_
                exact J98_23 _ (by rw [if_pos c21, if_pos c22])
              · refine wp_run ok hK (B := [(83, .if_icmp .ne 13, false), (86, .iload_n 3, false), (87, .ifCond .ne 9, true), (96, .iload 7, false)]) (by decide +kernel) (ps := [Op.if_icmp.holds .ne b0 (237 : Int32) = false, Op.ifCond.holds .ne sur = true]) (pc' := 98) (L' := #[.val ((.ref b)), .val (.int (1 : Int32)), .val (.int en), .val (.int sur), .val (.int b0), .val (.int (3 : Int32)), .val (.int s76_0), .val (.int (191 : Int32)), .unset, .unset, .unset]) (S' := [.int (191 : Int32)]) rfl ⟨(XT.ii_ne_f c21), (XT.i0_ne_t c22), trivial⟩ ?_
                exact J98_23 _ (by rw [if_pos c21, if_neg c22])
            · refine wp_run ok hK (B := [(83, .if_icmp .ne 13, true), (96, .iload 7, false)]) (by decide +kernel) (ps := [Op.if_icmp.holds .ne b0 (237 : Int32) = true]) (pc' := 98) (L' := #[.val ((.ref b)), .val (.int (1 : Int32)), .val (.int en), .val (.int sur), .val (.int b0), .val (.int (3 : Int32)), .val (.int s76_0), .val (.int (191 : Int32)), .unset, .unset, .unset]) (S' := [.int (191 : Int32)]) rfl ⟨(XT.ii_ne_t c21), trivial⟩ ?_
              exact J98_23 _ (by rw [if_neg c21])
          by_cases c19 : b0 = (224 : Int32)
          · refine wp_run ok hK (B := [(65, .if_icmp .ne 9, false), (68, .sipush 160, false), (71, .goto 5, false)]) (by decide +kernel) (ps := [Op.if_icmp.holds .ne b0 (224 : Int32) = false]) (pc' := 76) (L' := #[.val ((.ref b)), .val (.int (1 : Int32)), .val (.int en), .val (.int sur), .val (.int b0), .val (.int (3 : Int32)), .val (.int (128 : Int32)), .val (.int (191 : Int32)), .unset, .unset, .unset]) (S' := [.int (160 : Int32)]) rfl ⟨(XT.ii_ne_f c19), trivial⟩ ?_
            exact J76_20 _ (by rw [if_pos c19])
          · refine wp_run ok hK (B := [(65, .if_icmp .ne 9, true), (74, .iload 6, false)]) (by decide +kernel) (ps := [Op.if_icmp.holds .ne b0 (224 : Int32) = true]) (pc' := 76) (L' := #[.val ((.ref b)), .val (.int (1 : Int32)), .val (.int en), .val (.int sur), .val (.int b0), .val (.int (3 : Int32)), .val (.int (128 : Int32)), .val (.int (191 : Int32)), .unset, .unset, .unset]) (S' := [.int (128 : Int32)]) rfl ⟨(XT.ii_ne_t c19), trivial⟩ ?_
            exact J76_20 _ (by rw [if_neg c19])
    · refine wp_run ok hK (B := [(32, .if_icmp .gt 9, false)]) (by decide +kernel) (ps := [Op.if_icmp.holds .gt b0 (223 : Int32) = false]) (pc' := 35) (L' := #[.val ((.ref b)), .val (.int (1 : Int32)), .val (.int en), .val (.int sur), .val (.int b0), .unset, .val (.int (128 : Int32)), .val (.int (191 : Int32)), .unset, .unset, .unset]) (S' := []) rfl ⟨(XT.ii_gt_f hc32), trivial⟩ ?_
      refine wp_run ok hK (B := [(35, .iconst 2, false), (36, .istore 5, false), (38, .goto 125, false), (163, .iload_n 2, false), (164, .iload_n 1, false), (165, .isub, false), (166, .iload 5, false)]) (by decide +kernel) (ps := []) (pc' := 168) (L' := #[.val ((.ref b)), .val (.int (1 : Int32)), .val (.int en), .val (.int sur), .val (.int b0), .val (.int (2 : Int32)), .val (.int (128 : Int32)), .val (.int (191 : Int32)), .unset, .unset, .unset]) (S' := [.int (2 : Int32), .int (en - (1 : Int32))]) rfl trivial ?_
      have J176_35 : ∀ (s176_0 : Int32) (h_s176_0 : s176_0 = (if (en - (1 : Int32)) < (2 : Int32) then (0 : Int32) else (1 : Int32))), WP X n0 (Q_sq1 Z b en sur x0 x1 x2 x3 x4 x5 x6 x7 h0) h0 0 0 176 #[.val ((.ref b)), .val (.int (1 : Int32)), .val (.int en), .val (.int sur), .val (.int b0), .val (.int (2 : Int32)), .val (.int (128 : Int32)), .val (.int (191 : Int32)), .unset, .unset, .unset] [.int s176_0] := by
        intro s176_0 h_s176_0
        refine wp_run ok hK (B := [(176, .istore 8, false), (178, .iconst 1, false), (179, .istore 9, false)]) (by decide +kernel) (ps := []) (pc' := 181) (L' := #[.val ((.ref b)), .val (.int (1 : Int32)), .val (.int en), .val (.int sur), .val (.int b0), .val (.int (2 : Int32)), .val (.int (128 : Int32)), .val (.int (191 : Int32)), .val (.int s176_0), .val (.int (1 : Int32)), .unset]) (S' := []) rfl trivial ?_
        refine wp_run ok hK (B := [(181, .iload 8, false)]) (by decide +kernel) (ps := []) (pc' := 183) (L' := #[.val ((.ref b)), .val (.int (1 : Int32)), .val (.int en), .val (.int sur), .val (.int b0), .val (.int (2 : Int32)), .val (.int (128 : Int32)), .val (.int (191 : Int32)), .val (.int s176_0), .val (.int (1 : Int32)), .unset]) (S' := [.int s176_0]) rfl trivial ?_
        by_cases hc183 : s176_0 = (0 : Int32)
        · refine wp_run ok hK (B := [(183, .ifCond .eq 79, true)]) (by decide +kernel) (ps := [Op.ifCond.holds .eq s176_0 = true]) (pc' := 262) (L' := #[.val ((.ref b)), .val (.int (1 : Int32)), .val (.int en), .val (.int sur), .val (.int b0), .val (.int (2 : Int32)), .val (.int (128 : Int32)), .val (.int (191 : Int32)), .val (.int s176_0), .val (.int (1 : Int32)), .unset]) (S' := []) rfl ⟨(XT.i0_eq_t hc183), trivial⟩ ?_
          refine wp_run ok hK (B := [(262, .iload 8, false), (264, .ifCond .eq 10, true), (274, .iconst (-1), false)]) (by decide +kernel) (ps := [Op.ifCond.holds .eq s176_0 = true]) (pc' := 275) (L' := #[.val ((.ref b)), .val (.int (1 : Int32)), .val (.int en), .val (.int sur), .val (.int b0), .val (.int (2 : Int32)), .val (.int (128 : Int32)), .val (.int (191 : Int32)), .val (.int s176_0), .val (.int (1 : Int32)), .unset]) (S' := [.int (-1 : Int32)]) rfl ⟨(XT.i0_eq_t hc183), trivial⟩ ?_
          refine wp_retI ok (by decide +kernel) (by decide) (by decide) ?_
          exact ⟨congrArg (fun z => some (Value.int z)) (own_sq1_17 en sur x0 x1 x2 x3 x4 x5 x6 x7 b0 h_b0 hc24 hc32 s176_0 h_s176_0 hc183), rfl⟩
        · refine wp_run ok hK (B := [(183, .ifCond .eq 79, false)]) (by decide +kernel) (ps := [Op.ifCond.holds .eq s176_0 = false]) (pc' := 186) (L' := #[.val ((.ref b)), .val (.int (1 : Int32)), .val (.int en), .val (.int sur), .val (.int b0), .val (.int (2 : Int32)), .val (.int (128 : Int32)), .val (.int (191 : Int32)), .val (.int s176_0), .val (.int (1 : Int32)), .unset]) (S' := []) rfl ⟨(XT.i0_eq_f hc183), trivial⟩ ?_
          refine wp_run ok hK (B := [(186, .iload 9, false), (188, .iload 5, false), (190, .if_icmp .ge 72, false), (193, .aload_n 0, false), (194, .iload_n 1, false), (195, .iload 9, false), (197, .iadd, false)]) (by decide +kernel) (ps := [Op.if_icmp.holds .ge (1 : Int32) (2 : Int32) = false]) (pc' := 198) (L' := #[.val ((.ref b)), .val (.int (1 : Int32)), .val (.int en), .val (.int sur), .val (.int b0), .val (.int (2 : Int32)), .val (.int (128 : Int32)), .val (.int (191 : Int32)), .val (.int s176_0), .val (.int (1 : Int32)), .unset]) (S' := [.int (2 : Int32), (.ref b)]) rfl ⟨(XT.ii_ge_f (by decide)), trivial⟩ ?_
          refine wp_aB ok A_b (i := 2) (v := .int x2) (by rfl) (by decide) rfl (by decide +kernel) ?_
          refine wp_run ok hK (B := [(199, .sipush 255, false), (202, .iand, false), (203, .istore 10, false)]) (by decide +kernel) (ps := []) (pc' := 205) (L' := #[.val ((.ref b)), .val (.int (1 : Int32)), .val (.int en), .val (.int sur), .val (.int b0), .val (.int (2 : Int32)), .val (.int (128 : Int32)), .val (.int (191 : Int32)), .val (.int s176_0), .val (.int (1 : Int32)), .val (.int (x2 &&& (255 : Int32)))]) (S' := []) rfl trivial ?_
          obtain ⟨cb, h_cb⟩ : ∃ z : Int32, z = (x2 &&& (255 : Int32)) := ⟨_, rfl⟩
          rw [← h_cb]
          refine wp_run ok hK (B := [(205, .iload 9, false), (207, .iconst 1, false), (208, .if_icmp .ne 25, false), (211, .iload 10, false), (213, .iload 6, false)]) (by decide +kernel) (ps := [Op.if_icmp.holds .ne (1 : Int32) (1 : Int32) = false]) (pc' := 215) (L' := #[.val ((.ref b)), .val (.int (1 : Int32)), .val (.int en), .val (.int sur), .val (.int b0), .val (.int (2 : Int32)), .val (.int (128 : Int32)), .val (.int (191 : Int32)), .val (.int s176_0), .val (.int (1 : Int32)), .val (.int cb)]) (S' := [.int (128 : Int32), .int cb]) rfl ⟨(XT.ii_ne_f (by decide)), trivial⟩ ?_
          have J254_38 : ∀ (s254_0 : Int32) (h_s254_0 : s254_0 = (if cb < (128 : Int32) then (0 : Int32) else (if (191 : Int32) < cb then (0 : Int32) else (1 : Int32)))), WP X n0 (Q_sq1 Z b en sur x0 x1 x2 x3 x4 x5 x6 x7 h0) h0 0 0 254 #[.val ((.ref b)), .val (.int (1 : Int32)), .val (.int en), .val (.int sur), .val (.int b0), .val (.int (2 : Int32)), .val (.int (128 : Int32)), .val (.int (191 : Int32)), .val (.int s176_0), .val (.int (1 : Int32)), .val (.int cb)] [.int s254_0] := by
            intro s254_0 h_s254_0
            refine wp_run ok hK (B := [(254, .istore 8, false), (256, .iinc 9 1, false)]) (by decide +kernel) (ps := []) (pc' := 259) (L' := #[.val ((.ref b)), .val (.int (1 : Int32)), .val (.int en), .val (.int sur), .val (.int b0), .val (.int (2 : Int32)), .val (.int (128 : Int32)), .val (.int (191 : Int32)), .val (.int s254_0), .val (.int (2 : Int32)), .val (.int cb)]) (S' := []) rfl trivial ?_
            refine wp_run ok hK (B := [(259, .goto (-78), false), (181, .iload 8, false)]) (by decide +kernel) (ps := []) (pc' := 183) (L' := #[.val ((.ref b)), .val (.int (1 : Int32)), .val (.int en), .val (.int sur), .val (.int b0), .val (.int (2 : Int32)), .val (.int (128 : Int32)), .val (.int (191 : Int32)), .val (.int s254_0), .val (.int (2 : Int32)), .val (.int cb)]) (S' := [.int s254_0]) rfl trivial ?_
            by_cases hc183_39 : s254_0 = (0 : Int32)
            · refine wp_run ok hK (B := [(183, .ifCond .eq 79, true)]) (by decide +kernel) (ps := [Op.ifCond.holds .eq s254_0 = true]) (pc' := 262) (L' := #[.val ((.ref b)), .val (.int (1 : Int32)), .val (.int en), .val (.int sur), .val (.int b0), .val (.int (2 : Int32)), .val (.int (128 : Int32)), .val (.int (191 : Int32)), .val (.int s254_0), .val (.int (2 : Int32)), .val (.int cb)]) (S' := []) rfl ⟨(XT.i0_eq_t hc183_39), trivial⟩ ?_
              refine wp_run ok hK (B := [(262, .iload 8, false), (264, .ifCond .eq 10, true), (274, .iconst (-1), false)]) (by decide +kernel) (ps := [Op.ifCond.holds .eq s254_0 = true]) (pc' := 275) (L' := #[.val ((.ref b)), .val (.int (1 : Int32)), .val (.int en), .val (.int sur), .val (.int b0), .val (.int (2 : Int32)), .val (.int (128 : Int32)), .val (.int (191 : Int32)), .val (.int s254_0), .val (.int (2 : Int32)), .val (.int cb)]) (S' := [.int (-1 : Int32)]) rfl ⟨(XT.i0_eq_t hc183_39), trivial⟩ ?_
              refine wp_retI ok (by decide +kernel) (by decide) (by decide) ?_
              exact ⟨congrArg (fun z => some (Value.int z)) (own_sq1_18 en sur x0 x1 x2 x3 x4 x5 x6 x7 b0 h_b0 hc24 hc32 s176_0 h_s176_0 hc183 cb h_cb s254_0 h_s254_0 hc183_39), rfl⟩
            · refine wp_run ok hK (B := [(183, .ifCond .eq 79, false)]) (by decide +kernel) (ps := [Op.ifCond.holds .eq s254_0 = false]) (pc' := 186) (L' := #[.val ((.ref b)), .val (.int (1 : Int32)), .val (.int en), .val (.int sur), .val (.int b0), .val (.int (2 : Int32)), .val (.int (128 : Int32)), .val (.int (191 : Int32)), .val (.int s254_0), .val (.int (2 : Int32)), .val (.int cb)]) (S' := []) rfl ⟨(XT.i0_eq_f hc183_39), trivial⟩ ?_
              refine wp_run ok hK (B := [(186, .iload 9, false), (188, .iload 5, false), (190, .if_icmp .ge 72, true), (262, .iload 8, false), (264, .ifCond .eq 10, false), (267, .iload_n 1, false), (268, .iload 5, false), (270, .iadd, false), (271, .goto 4, false)]) (by decide +kernel) (ps := [Op.if_icmp.holds .ge (2 : Int32) (2 : Int32) = true, Op.ifCond.holds .eq s254_0 = false]) (pc' := 275) (L' := #[.val ((.ref b)), .val (.int (1 : Int32)), .val (.int en), .val (.int sur), .val (.int b0), .val (.int (2 : Int32)), .val (.int (128 : Int32)), .val (.int (191 : Int32)), .val (.int s254_0), .val (.int (2 : Int32)), .val (.int cb)]) (S' := [.int (3 : Int32)]) rfl ⟨(XT.ii_ge_t (by decide)), (XT.i0_eq_f hc183_39), trivial⟩ ?_
              refine wp_retI ok (by decide +kernel) (by decide) (by decide) ?_
              exact ⟨congrArg (fun z => some (Value.int z)) (own_sq1_19 en sur x0 x1 x2 x3 x4 x5 x6 x7 b0 h_b0 hc24 hc32 s176_0 h_s176_0 hc183 cb h_cb s254_0 h_s254_0 hc183_39), rfl⟩
          by_cases c36 : cb < (128 : Int32)
          · refine wp_run ok hK (B := [(215, .if_icmp .lt 14, true), (229, .iconst 0, false), (230, .goto 24, false)]) (by decide +kernel) (ps := [Op.if_icmp.holds .lt cb (128 : Int32) = true]) (pc' := 254) (L' := #[.val ((.ref b)), .val (.int (1 : Int32)), .val (.int en), .val (.int sur), .val (.int b0), .val (.int (2 : Int32)), .val (.int (128 : Int32)), .val (.int (191 : Int32)), .val (.int s176_0), .val (.int (1 : Int32)), .val (.int cb)]) (S' := [.int (0 : Int32)]) rfl ⟨(XT.ii_lt_t c36), trivial⟩ ?_
            exact J254_38 _ (by rw [if_pos c36])
          · by_cases c37 : (191 : Int32) < cb
            · refine wp_run ok hK (B := [(215, .if_icmp .lt 14, false), (218, .iload 10, false), (220, .iload 7, false), (222, .if_icmp .gt 7, true), (229, .iconst 0, false), (230, .goto 24, false)]) (by decide +kernel) (ps := [Op.if_icmp.holds .lt cb (128 : Int32) = false, Op.if_icmp.holds .gt cb (191 : Int32) = true]) (pc' := 254) (L' := #[.val ((.ref b)), .val (.int (1 : Int32)), .val (.int en), .val (.int sur), .val (.int b0), .val (.int (2 : Int32)), .val (.int (128 : Int32)), .val (.int (191 : Int32)), .val (.int s176_0), .val (.int (1 : Int32)), .val (.int cb)]) (S' := [.int (0 : Int32)]) rfl ⟨(XT.ii_lt_f c36), (XT.ii_gt_t c37), trivial⟩ ?_
              exact J254_38 _ (by rw [if_neg c36, if_pos c37])
            · refine wp_run ok hK (B := [(215, .if_icmp .lt 14, false), (218, .iload 10, false), (220, .iload 7, false), (222, .if_icmp .gt 7, false), (225, .iconst 1, false), (226, .goto 28, false)]) (by decide +kernel) (ps := [Op.if_icmp.holds .lt cb (128 : Int32) = false, Op.if_icmp.holds .gt cb (191 : Int32) = false]) (pc' := 254) (L' := #[.val ((.ref b)), .val (.int (1 : Int32)), .val (.int en), .val (.int sur), .val (.int b0), .val (.int (2 : Int32)), .val (.int (128 : Int32)), .val (.int (191 : Int32)), .val (.int s176_0), .val (.int (1 : Int32)), .val (.int cb)]) (S' := [.int (1 : Int32)]) rfl ⟨(XT.ii_lt_f c36), (XT.ii_gt_f c37), trivial⟩ ?_
              exact J254_38 _ (by rw [if_neg c36, if_neg c37])
      by_cases c34 : (en - (1 : Int32)) < (2 : Int32)
      · refine wp_run ok hK (B := [(168, .if_icmp .lt 7, true), (175, .iconst 0, false)]) (by decide +kernel) (ps := [Op.if_icmp.holds .lt (en - (1 : Int32)) (2 : Int32) = true]) (pc' := 176) (L' := #[.val ((.ref b)), .val (.int (1 : Int32)), .val (.int en), .val (.int sur), .val (.int b0), .val (.int (2 : Int32)), .val (.int (128 : Int32)), .val (.int (191 : Int32)), .unset, .unset, .unset]) (S' := [.int (0 : Int32)]) rfl ⟨(XT.ii_lt_t c34), trivial⟩ ?_
        exact J176_35 _ (by rw [if_pos c34])
      · refine wp_run ok hK (B := [(168, .if_icmp .lt 7, false), (171, .iconst 1, false), (172, .goto 4, false)]) (by decide +kernel) (ps := [Op.if_icmp.holds .lt (en - (1 : Int32)) (2 : Int32) = false]) (pc' := 176) (L' := #[.val ((.ref b)), .val (.int (1 : Int32)), .val (.int en), .val (.int sur), .val (.int b0), .val (.int (2 : Int32)), .val (.int (128 : Int32)), .val (.int (191 : Int32)), .unset, .unset, .unset]) (S' := [.int (1 : Int32)]) rfl ⟨(XT.ii_lt_f c34), trivial⟩ ?_
        exact J176_35 _ (by rw [if_neg c34])
def k_sq2 : List (Nat × Value) := []
def Q_sq2 (Z : State) (b : Addr) (en : Int32) (sur : Int32) (x0 : Int32) (x1 : Int32) (x2 : Int32) (x3 : Int32) (x4 : Int32) (x5 : Int32) (x6 : Int32) (x7 : Int32) (h0 : Heap) : Post := fun v h => v = some (.int (seqZ (2 : Int32) (x2 &&& (255 : Int32)) (x3 &&& (255 : Int32)) (x4 &&& (255 : Int32)) (x5 &&& (255 : Int32)) (en - (2 : Int32)) sur)) ∧ h0 = h
theorem own_sq2_1 (en : Int32) (sur : Int32) (x0 : Int32) (x1 : Int32) (x2 : Int32) (x3 : Int32) (x4 : Int32) (x5 : Int32) (x6 : Int32) (x7 : Int32) (b0 : Int32) (h_b0 : b0 = (x2 &&& (255 : Int32))) (hc24 : b0 < (194 : Int32)) : b0 < (224 : Int32) := by
  rw [Int32.lt_iff_toInt_lt] at *; simp only [Int32.reduceToInt] at *; omega
theorem own_sq2_2 (en : Int32) (sur : Int32) (x0 : Int32) (x1 : Int32) (x2 : Int32) (x3 : Int32) (x4 : Int32) (x5 : Int32) (x6 : Int32) (x7 : Int32) (b0 : Int32) (h_b0 : b0 = (x2 &&& (255 : Int32))) (hc24 : b0 < (194 : Int32)) : b0 < (240 : Int32) := by
  rw [Int32.lt_iff_toInt_lt] at *; simp only [Int32.reduceToInt] at *; omega
theorem own_sq2_3 (en : Int32) (sur : Int32) (x0 : Int32) (x1 : Int32) (x2 : Int32) (x3 : Int32) (x4 : Int32) (x5 : Int32) (x6 : Int32) (x7 : Int32) (b0 : Int32) (h_b0 : b0 = (x2 &&& (255 : Int32))) (hc24 : b0 < (194 : Int32)) : (-1 : Int32) = (seqZ (2 : Int32) (x2 &&& (255 : Int32)) (x3 &&& (255 : Int32)) (x4 &&& (255 : Int32)) (x5 &&& (255 : Int32)) (en - (2 : Int32)) sur) := by
  have e := @seqZ_0 (2 : Int32) (x2 &&& 255) (x3 &&& 255) (x4 &&& 255) (x5 &&& 255) (en - (2 : Int32)) sur
  refine e ?_
  clear e
  generalize x2 &&& 255 = y0 at *
  generalize x3 &&& 255 = y1 at *
  generalize x4 &&& 255 = y2 at *
  generalize x5 &&& 255 = y3 at *
  generalize en - (2 : Int32) = dd at *
  simp only [own_i, own_l, own_ite, Int32.reduceToInt, ne_eq] at *
  simp only [seqN]
  repeat' (first | omega | split)
theorem own_sq2_4 (en : Int32) (sur : Int32) (x0 : Int32) (x1 : Int32) (x2 : Int32) (x3 : Int32) (x4 : Int32) (x5 : Int32) (x6 : Int32) (x7 : Int32) (b0 : Int32) (h_b0 : b0 = (x2 &&& (255 : Int32))) (hc24 : ¬ (b0 < (194 : Int32))) (hc32 : (223 : Int32) < b0) (hc46 : b0 < (224 : Int32)) : b0 < (240 : Int32) := by
  rw [Int32.lt_iff_toInt_lt] at *; simp only [Int32.reduceToInt] at *; omega
theorem own_sq2_5 (en : Int32) (sur : Int32) (x0 : Int32) (x1 : Int32) (x2 : Int32) (x3 : Int32) (x4 : Int32) (x5 : Int32) (x6 : Int32) (x7 : Int32) (b0 : Int32) (h_b0 : b0 = (x2 &&& (255 : Int32))) (hc24 : ¬ (b0 < (194 : Int32))) (hc32 : (223 : Int32) < b0) (hc46 : b0 < (224 : Int32)) : (-1 : Int32) = (seqZ (2 : Int32) (x2 &&& (255 : Int32)) (x3 &&& (255 : Int32)) (x4 &&& (255 : Int32)) (x5 &&& (255 : Int32)) (en - (2 : Int32)) sur) := by
  have e := @seqZ_0 (2 : Int32) (x2 &&& 255) (x3 &&& 255) (x4 &&& 255) (x5 &&& 255) (en - (2 : Int32)) sur
  refine e ?_
  clear e
  generalize x2 &&& 255 = y0 at *
  generalize x3 &&& 255 = y1 at *
  generalize x4 &&& 255 = y2 at *
  generalize x5 &&& 255 = y3 at *
  generalize en - (2 : Int32) = dd at *
  simp only [own_i, own_l, own_ite, Int32.reduceToInt, ne_eq] at *
  simp only [seqN]
  repeat' (first | omega | split)
theorem own_sq2_6 (en : Int32) (sur : Int32) (x0 : Int32) (x1 : Int32) (x2 : Int32) (x3 : Int32) (x4 : Int32) (x5 : Int32) (x6 : Int32) (x7 : Int32) (b0 : Int32) (h_b0 : b0 = (x2 &&& (255 : Int32))) (hc24 : ¬ (b0 < (194 : Int32))) (hc32 : (223 : Int32) < b0) (hc46 : ¬ (b0 < (224 : Int32))) (hc54 : (239 : Int32) < b0) (hc108 : b0 < (240 : Int32)) : (-1 : Int32) = (seqZ (2 : Int32) (x2 &&& (255 : Int32)) (x3 &&& (255 : Int32)) (x4 &&& (255 : Int32)) (x5 &&& (255 : Int32)) (en - (2 : Int32)) sur) := by
  have e := @seqZ_0 (2 : Int32) (x2 &&& 255) (x3 &&& 255) (x4 &&& 255) (x5 &&& 255) (en - (2 : Int32)) sur
  refine e ?_
  clear e
  generalize x2 &&& 255 = y0 at *
  generalize x3 &&& 255 = y1 at *
  generalize x4 &&& 255 = y2 at *
  generalize x5 &&& 255 = y3 at *
  generalize en - (2 : Int32) = dd at *
  simp only [own_i, own_l, own_ite, Int32.reduceToInt, ne_eq] at *
  simp only [seqN]
  repeat' (first | omega | split)
theorem own_sq2_7 (en : Int32) (sur : Int32) (x0 : Int32) (x1 : Int32) (x2 : Int32) (x3 : Int32) (x4 : Int32) (x5 : Int32) (x6 : Int32) (x7 : Int32) (b0 : Int32) (h_b0 : b0 = (x2 &&& (255 : Int32))) (hc24 : ¬ (b0 < (194 : Int32))) (hc32 : (223 : Int32) < b0) (hc46 : ¬ (b0 < (224 : Int32))) (hc54 : (239 : Int32) < b0) (hc108 : ¬ (b0 < (240 : Int32))) (hc116 : (244 : Int32) < b0) : (-1 : Int32) = (seqZ (2 : Int32) (x2 &&& (255 : Int32)) (x3 &&& (255 : Int32)) (x4 &&& (255 : Int32)) (x5 &&& (255 : Int32)) (en - (2 : Int32)) sur) := by
  have e := @seqZ_0 (2 : Int32) (x2 &&& 255) (x3 &&& 255) (x4 &&& 255) (x5 &&& 255) (en - (2 : Int32)) sur
  refine e ?_
  clear e
  generalize x2 &&& 255 = y0 at *
  generalize x3 &&& 255 = y1 at *
  generalize x4 &&& 255 = y2 at *
  generalize x5 &&& 255 = y3 at *
  generalize en - (2 : Int32) = dd at *
  simp only [own_i, own_l, own_ite, Int32.reduceToInt, ne_eq] at *
  simp only [seqN]
  repeat' (first | omega | split)
theorem own_sq2_8 (en : Int32) (sur : Int32) (x0 : Int32) (x1 : Int32) (x2 : Int32) (x3 : Int32) (x4 : Int32) (x5 : Int32) (x6 : Int32) (x7 : Int32) (b0 : Int32) (h_b0 : b0 = (x2 &&& (255 : Int32))) (hc24 : ¬ (b0 < (194 : Int32))) (hc32 : (223 : Int32) < b0) (hc46 : ¬ (b0 < (224 : Int32))) (hc54 : (239 : Int32) < b0) (hc108 : ¬ (b0 < (240 : Int32))) (hc116 : ¬ ((244 : Int32) < b0)) (s138_0 : Int32) (h_s138_0 : s138_0 = (if b0 = (240 : Int32) then (144 : Int32) else (128 : Int32))) (s156_0 : Int32) (h_s156_0 : s156_0 = (if b0 = (244 : Int32) then (143 : Int32) else (191 : Int32))) (s176_0 : Int32) (h_s176_0 : s176_0 = (if (en - (2 : Int32)) < (4 : Int32) then (0 : Int32) else (1 : Int32))) (hc183 : s176_0 = (0 : Int32)) : (-1 : Int32) = (seqZ (2 : Int32) (x2 &&& (255 : Int32)) (x3 &&& (255 : Int32)) (x4 &&& (255 : Int32)) (x5 &&& (255 : Int32)) (en - (2 : Int32)) sur) := by
  have e := @seqZ_0 (2 : Int32) (x2 &&& 255) (x3 &&& 255) (x4 &&& 255) (x5 &&& 255) (en - (2 : Int32)) sur
  refine e ?_
  clear e
  generalize x2 &&& 255 = y0 at *
  generalize x3 &&& 255 = y1 at *
  generalize x4 &&& 255 = y2 at *
  generalize x5 &&& 255 = y3 at *
  generalize en - (2 : Int32) = dd at *
  simp only [own_i, own_l, own_ite, Int32.reduceToInt, ne_eq] at *
  simp only [seqN]
  repeat' (first | omega | split at h_s138_0 | split at h_s156_0 | split at h_s176_0 | split)
theorem own_sq2_9 (en : Int32) (sur : Int32) (x0 : Int32) (x1 : Int32) (x2 : Int32) (x3 : Int32) (x4 : Int32) (x5 : Int32) (x6 : Int32) (x7 : Int32) (b0 : Int32) (h_b0 : b0 = (x2 &&& (255 : Int32))) (hc24 : ¬ (b0 < (194 : Int32))) (hc32 : (223 : Int32) < b0) (hc46 : ¬ (b0 < (224 : Int32))) (hc54 : (239 : Int32) < b0) (hc108 : ¬ (b0 < (240 : Int32))) (hc116 : ¬ ((244 : Int32) < b0)) (s138_0 : Int32) (h_s138_0 : s138_0 = (if b0 = (240 : Int32) then (144 : Int32) else (128 : Int32))) (s156_0 : Int32) (h_s156_0 : s156_0 = (if b0 = (244 : Int32) then (143 : Int32) else (191 : Int32))) (s176_0 : Int32) (h_s176_0 : s176_0 = (if (en - (2 : Int32)) < (4 : Int32) then (0 : Int32) else (1 : Int32))) (hc183 : ¬ (s176_0 = (0 : Int32))) (cb : Int32) (h_cb : cb = (x3 &&& (255 : Int32))) (s254_0 : Int32) (h_s254_0 : s254_0 = (if cb < s138_0 then (0 : Int32) else (if s156_0 < cb then (0 : Int32) else (1 : Int32)))) (hc183_10 : s254_0 = (0 : Int32)) : (-1 : Int32) = (seqZ (2 : Int32) (x2 &&& (255 : Int32)) (x3 &&& (255 : Int32)) (x4 &&& (255 : Int32)) (x5 &&& (255 : Int32)) (en - (2 : Int32)) sur) := by
  have e := @seqZ_0 (2 : Int32) (x2 &&& 255) (x3 &&& 255) (x4 &&& 255) (x5 &&& 255) (en - (2 : Int32)) sur
  refine e ?_
  clear e
  generalize x2 &&& 255 = y0 at *
  generalize x3 &&& 255 = y1 at *
  generalize x4 &&& 255 = y2 at *
  generalize x5 &&& 255 = y3 at *
  generalize en - (2 : Int32) = dd at *
  simp only [own_i, own_l, own_ite, Int32.reduceToInt, ne_eq] at *
  simp only [seqN]
  repeat' (first | omega | split at h_s138_0 | split at h_s156_0 | split at h_s176_0 | split at h_s254_0 | split)
theorem own_sq2_10 (en : Int32) (sur : Int32) (x0 : Int32) (x1 : Int32) (x2 : Int32) (x3 : Int32) (x4 : Int32) (x5 : Int32) (x6 : Int32) (x7 : Int32) (b0 : Int32) (h_b0 : b0 = (x2 &&& (255 : Int32))) (hc24 : ¬ (b0 < (194 : Int32))) (hc32 : (223 : Int32) < b0) (hc46 : ¬ (b0 < (224 : Int32))) (hc54 : (239 : Int32) < b0) (hc108 : ¬ (b0 < (240 : Int32))) (hc116 : ¬ ((244 : Int32) < b0)) (s138_0 : Int32) (h_s138_0 : s138_0 = (if b0 = (240 : Int32) then (144 : Int32) else (128 : Int32))) (s156_0 : Int32) (h_s156_0 : s156_0 = (if b0 = (244 : Int32) then (143 : Int32) else (191 : Int32))) (s176_0 : Int32) (h_s176_0 : s176_0 = (if (en - (2 : Int32)) < (4 : Int32) then (0 : Int32) else (1 : Int32))) (hc183 : ¬ (s176_0 = (0 : Int32))) (cb : Int32) (h_cb : cb = (x3 &&& (255 : Int32))) (s254_0 : Int32) (h_s254_0 : s254_0 = (if cb < s138_0 then (0 : Int32) else (if s156_0 < cb then (0 : Int32) else (1 : Int32)))) (hc183_10 : ¬ (s254_0 = (0 : Int32))) (cbb : Int32) (h_cbb : cbb = (x4 &&& (255 : Int32))) (s254_0b : Int32) (h_s254_0b : s254_0b = (if cbb < (128 : Int32) then (0 : Int32) else (if (191 : Int32) < cbb then (0 : Int32) else (1 : Int32)))) (hc183_14 : s254_0b = (0 : Int32)) : (-1 : Int32) = (seqZ (2 : Int32) (x2 &&& (255 : Int32)) (x3 &&& (255 : Int32)) (x4 &&& (255 : Int32)) (x5 &&& (255 : Int32)) (en - (2 : Int32)) sur) := by
  have e := @seqZ_0 (2 : Int32) (x2 &&& 255) (x3 &&& 255) (x4 &&& 255) (x5 &&& 255) (en - (2 : Int32)) sur
  refine e ?_
  clear e
  generalize x2 &&& 255 = y0 at *
  generalize x3 &&& 255 = y1 at *
  generalize x4 &&& 255 = y2 at *
  generalize x5 &&& 255 = y3 at *
  generalize en - (2 : Int32) = dd at *
  simp only [own_i, own_l, own_ite, Int32.reduceToInt, ne_eq] at *
  simp only [seqN]
  repeat' (first | omega | split at h_s138_0 | split at h_s156_0 | split at h_s176_0 | split at h_s254_0 | split at h_s254_0b | split)
theorem own_sq2_11 (en : Int32) (sur : Int32) (x0 : Int32) (x1 : Int32) (x2 : Int32) (x3 : Int32) (x4 : Int32) (x5 : Int32) (x6 : Int32) (x7 : Int32) (b0 : Int32) (h_b0 : b0 = (x2 &&& (255 : Int32))) (hc24 : ¬ (b0 < (194 : Int32))) (hc32 : (223 : Int32) < b0) (hc46 : ¬ (b0 < (224 : Int32))) (hc54 : (239 : Int32) < b0) (hc108 : ¬ (b0 < (240 : Int32))) (hc116 : ¬ ((244 : Int32) < b0)) (s138_0 : Int32) (h_s138_0 : s138_0 = (if b0 = (240 : Int32) then (144 : Int32) else (128 : Int32))) (s156_0 : Int32) (h_s156_0 : s156_0 = (if b0 = (244 : Int32) then (143 : Int32) else (191 : Int32))) (s176_0 : Int32) (h_s176_0 : s176_0 = (if (en - (2 : Int32)) < (4 : Int32) then (0 : Int32) else (1 : Int32))) (hc183 : ¬ (s176_0 = (0 : Int32))) (cb : Int32) (h_cb : cb = (x3 &&& (255 : Int32))) (s254_0 : Int32) (h_s254_0 : s254_0 = (if cb < s138_0 then (0 : Int32) else (if s156_0 < cb then (0 : Int32) else (1 : Int32)))) (hc183_10 : ¬ (s254_0 = (0 : Int32))) (cbb : Int32) (h_cbb : cbb = (x4 &&& (255 : Int32))) (s254_0b : Int32) (h_s254_0b : s254_0b = (if cbb < (128 : Int32) then (0 : Int32) else (if (191 : Int32) < cbb then (0 : Int32) else (1 : Int32)))) (hc183_14 : ¬ (s254_0b = (0 : Int32))) (cbbb : Int32) (h_cbbb : cbbb = (x5 &&& (255 : Int32))) (s254_0bb : Int32) (h_s254_0bb : s254_0bb = (if cbbb < (128 : Int32) then (0 : Int32) else (if (191 : Int32) < cbbb then (0 : Int32) else (1 : Int32)))) (hc183_18 : s254_0bb = (0 : Int32)) : (-1 : Int32) = (seqZ (2 : Int32) (x2 &&& (255 : Int32)) (x3 &&& (255 : Int32)) (x4 &&& (255 : Int32)) (x5 &&& (255 : Int32)) (en - (2 : Int32)) sur) := by
  have e := @seqZ_0 (2 : Int32) (x2 &&& 255) (x3 &&& 255) (x4 &&& 255) (x5 &&& 255) (en - (2 : Int32)) sur
  refine e ?_
  clear e
  generalize x2 &&& 255 = y0 at *
  generalize x3 &&& 255 = y1 at *
  generalize x4 &&& 255 = y2 at *
  generalize x5 &&& 255 = y3 at *
  generalize en - (2 : Int32) = dd at *
  simp only [own_i, own_l, own_ite, Int32.reduceToInt, ne_eq] at *
  simp only [seqN]
  repeat' (first | omega | split at h_s138_0 | split at h_s156_0 | split at h_s176_0 | split at h_s254_0 | split at h_s254_0b | split at h_s254_0bb | split)
theorem own_sq2_12 (en : Int32) (sur : Int32) (x0 : Int32) (x1 : Int32) (x2 : Int32) (x3 : Int32) (x4 : Int32) (x5 : Int32) (x6 : Int32) (x7 : Int32) (b0 : Int32) (h_b0 : b0 = (x2 &&& (255 : Int32))) (hc24 : ¬ (b0 < (194 : Int32))) (hc32 : (223 : Int32) < b0) (hc46 : ¬ (b0 < (224 : Int32))) (hc54 : (239 : Int32) < b0) (hc108 : ¬ (b0 < (240 : Int32))) (hc116 : ¬ ((244 : Int32) < b0)) (s138_0 : Int32) (h_s138_0 : s138_0 = (if b0 = (240 : Int32) then (144 : Int32) else (128 : Int32))) (s156_0 : Int32) (h_s156_0 : s156_0 = (if b0 = (244 : Int32) then (143 : Int32) else (191 : Int32))) (s176_0 : Int32) (h_s176_0 : s176_0 = (if (en - (2 : Int32)) < (4 : Int32) then (0 : Int32) else (1 : Int32))) (hc183 : ¬ (s176_0 = (0 : Int32))) (cb : Int32) (h_cb : cb = (x3 &&& (255 : Int32))) (s254_0 : Int32) (h_s254_0 : s254_0 = (if cb < s138_0 then (0 : Int32) else (if s156_0 < cb then (0 : Int32) else (1 : Int32)))) (hc183_10 : ¬ (s254_0 = (0 : Int32))) (cbb : Int32) (h_cbb : cbb = (x4 &&& (255 : Int32))) (s254_0b : Int32) (h_s254_0b : s254_0b = (if cbb < (128 : Int32) then (0 : Int32) else (if (191 : Int32) < cbb then (0 : Int32) else (1 : Int32)))) (hc183_14 : ¬ (s254_0b = (0 : Int32))) (cbbb : Int32) (h_cbbb : cbbb = (x5 &&& (255 : Int32))) (s254_0bb : Int32) (h_s254_0bb : s254_0bb = (if cbbb < (128 : Int32) then (0 : Int32) else (if (191 : Int32) < cbbb then (0 : Int32) else (1 : Int32)))) (hc183_18 : ¬ (s254_0bb = (0 : Int32))) : (6 : Int32) = (seqZ (2 : Int32) (x2 &&& (255 : Int32)) (x3 &&& (255 : Int32)) (x4 &&& (255 : Int32)) (x5 &&& (255 : Int32)) (en - (2 : Int32)) sur) := by
  have e := @seqZ_4 (2 : Int32) (x2 &&& 255) (x3 &&& 255) (x4 &&& 255) (x5 &&& 255) (en - (2 : Int32)) sur
  refine Eq.trans (by decide) (e ?_)
  clear e
  generalize x2 &&& 255 = y0 at *
  generalize x3 &&& 255 = y1 at *
  generalize x4 &&& 255 = y2 at *
  generalize x5 &&& 255 = y3 at *
  generalize en - (2 : Int32) = dd at *
  simp only [own_i, own_l, own_ite, Int32.reduceToInt, ne_eq] at *
  simp only [seqN]
  repeat' (first | omega | split at h_s138_0 | split at h_s156_0 | split at h_s176_0 | split at h_s254_0 | split at h_s254_0b | split at h_s254_0bb | split)
theorem own_sq2_13 (en : Int32) (sur : Int32) (x0 : Int32) (x1 : Int32) (x2 : Int32) (x3 : Int32) (x4 : Int32) (x5 : Int32) (x6 : Int32) (x7 : Int32) (b0 : Int32) (h_b0 : b0 = (x2 &&& (255 : Int32))) (hc24 : ¬ (b0 < (194 : Int32))) (hc32 : (223 : Int32) < b0) (hc46 : ¬ (b0 < (224 : Int32))) (hc54 : ¬ ((239 : Int32) < b0)) (s76_0 : Int32) (h_s76_0 : s76_0 = (if b0 = (224 : Int32) then (160 : Int32) else (128 : Int32))) (s98_0 : Int32) (h_s98_0 : s98_0 = (if b0 = (237 : Int32) then (if sur = (0 : Int32) then (159 : Int32) else (191 : Int32)) else (191 : Int32))) (s176_0 : Int32) (h_s176_0 : s176_0 = (if (en - (2 : Int32)) < (3 : Int32) then (0 : Int32) else (1 : Int32))) (hc183 : s176_0 = (0 : Int32)) : (-1 : Int32) = (seqZ (2 : Int32) (x2 &&& (255 : Int32)) (x3 &&& (255 : Int32)) (x4 &&& (255 : Int32)) (x5 &&& (255 : Int32)) (en - (2 : Int32)) sur) := by
  have e := @seqZ_0 (2 : Int32) (x2 &&& 255) (x3 &&& 255) (x4 &&& 255) (x5 &&& 255) (en - (2 : Int32)) sur
  refine e ?_
  clear e
  generalize x2 &&& 255 = y0 at *
  generalize x3 &&& 255 = y1 at *
  generalize x4 &&& 255 = y2 at *
  generalize x5 &&& 255 = y3 at *
  generalize en - (2 : Int32) = dd at *
  simp only [own_i, own_l, own_ite, Int32.reduceToInt, ne_eq] at *
  simp only [seqN]
  repeat' (first | omega | split at h_s76_0 | split at h_s98_0 | split at h_s176_0 | split)
theorem own_sq2_14 (en : Int32) (sur : Int32) (x0 : Int32) (x1 : Int32) (x2 : Int32) (x3 : Int32) (x4 : Int32) (x5 : Int32) (x6 : Int32) (x7 : Int32) (b0 : Int32) (h_b0 : b0 = (x2 &&& (255 : Int32))) (hc24 : ¬ (b0 < (194 : Int32))) (hc32 : (223 : Int32) < b0) (hc46 : ¬ (b0 < (224 : Int32))) (hc54 : ¬ ((239 : Int32) < b0)) (s76_0 : Int32) (h_s76_0 : s76_0 = (if b0 = (224 : Int32) then (160 : Int32) else (128 : Int32))) (s98_0 : Int32) (h_s98_0 : s98_0 = (if b0 = (237 : Int32) then (if sur = (0 : Int32) then (159 : Int32) else (191 : Int32)) else (191 : Int32))) (s176_0 : Int32) (h_s176_0 : s176_0 = (if (en - (2 : Int32)) < (3 : Int32) then (0 : Int32) else (1 : Int32))) (hc183 : ¬ (s176_0 = (0 : Int32))) (cb : Int32) (h_cb : cb = (x3 &&& (255 : Int32))) (s254_0 : Int32) (h_s254_0 : s254_0 = (if cb < s76_0 then (0 : Int32) else (if s98_0 < cb then (0 : Int32) else (1 : Int32)))) (hc183_29 : s254_0 = (0 : Int32)) : (-1 : Int32) = (seqZ (2 : Int32) (x2 &&& (255 : Int32)) (x3 &&& (255 : Int32)) (x4 &&& (255 : Int32)) (x5 &&& (255 : Int32)) (en - (2 : Int32)) sur) := by
  have e := @seqZ_0 (2 : Int32) (x2 &&& 255) (x3 &&& 255) (x4 &&& 255) (x5 &&& 255) (en - (2 : Int32)) sur
  refine e ?_
  clear e
  generalize x2 &&& 255 = y0 at *
  generalize x3 &&& 255 = y1 at *
  generalize x4 &&& 255 = y2 at *
  generalize x5 &&& 255 = y3 at *
  generalize en - (2 : Int32) = dd at *
  simp only [own_i, own_l, own_ite, Int32.reduceToInt, ne_eq] at *
  simp only [seqN]
  repeat' (first | omega | split at h_s76_0 | split at h_s98_0 | split at h_s176_0 | split at h_s254_0 | split)
theorem own_sq2_15 (en : Int32) (sur : Int32) (x0 : Int32) (x1 : Int32) (x2 : Int32) (x3 : Int32) (x4 : Int32) (x5 : Int32) (x6 : Int32) (x7 : Int32) (b0 : Int32) (h_b0 : b0 = (x2 &&& (255 : Int32))) (hc24 : ¬ (b0 < (194 : Int32))) (hc32 : (223 : Int32) < b0) (hc46 : ¬ (b0 < (224 : Int32))) (hc54 : ¬ ((239 : Int32) < b0)) (s76_0 : Int32) (h_s76_0 : s76_0 = (if b0 = (224 : Int32) then (160 : Int32) else (128 : Int32))) (s98_0 : Int32) (h_s98_0 : s98_0 = (if b0 = (237 : Int32) then (if sur = (0 : Int32) then (159 : Int32) else (191 : Int32)) else (191 : Int32))) (s176_0 : Int32) (h_s176_0 : s176_0 = (if (en - (2 : Int32)) < (3 : Int32) then (0 : Int32) else (1 : Int32))) (hc183 : ¬ (s176_0 = (0 : Int32))) (cb : Int32) (h_cb : cb = (x3 &&& (255 : Int32))) (s254_0 : Int32) (h_s254_0 : s254_0 = (if cb < s76_0 then (0 : Int32) else (if s98_0 < cb then (0 : Int32) else (1 : Int32)))) (hc183_29 : ¬ (s254_0 = (0 : Int32))) (cbb : Int32) (h_cbb : cbb = (x4 &&& (255 : Int32))) (s254_0b : Int32) (h_s254_0b : s254_0b = (if cbb < (128 : Int32) then (0 : Int32) else (if (191 : Int32) < cbb then (0 : Int32) else (1 : Int32)))) (hc183_33 : s254_0b = (0 : Int32)) : (-1 : Int32) = (seqZ (2 : Int32) (x2 &&& (255 : Int32)) (x3 &&& (255 : Int32)) (x4 &&& (255 : Int32)) (x5 &&& (255 : Int32)) (en - (2 : Int32)) sur) := by
  have e := @seqZ_0 (2 : Int32) (x2 &&& 255) (x3 &&& 255) (x4 &&& 255) (x5 &&& 255) (en - (2 : Int32)) sur
  refine e ?_
  clear e
  generalize x2 &&& 255 = y0 at *
  generalize x3 &&& 255 = y1 at *
  generalize x4 &&& 255 = y2 at *
  generalize x5 &&& 255 = y3 at *
  generalize en - (2 : Int32) = dd at *
  simp only [own_i, own_l, own_ite, Int32.reduceToInt, ne_eq] at *
  simp only [seqN]
  repeat' (first | omega | split at h_s76_0 | split at h_s98_0 | split at h_s176_0 | split at h_s254_0 | split at h_s254_0b | split)
theorem own_sq2_16 (en : Int32) (sur : Int32) (x0 : Int32) (x1 : Int32) (x2 : Int32) (x3 : Int32) (x4 : Int32) (x5 : Int32) (x6 : Int32) (x7 : Int32) (b0 : Int32) (h_b0 : b0 = (x2 &&& (255 : Int32))) (hc24 : ¬ (b0 < (194 : Int32))) (hc32 : (223 : Int32) < b0) (hc46 : ¬ (b0 < (224 : Int32))) (hc54 : ¬ ((239 : Int32) < b0)) (s76_0 : Int32) (h_s76_0 : s76_0 = (if b0 = (224 : Int32) then (160 : Int32) else (128 : Int32))) (s98_0 : Int32) (h_s98_0 : s98_0 = (if b0 = (237 : Int32) then (if sur = (0 : Int32) then (159 : Int32) else (191 : Int32)) else (191 : Int32))) (s176_0 : Int32) (h_s176_0 : s176_0 = (if (en - (2 : Int32)) < (3 : Int32) then (0 : Int32) else (1 : Int32))) (hc183 : ¬ (s176_0 = (0 : Int32))) (cb : Int32) (h_cb : cb = (x3 &&& (255 : Int32))) (s254_0 : Int32) (h_s254_0 : s254_0 = (if cb < s76_0 then (0 : Int32) else (if s98_0 < cb then (0 : Int32) else (1 : Int32)))) (hc183_29 : ¬ (s254_0 = (0 : Int32))) (cbb : Int32) (h_cbb : cbb = (x4 &&& (255 : Int32))) (s254_0b : Int32) (h_s254_0b : s254_0b = (if cbb < (128 : Int32) then (0 : Int32) else (if (191 : Int32) < cbb then (0 : Int32) else (1 : Int32)))) (hc183_33 : ¬ (s254_0b = (0 : Int32))) : (5 : Int32) = (seqZ (2 : Int32) (x2 &&& (255 : Int32)) (x3 &&& (255 : Int32)) (x4 &&& (255 : Int32)) (x5 &&& (255 : Int32)) (en - (2 : Int32)) sur) := by
  have e := @seqZ_3 (2 : Int32) (x2 &&& 255) (x3 &&& 255) (x4 &&& 255) (x5 &&& 255) (en - (2 : Int32)) sur
  refine Eq.trans (by decide) (e ?_)
  clear e
  generalize x2 &&& 255 = y0 at *
  generalize x3 &&& 255 = y1 at *
  generalize x4 &&& 255 = y2 at *
  generalize x5 &&& 255 = y3 at *
  generalize en - (2 : Int32) = dd at *
  simp only [own_i, own_l, own_ite, Int32.reduceToInt, ne_eq] at *
  simp only [seqN]
  repeat' (first | omega | split at h_s76_0 | split at h_s98_0 | split at h_s176_0 | split at h_s254_0 | split at h_s254_0b | split)
theorem own_sq2_17 (en : Int32) (sur : Int32) (x0 : Int32) (x1 : Int32) (x2 : Int32) (x3 : Int32) (x4 : Int32) (x5 : Int32) (x6 : Int32) (x7 : Int32) (b0 : Int32) (h_b0 : b0 = (x2 &&& (255 : Int32))) (hc24 : ¬ (b0 < (194 : Int32))) (hc32 : ¬ ((223 : Int32) < b0)) (s176_0 : Int32) (h_s176_0 : s176_0 = (if (en - (2 : Int32)) < (2 : Int32) then (0 : Int32) else (1 : Int32))) (hc183 : s176_0 = (0 : Int32)) : (-1 : Int32) = (seqZ (2 : Int32) (x2 &&& (255 : Int32)) (x3 &&& (255 : Int32)) (x4 &&& (255 : Int32)) (x5 &&& (255 : Int32)) (en - (2 : Int32)) sur) := by
  have e := @seqZ_0 (2 : Int32) (x2 &&& 255) (x3 &&& 255) (x4 &&& 255) (x5 &&& 255) (en - (2 : Int32)) sur
  refine e ?_
  clear e
  generalize x2 &&& 255 = y0 at *
  generalize x3 &&& 255 = y1 at *
  generalize x4 &&& 255 = y2 at *
  generalize x5 &&& 255 = y3 at *
  generalize en - (2 : Int32) = dd at *
  simp only [own_i, own_l, own_ite, Int32.reduceToInt, ne_eq] at *
  simp only [seqN]
  repeat' (first | omega | split at h_s176_0 | split)
theorem own_sq2_18 (en : Int32) (sur : Int32) (x0 : Int32) (x1 : Int32) (x2 : Int32) (x3 : Int32) (x4 : Int32) (x5 : Int32) (x6 : Int32) (x7 : Int32) (b0 : Int32) (h_b0 : b0 = (x2 &&& (255 : Int32))) (hc24 : ¬ (b0 < (194 : Int32))) (hc32 : ¬ ((223 : Int32) < b0)) (s176_0 : Int32) (h_s176_0 : s176_0 = (if (en - (2 : Int32)) < (2 : Int32) then (0 : Int32) else (1 : Int32))) (hc183 : ¬ (s176_0 = (0 : Int32))) (cb : Int32) (h_cb : cb = (x3 &&& (255 : Int32))) (s254_0 : Int32) (h_s254_0 : s254_0 = (if cb < (128 : Int32) then (0 : Int32) else (if (191 : Int32) < cb then (0 : Int32) else (1 : Int32)))) (hc183_39 : s254_0 = (0 : Int32)) : (-1 : Int32) = (seqZ (2 : Int32) (x2 &&& (255 : Int32)) (x3 &&& (255 : Int32)) (x4 &&& (255 : Int32)) (x5 &&& (255 : Int32)) (en - (2 : Int32)) sur) := by
  have e := @seqZ_0 (2 : Int32) (x2 &&& 255) (x3 &&& 255) (x4 &&& 255) (x5 &&& 255) (en - (2 : Int32)) sur
  refine e ?_
  clear e
  generalize x2 &&& 255 = y0 at *
  generalize x3 &&& 255 = y1 at *
  generalize x4 &&& 255 = y2 at *
  generalize x5 &&& 255 = y3 at *
  generalize en - (2 : Int32) = dd at *
  simp only [own_i, own_l, own_ite, Int32.reduceToInt, ne_eq] at *
  simp only [seqN]
  repeat' (first | omega | split at h_s176_0 | split at h_s254_0 | split)
theorem own_sq2_19 (en : Int32) (sur : Int32) (x0 : Int32) (x1 : Int32) (x2 : Int32) (x3 : Int32) (x4 : Int32) (x5 : Int32) (x6 : Int32) (x7 : Int32) (b0 : Int32) (h_b0 : b0 = (x2 &&& (255 : Int32))) (hc24 : ¬ (b0 < (194 : Int32))) (hc32 : ¬ ((223 : Int32) < b0)) (s176_0 : Int32) (h_s176_0 : s176_0 = (if (en - (2 : Int32)) < (2 : Int32) then (0 : Int32) else (1 : Int32))) (hc183 : ¬ (s176_0 = (0 : Int32))) (cb : Int32) (h_cb : cb = (x3 &&& (255 : Int32))) (s254_0 : Int32) (h_s254_0 : s254_0 = (if cb < (128 : Int32) then (0 : Int32) else (if (191 : Int32) < cb then (0 : Int32) else (1 : Int32)))) (hc183_39 : ¬ (s254_0 = (0 : Int32))) : (4 : Int32) = (seqZ (2 : Int32) (x2 &&& (255 : Int32)) (x3 &&& (255 : Int32)) (x4 &&& (255 : Int32)) (x5 &&& (255 : Int32)) (en - (2 : Int32)) sur) := by
  have e := @seqZ_2 (2 : Int32) (x2 &&& 255) (x3 &&& 255) (x4 &&& 255) (x5 &&& 255) (en - (2 : Int32)) sur
  refine Eq.trans (by decide) (e ?_)
  clear e
  generalize x2 &&& 255 = y0 at *
  generalize x3 &&& 255 = y1 at *
  generalize x4 &&& 255 = y2 at *
  generalize x5 &&& 255 = y3 at *
  generalize en - (2 : Int32) = dd at *
  simp only [own_i, own_l, own_ite, Int32.reduceToInt, ne_eq] at *
  simp only [seqN]
  repeat' (first | omega | split at h_s176_0 | split at h_s254_0 | split)
theorem pn_sq2 : plainFor (⟨"com/example/stamp_to_key/stamptokey/Utf8", "sequenceEnd", "([BIIZ)I"⟩ : MethodName) = true := by first | (refine plainFor_of_name ?_; simp [plainName, overriddenIn]; done) | decide +kernel
set_option maxRecDepth 65536 in
set_option maxHeartbeats 40000000 in
theorem c_sq2 (l : Launch) (Z : State) (a0 : Array Value) (hw : ∀ d ∈ tables_1, d.before a0 Z = true) (b : Addr) (en : Int32) (sur : Int32) (x0 : Int32) (x1 : Int32) (x2 : Int32) (x3 : Int32) (x4 : Int32) (x5 : Int32) (x6 : Int32) (x7 : Int32) (h0 : Heap) (n0 : Nat) (Z0 : n0 ≤ h0.size) (A_b : Ar Z h0 b .byte 8 (lst [.int x0, .int x1, .int x2, .int x3, .int x4, .int x5, .int x6, .int x7])) (g_b : n0 ≤ b) :
    Con l Z (⟨"com/example/stamp_to_key/stamptokey/Utf8", "sequenceEnd", "([BIIZ)I"⟩ : MethodName) prog_34_method_5_code 11 (some .int) ({ frames := 0, cells := 0, slots := 0, locals := 0 } : Room) #[(.ref b), .int (2 : Int32), .int en, .int sur] h0 n0 (Q_sq2 Z b en sur x0 x1 x2 x3 x4 x5 x6 x7 h0) [] := by
  refine con_of_wp pn_sq2 (L0 := #[.val ((.ref b)), .val (.int (2 : Int32)), .val (.int en), .val (.int sur), .unset, .unset, .unset, .unset, .unset, .unset, .unset]) (fun m => by first | (simp [entryFrame, mkF, argsToLocals, Value.category]; done) | rfl) (fun X hl ok => ?_)
  subst hl
  have hK : Konst Z a0 "com/example/stamp_to_key/stamptokey/Utf8" k_sq2 := trivial
  refine wp_run ok hK (B := [(0, .aload_n 0, false), (1, .iload_n 1, false)]) (by decide +kernel) (ps := []) (pc' := 2) (L' := #[.val ((.ref b)), .val (.int (2 : Int32)), .val (.int en), .val (.int sur), .unset, .unset, .unset, .unset, .unset, .unset, .unset]) (S' := [.int (2 : Int32), (.ref b)]) rfl trivial ?_
  refine wp_aB ok A_b (i := 2) (v := .int x2) (by rfl) (by decide) rfl (by decide +kernel) ?_
  refine wp_run ok hK (B := [(3, .sipush 255, false), (6, .iand, false), (7, .istore 4, false)]) (by decide +kernel) (ps := []) (pc' := 9) (L' := #[.val ((.ref b)), .val (.int (2 : Int32)), .val (.int en), .val (.int sur), .val (.int (x2 &&& (255 : Int32))), .unset, .unset, .unset, .unset, .unset, .unset]) (S' := []) rfl trivial ?_
  obtain ⟨b0, h_b0⟩ : ∃ z : Int32, z = (x2 &&& (255 : Int32)) := ⟨_, rfl⟩
  rw [← h_b0]
  refine wp_run ok hK (B := [(9, .sipush 128, false), (12, .istore 6, false), (14, .sipush 191, false), (17, .istore 7, false)]) (by decide +kernel) (ps := []) (pc' := 19) (L' := #[.val ((.ref b)), .val (.int (2 : Int32)), .val (.int en), .val (.int sur), .val (.int b0), .unset, .val (.int (128 : Int32)), .val (.int (191 : Int32)), .unset, .unset, .unset]) (S' := []) rfl trivial ?_
  refine wp_run ok hK (B := [(19, .iload 4, false), (21, .sipush 194, false)]) (by decide +kernel) (ps := []) (pc' := 24) (L' := #[.val ((.ref b)), .val (.int (2 : Int32)), .val (.int en), .val (.int sur), .val (.int b0), .unset, .val (.int (128 : Int32)), .val (.int (191 : Int32)), .unset, .unset, .unset]) (S' := [.int (194 : Int32), .int b0]) rfl trivial ?_
  by_cases hc24 : b0 < (194 : Int32)
  · refine wp_run ok hK (B := [(24, .if_icmp .lt 17, true)]) (by decide +kernel) (ps := [Op.if_icmp.holds .lt b0 (194 : Int32) = true]) (pc' := 41) (L' := #[.val ((.ref b)), .val (.int (2 : Int32)), .val (.int en), .val (.int sur), .val (.int b0), .unset, .val (.int (128 : Int32)), .val (.int (191 : Int32)), .unset, .unset, .unset]) (S' := []) rfl ⟨(XT.ii_lt_t hc24), trivial⟩ ?_
    refine wp_run ok hK (B := [(41, .iload 4, false), (43, .sipush 224, false), (46, .if_icmp .lt 57, true), (103, .iload 4, false), (105, .sipush 240, false), (108, .if_icmp .lt 53, true), (161, .iconst (-1), false)]) (by decide +kernel) (ps := [Op.if_icmp.holds .lt b0 (224 : Int32) = true, Op.if_icmp.holds .lt b0 (240 : Int32) = true]) (pc' := 162) (L' := #[.val ((.ref b)), .val (.int (2 : Int32)), .val (.int en), .val (.int sur), .val (.int b0), .unset, .val (.int (128 : Int32)), .val (.int (191 : Int32)), .unset, .unset, .unset]) (S' := [.int (-1 : Int32)]) rfl ⟨(XT.ii_lt_t (own_sq2_1 en sur x0 x1 x2 x3 x4 x5 x6 x7 b0 h_b0 hc24)), (XT.ii_lt_t (own_sq2_2 en sur x0 x1 x2 x3 x4 x5 x6 x7 b0 h_b0 hc24)), trivial⟩ ?_
    refine wp_retI ok (by decide +kernel) (by decide) (by decide) ?_
    exact ⟨congrArg (fun z => some (Value.int z)) (own_sq2_3 en sur x0 x1 x2 x3 x4 x5 x6 x7 b0 h_b0 hc24), rfl⟩
  · refine wp_run ok hK (B := [(24, .if_icmp .lt 17, false)]) (by decide +kernel) (ps := [Op.if_icmp.holds .lt b0 (194 : Int32) = false]) (pc' := 27) (L' := #[.val ((.ref b)), .val (.int (2 : Int32)), .val (.int en), .val (.int sur), .val (.int b0), .unset, .val (.int (128 : Int32)), .val (.int (191 : Int32)), .unset, .unset, .unset]) (S' := []) rfl ⟨(XT.ii_lt_f hc24), trivial⟩ ?_
    refine wp_run ok hK (B := [(27, .iload 4, false), (29, .sipush 223, false)]) (by decide +kernel) (ps := []) (pc' := 32) (L' := #[.val ((.ref b)), .val (.int (2 : Int32)), .val (.int en), .val (.int sur), .val (.int b0), .unset, .val (.int (128 : Int32)), .val (.int (191 : Int32)), .unset, .unset, .unset]) (S' := [.int (223 : Int32), .int b0]) rfl trivial ?_
    by_cases hc32 : (223 : Int32) < b0
    · refine wp_run ok hK (B := [(32, .if_icmp .gt 9, true)]) (by decide +kernel) (ps := [Op.if_icmp.holds .gt b0 (223 : Int32) = true]) (pc' := 41) (L' := #[.val ((.ref b)), .val (.int (2 : Int32)), .val (.int en), .val (.int sur), .val (.int b0), .unset, .val (.int (128 : Int32)), .val (.int (191 : Int32)), .unset, .unset, .unset]) (S' := []) rfl ⟨(XT.ii_gt_t hc32), trivial⟩ ?_
      refine wp_run ok hK (B := [(41, .iload 4, false), (43, .sipush 224, false)]) (by decide +kernel) (ps := []) (pc' := 46) (L' := #[.val ((.ref b)), .val (.int (2 : Int32)), .val (.int en), .val (.int sur), .val (.int b0), .unset, .val (.int (128 : Int32)), .val (.int (191 : Int32)), .unset, .unset, .unset]) (S' := [.int (224 : Int32), .int b0]) rfl trivial ?_
      by_cases hc46 : b0 < (224 : Int32)
      · refine wp_run ok hK (B := [(46, .if_icmp .lt 57, true)]) (by decide +kernel) (ps := [Op.if_icmp.holds .lt b0 (224 : Int32) = true]) (pc' := 103) (L' := #[.val ((.ref b)), .val (.int (2 : Int32)), .val (.int en), .val (.int sur), .val (.int b0), .unset, .val (.int (128 : Int32)), .val (.int (191 : Int32)), .unset, .unset, .unset]) (S' := []) rfl ⟨(XT.ii_lt_t hc46), trivial⟩ ?_
        refine wp_run ok hK (B := [(103, .iload 4, false), (105, .sipush 240, false), (108, .if_icmp .lt 53, true), (161, .iconst (-1), false)]) (by decide +kernel) (ps := [Op.if_icmp.holds .lt b0 (240 : Int32) = true]) (pc' := 162) (L' := #[.val ((.ref b)), .val (.int (2 : Int32)), .val (.int en), .val (.int sur), .val (.int b0), .unset, .val (.int (128 : Int32)), .val (.int (191 : Int32)), .unset, .unset, .unset]) (S' := [.int (-1 : Int32)]) rfl ⟨(XT.ii_lt_t (own_sq2_4 en sur x0 x1 x2 x3 x4 x5 x6 x7 b0 h_b0 hc24 hc32 hc46)), trivial⟩ ?_
        refine wp_retI ok (by decide +kernel) (by decide) (by decide) ?_
        exact ⟨congrArg (fun z => some (Value.int z)) (own_sq2_5 en sur x0 x1 x2 x3 x4 x5 x6 x7 b0 h_b0 hc24 hc32 hc46), rfl⟩
      · refine wp_run ok hK (B := [(46, .if_icmp .lt 57, false)]) (by decide +kernel) (ps := [Op.if_icmp.holds .lt b0 (224 : Int32) = false]) (pc' := 49) (L' := #[.val ((.ref b)), .val (.int (2 : Int32)), .val (.int en), .val (.int sur), .val (.int b0), .unset, .val (.int (128 : Int32)), .val (.int (191 : Int32)), .unset, .unset, .unset]) (S' := []) rfl ⟨(XT.ii_lt_f hc46), trivial⟩ ?_
        refine wp_run ok hK (B := [(49, .iload 4, false), (51, .sipush 239, false)]) (by decide +kernel) (ps := []) (pc' := 54) (L' := #[.val ((.ref b)), .val (.int (2 : Int32)), .val (.int en), .val (.int sur), .val (.int b0), .unset, .val (.int (128 : Int32)), .val (.int (191 : Int32)), .unset, .unset, .unset]) (S' := [.int (239 : Int32), .int b0]) rfl trivial ?_
        by_cases hc54 : (239 : Int32) < b0
        · refine wp_run ok hK (B := [(54, .if_icmp .gt 49, true)]) (by decide +kernel) (ps := [Op.if_icmp.holds .gt b0 (239 : Int32) = true]) (pc' := 103) (L' := #[.val ((.ref b)), .val (.int (2 : Int32)), .val (.int en), .val (.int sur), .val (.int b0), .unset, .val (.int (128 : Int32)), .val (.int (191 : Int32)), .unset, .unset, .unset]) (S' := []) rfl ⟨(XT.ii_gt_t hc54), trivial⟩ ?_
          refine wp_run ok hK (B := [(103, .iload 4, false), (105, .sipush 240, false)]) (by decide +kernel) (ps := []) (pc' := 108) (L' := #[.val ((.ref b)), .val (.int (2 : Int32)), .val (.int en), .val (.int sur), .val (.int b0), .unset, .val (.int (128 : Int32)), .val (.int (191 : Int32)), .unset, .unset, .unset]) (S' := [.int (240 : Int32), .int b0]) rfl trivial ?_
          by_cases hc108 : b0 < (240 : Int32)
          · refine wp_run ok hK (B := [(108, .if_icmp .lt 53, true)]) (by decide +kernel) (ps := [Op.if_icmp.holds .lt b0 (240 : Int32) = true]) (pc' := 161) (L' := #[.val ((.ref b)), .val (.int (2 : Int32)), .val (.int en), .val (.int sur), .val (.int b0), .unset, .val (.int (128 : Int32)), .val (.int (191 : Int32)), .unset, .unset, .unset]) (S' := []) rfl ⟨(XT.ii_lt_t hc108), trivial⟩ ?_
            refine wp_run ok hK (B := [(161, .iconst (-1), false)]) (by decide +kernel) (ps := []) (pc' := 162) (L' := #[.val ((.ref b)), .val (.int (2 : Int32)), .val (.int en), .val (.int sur), .val (.int b0), .unset, .val (.int (128 : Int32)), .val (.int (191 : Int32)), .unset, .unset, .unset]) (S' := [.int (-1 : Int32)]) rfl trivial ?_
            refine wp_retI ok (by decide +kernel) (by decide) (by decide) ?_
            exact ⟨congrArg (fun z => some (Value.int z)) (own_sq2_6 en sur x0 x1 x2 x3 x4 x5 x6 x7 b0 h_b0 hc24 hc32 hc46 hc54 hc108), rfl⟩
          · refine wp_run ok hK (B := [(108, .if_icmp .lt 53, false)]) (by decide +kernel) (ps := [Op.if_icmp.holds .lt b0 (240 : Int32) = false]) (pc' := 111) (L' := #[.val ((.ref b)), .val (.int (2 : Int32)), .val (.int en), .val (.int sur), .val (.int b0), .unset, .val (.int (128 : Int32)), .val (.int (191 : Int32)), .unset, .unset, .unset]) (S' := []) rfl ⟨(XT.ii_lt_f hc108), trivial⟩ ?_
            refine wp_run ok hK (B := [(111, .iload 4, false), (113, .sipush 244, false)]) (by decide +kernel) (ps := []) (pc' := 116) (L' := #[.val ((.ref b)), .val (.int (2 : Int32)), .val (.int en), .val (.int sur), .val (.int b0), .unset, .val (.int (128 : Int32)), .val (.int (191 : Int32)), .unset, .unset, .unset]) (S' := [.int (244 : Int32), .int b0]) rfl trivial ?_
            by_cases hc116 : (244 : Int32) < b0
            · refine wp_run ok hK (B := [(116, .if_icmp .gt 45, true)]) (by decide +kernel) (ps := [Op.if_icmp.holds .gt b0 (244 : Int32) = true]) (pc' := 161) (L' := #[.val ((.ref b)), .val (.int (2 : Int32)), .val (.int en), .val (.int sur), .val (.int b0), .unset, .val (.int (128 : Int32)), .val (.int (191 : Int32)), .unset, .unset, .unset]) (S' := []) rfl ⟨(XT.ii_gt_t hc116), trivial⟩ ?_
              refine wp_run ok hK (B := [(161, .iconst (-1), false)]) (by decide +kernel) (ps := []) (pc' := 162) (L' := #[.val ((.ref b)), .val (.int (2 : Int32)), .val (.int en), .val (.int sur), .val (.int b0), .unset, .val (.int (128 : Int32)), .val (.int (191 : Int32)), .unset, .unset, .unset]) (S' := [.int (-1 : Int32)]) rfl trivial ?_
              refine wp_retI ok (by decide +kernel) (by decide) (by decide) ?_
              exact ⟨congrArg (fun z => some (Value.int z)) (own_sq2_7 en sur x0 x1 x2 x3 x4 x5 x6 x7 b0 h_b0 hc24 hc32 hc46 hc54 hc108 hc116), rfl⟩
            · refine wp_run ok hK (B := [(116, .if_icmp .gt 45, false)]) (by decide +kernel) (ps := [Op.if_icmp.holds .gt b0 (244 : Int32) = false]) (pc' := 119) (L' := #[.val ((.ref b)), .val (.int (2 : Int32)), .val (.int en), .val (.int sur), .val (.int b0), .unset, .val (.int (128 : Int32)), .val (.int (191 : Int32)), .unset, .unset, .unset]) (S' := []) rfl ⟨(XT.ii_gt_f hc116), trivial⟩ ?_
              refine wp_run ok hK (B := [(119, .iconst 4, false), (120, .istore 5, false), (122, .iload 4, false), (124, .sipush 240, false)]) (by decide +kernel) (ps := []) (pc' := 127) (L' := #[.val ((.ref b)), .val (.int (2 : Int32)), .val (.int en), .val (.int sur), .val (.int b0), .val (.int (4 : Int32)), .val (.int (128 : Int32)), .val (.int (191 : Int32)), .unset, .unset, .unset]) (S' := [.int (240 : Int32), .int b0]) rfl trivial ?_
              have J138_2 : ∀ (s138_0 : Int32) (h_s138_0 : s138_0 = (if b0 = (240 : Int32) then (144 : Int32) else (128 : Int32))), WP X n0 (Q_sq2 Z b en sur x0 x1 x2 x3 x4 x5 x6 x7 h0) h0 0 0 138 #[.val ((.ref b)), .val (.int (2 : Int32)), .val (.int en), .val (.int sur), .val (.int b0), .val (.int (4 : Int32)), .val (.int (128 : Int32)), .val (.int (191 : Int32)), .unset, .unset, .unset] [.int s138_0] := by
                intro s138_0 h_s138_0
                refine wp_run ok hK (B := [(138, .istore 6, false), (140, .iload 4, false), (142, .sipush 244, false)]) (by decide +kernel) (ps := []) (pc' := 145) (L' := #[.val ((.ref b)), .val (.int (2 : Int32)), .val (.int en), .val (.int sur), .val (.int b0), .val (.int (4 : Int32)), .val (.int s138_0), .val (.int (191 : Int32)), .unset, .unset, .unset]) (S' := [.int (244 : Int32), .int b0]) rfl trivial ?_
                have J156_4 : ∀ (s156_0 : Int32) (h_s156_0 : s156_0 = (if b0 = (244 : Int32) then (143 : Int32) else (191 : Int32))), WP X n0 (Q_sq2 Z b en sur x0 x1 x2 x3 x4 x5 x6 x7 h0) h0 0 0 156 #[.val ((.ref b)), .val (.int (2 : Int32)), .val (.int en), .val (.int sur), .val (.int b0), .val (.int (4 : Int32)), .val (.int s138_0), .val (.int (191 : Int32)), .unset, .unset, .unset] [.int s156_0] := by
                  intro s156_0 h_s156_0
                  refine wp_run ok hK (B := [(156, .istore 7, false), (158, .goto 5, false), (163, .iload_n 2, false), (164, .iload_n 1, false), (165, .isub, false), (166, .iload 5, false)]) (by decide +kernel) (ps := []) (pc' := 168) (L' := #[.val ((.ref b)), .val (.int (2 : Int32)), .val (.int en), .val (.int sur), .val (.int b0), .val (.int (4 : Int32)), .val (.int s138_0), .val (.int s156_0), .unset, .unset, .unset]) (S' := [.int (4 : Int32), .int (en - (2 : Int32))]) rfl trivial ?_
                  have J176_6 : ∀ (s176_0 : Int32) (h_s176_0 : s176_0 = (if (en - (2 : Int32)) < (4 : Int32) then (0 : Int32) else (1 : Int32))), WP X n0 (Q_sq2 Z b en sur x0 x1 x2 x3 x4 x5 x6 x7 h0) h0 0 0 176 #[.val ((.ref b)), .val (.int (2 : Int32)), .val (.int en), .val (.int sur), .val (.int b0), .val (.int (4 : Int32)), .val (.int s138_0), .val (.int s156_0), .unset, .unset, .unset] [.int s176_0] := by
                    intro s176_0 h_s176_0
                    refine wp_run ok hK (B := [(176, .istore 8, false), (178, .iconst 1, false), (179, .istore 9, false)]) (by decide +kernel) (ps := []) (pc' := 181) (L' := #[.val ((.ref b)), .val (.int (2 : Int32)), .val (.int en), .val (.int sur), .val (.int b0), .val (.int (4 : Int32)), .val (.int s138_0), .val (.int s156_0), .val (.int s176_0), .val (.int (1 : Int32)), .unset]) (S' := []) rfl trivial ?_
                    refine wp_run ok hK (B := [(181, .iload 8, false)]) (by decide +kernel) (ps := []) (pc' := 183) (L' := #[.val ((.ref b)), .val (.int (2 : Int32)), .val (.int en), .val (.int sur), .val (.int b0), .val (.int (4 : Int32)), .val (.int s138_0), .val (.int s156_0), .val (.int s176_0), .val (.int (1 : Int32)), .unset]) (S' := [.int s176_0]) rfl trivial ?_
                    by_cases hc183 : s176_0 = (0 : Int32)
                    · refine wp_run ok hK (B := [(183, .ifCond .eq 79, true)]) (by decide +kernel) (ps := [Op.ifCond.holds .eq s176_0 = true]) (pc' := 262) (L' := #[.val ((.ref b)), .val (.int (2 : Int32)), .val (.int en), .val (.int sur), .val (.int b0), .val (.int (4 : Int32)), .val (.int s138_0), .val (.int s156_0), .val (.int s176_0), .val (.int (1 : Int32)), .unset]) (S' := []) rfl ⟨(XT.i0_eq_t hc183), trivial⟩ ?_
                      refine wp_run ok hK (B := [(262, .iload 8, false), (264, .ifCond .eq 10, true), (274, .iconst (-1), false)]) (by decide +kernel) (ps := [Op.ifCond.holds .eq s176_0 = true]) (pc' := 275) (L' := #[.val ((.ref b)), .val (.int (2 : Int32)), .val (.int en), .val (.int sur), .val (.int b0), .val (.int (4 : Int32)), .val (.int s138_0), .val (.int s156_0), .val (.int s176_0), .val (.int (1 : Int32)), .unset]) (S' := [.int (-1 : Int32)]) rfl ⟨(XT.i0_eq_t hc183), trivial⟩ ?_
                      refine wp_retI ok (by decide +kernel) (by decide) (by decide) ?_
                      exact ⟨congrArg (fun z => some (Value.int z)) (own_sq2_8 en sur x0 x1 x2 x3 x4 x5 x6 x7 b0 h_b0 hc24 hc32 hc46 hc54 hc108 hc116 s138_0 h_s138_0 s156_0 h_s156_0 s176_0 h_s176_0 hc183), rfl⟩
                    · refine wp_run ok hK (B := [(183, .ifCond .eq 79, false)]) (by decide +kernel) (ps := [Op.ifCond.holds .eq s176_0 = false]) (pc' := 186) (L' := #[.val ((.ref b)), .val (.int (2 : Int32)), .val (.int en), .val (.int sur), .val (.int b0), .val (.int (4 : Int32)), .val (.int s138_0), .val (.int s156_0), .val (.int s176_0), .val (.int (1 : Int32)), .unset]) (S' := []) rfl ⟨(XT.i0_eq_f hc183), trivial⟩ ?_
                      refine wp_run ok hK (B := [(186, .iload 9, false), (188, .iload 5, false), (190, .if_icmp .ge 72, false), (193, .aload_n 0, false), (194, .iload_n 1, false), (195, .iload 9, false), (197, .iadd, false)]) (by decide +kernel) (ps := [Op.if_icmp.holds .ge (1 : Int32) (4 : Int32) = false]) (pc' := 198) (L' := #[.val ((.ref b)), .val (.int (2 : Int32)), .val (.int en), .val (.int sur), .val (.int b0), .val (.int (4 : Int32)), .val (.int s138_0), .val (.int s156_0), .val (.int s176_0), .val (.int (1 : Int32)), .unset]) (S' := [.int (3 : Int32), (.ref b)]) rfl ⟨(XT.ii_ge_f (by decide)), trivial⟩ ?_
                      refine wp_aB ok A_b (i := 3) (v := .int x3) (by rfl) (by decide) rfl (by decide +kernel) ?_
                      refine wp_run ok hK (B := [(199, .sipush 255, false), (202, .iand, false), (203, .istore 10, false)]) (by decide +kernel) (ps := []) (pc' := 205) (L' := #[.val ((.ref b)), .val (.int (2 : Int32)), .val (.int en), .val (.int sur), .val (.int b0), .val (.int (4 : Int32)), .val (.int s138_0), .val (.int s156_0), .val (.int s176_0), .val (.int (1 : Int32)), .val (.int (x3 &&& (255 : Int32)))]) (S' := []) rfl trivial ?_
                      obtain ⟨cb, h_cb⟩ : ∃ z : Int32, z = (x3 &&& (255 : Int32)) := ⟨_, rfl⟩
                      rw [← h_cb]
                      refine wp_run ok hK (B := [(205, .iload 9, false), (207, .iconst 1, false), (208, .if_icmp .ne 25, false), (211, .iload 10, false), (213, .iload 6, false)]) (by decide +kernel) (ps := [Op.if_icmp.holds .ne (1 : Int32) (1 : Int32) = false]) (pc' := 215) (L' := #[.val ((.ref b)), .val (.int (2 : Int32)), .val (.int en), .val (.int sur), .val (.int b0), .val (.int (4 : Int32)), .val (.int s138_0), .val (.int s156_0), .val (.int s176_0), .val (.int (1 : Int32)), .val (.int cb)]) (S' := [.int s138_0, .int cb]) rfl ⟨(XT.ii_ne_f (by decide)), trivial⟩ ?_
                      have J254_9 : ∀ (s254_0 : Int32) (h_s254_0 : s254_0 = (if cb < s138_0 then (0 : Int32) else (if s156_0 < cb then (0 : Int32) else (1 : Int32)))), WP X n0 (Q_sq2 Z b en sur x0 x1 x2 x3 x4 x5 x6 x7 h0) h0 0 0 254 #[.val ((.ref b)), .val (.int (2 : Int32)), .val (.int en), .val (.int sur), .val (.int b0), .val (.int (4 : Int32)), .val (.int s138_0), .val (.int s156_0), .val (.int s176_0), .val (.int (1 : Int32)), .val (.int cb)] [.int s254_0] := by
                        intro s254_0 h_s254_0
                        refine wp_run ok hK (B := [(254, .istore 8, false), (256, .iinc 9 1, false)]) (by decide +kernel) (ps := []) (pc' := 259) (L' := #[.val ((.ref b)), .val (.int (2 : Int32)), .val (.int en), .val (.int sur), .val (.int b0), .val (.int (4 : Int32)), .val (.int s138_0), .val (.int s156_0), .val (.int s254_0), .val (.int (2 : Int32)), .val (.int cb)]) (S' := []) rfl trivial ?_
                        refine wp_run ok hK (B := [(259, .goto (-78), false), (181, .iload 8, false)]) (by decide +kernel) (ps := []) (pc' := 183) (L' := #[.val ((.ref b)), .val (.int (2 : Int32)), .val (.int en), .val (.int sur), .val (.int b0), .val (.int (4 : Int32)), .val (.int s138_0), .val (.int s156_0), .val (.int s254_0), .val (.int (2 : Int32)), .val (.int cb)]) (S' := [.int s254_0]) rfl trivial ?_
                        by_cases hc183_10 : s254_0 = (0 : Int32)
                        · refine wp_run ok hK (B := [(183, .ifCond .eq 79, true)]) (by decide +kernel) (ps := [Op.ifCond.holds .eq s254_0 = true]) (pc' := 262) (L' := #[.val ((.ref b)), .val (.int (2 : Int32)), .val (.int en), .val (.int sur), .val (.int b0), .val (.int (4 : Int32)), .val (.int s138_0), .val (.int s156_0), .val (.int s254_0), .val (.int (2 : Int32)), .val (.int cb)]) (S' := []) rfl ⟨(XT.i0_eq_t hc183_10), trivial⟩ ?_
                          refine wp_run ok hK (B := [(262, .iload 8, false), (264, .ifCond .eq 10, true), (274, .iconst (-1), false)]) (by decide +kernel) (ps := [Op.ifCond.holds .eq s254_0 = true]) (pc' := 275) (L' := #[.val ((.ref b)), .val (.int (2 : Int32)), .val (.int en), .val (.int sur), .val (.int b0), .val (.int (4 : Int32)), .val (.int s138_0), .val (.int s156_0), .val (.int s254_0), .val (.int (2 : Int32)), .val (.int cb)]) (S' := [.int (-1 : Int32)]) rfl ⟨(XT.i0_eq_t hc183_10), trivial⟩ ?_
                          refine wp_retI ok (by decide +kernel) (by decide) (by decide) ?_
                          exact ⟨congrArg (fun z => some (Value.int z)) (own_sq2_9 en sur x0 x1 x2 x3 x4 x5 x6 x7 b0 h_b0 hc24 hc32 hc46 hc54 hc108 hc116 s138_0 h_s138_0 s156_0 h_s156_0 s176_0 h_s176_0 hc183 cb h_cb s254_0 h_s254_0 hc183_10), rfl⟩
                        · refine wp_run ok hK (B := [(183, .ifCond .eq 79, false)]) (by decide +kernel) (ps := [Op.ifCond.holds .eq s254_0 = false]) (pc' := 186) (L' := #[.val ((.ref b)), .val (.int (2 : Int32)), .val (.int en), .val (.int sur), .val (.int b0), .val (.int (4 : Int32)), .val (.int s138_0), .val (.int s156_0), .val (.int s254_0), .val (.int (2 : Int32)), .val (.int cb)]) (S' := []) rfl ⟨(XT.i0_eq_f hc183_10), trivial⟩ ?_
                          refine wp_run ok hK (B := [(186, .iload 9, false), (188, .iload 5, false), (190, .if_icmp .ge 72, false), (193, .aload_n 0, false), (194, .iload_n 1, false), (195, .iload 9, false), (197, .iadd, false)]) (by decide +kernel) (ps := [Op.if_icmp.holds .ge (2 : Int32) (4 : Int32) = false]) (pc' := 198) (L' := #[.val ((.ref b)), .val (.int (2 : Int32)), .val (.int en), .val (.int sur), .val (.int b0), .val (.int (4 : Int32)), .val (.int s138_0), .val (.int s156_0), .val (.int s254_0), .val (.int (2 : Int32)), .val (.int cb)]) (S' := [.int (4 : Int32), (.ref b)]) rfl ⟨(XT.ii_ge_f (by decide)), trivial⟩ ?_
                          refine wp_aB ok A_b (i := 4) (v := .int x4) (by rfl) (by decide) rfl (by decide +kernel) ?_
                          refine wp_run ok hK (B := [(199, .sipush 255, false), (202, .iand, false), (203, .istore 10, false)]) (by decide +kernel) (ps := []) (pc' := 205) (L' := #[.val ((.ref b)), .val (.int (2 : Int32)), .val (.int en), .val (.int sur), .val (.int b0), .val (.int (4 : Int32)), .val (.int s138_0), .val (.int s156_0), .val (.int s254_0), .val (.int (2 : Int32)), .val (.int (x4 &&& (255 : Int32)))]) (S' := []) rfl trivial ?_
                          obtain ⟨cbb, h_cbb⟩ : ∃ z : Int32, z = (x4 &&& (255 : Int32)) := ⟨_, rfl⟩
                          rw [← h_cbb]
                          refine wp_run ok hK (B := [(205, .iload 9, false), (207, .iconst 1, false), (208, .if_icmp .ne 25, true), (233, .iload 10, false), (235, .sipush 128, false)]) (by decide +kernel) (ps := [Op.if_icmp.holds .ne (2 : Int32) (1 : Int32) = true]) (pc' := 238) (L' := #[.val ((.ref b)), .val (.int (2 : Int32)), .val (.int en), .val (.int sur), .val (.int b0), .val (.int (4 : Int32)), .val (.int s138_0), .val (.int s156_0), .val (.int s254_0), .val (.int (2 : Int32)), .val (.int cbb)]) (S' := [.int (128 : Int32), .int cbb]) rfl ⟨(XT.ii_ne_t (by decide)), trivial⟩ ?_
                          have J254_13 : ∀ (s254_0b : Int32) (h_s254_0b : s254_0b = (if cbb < (128 : Int32) then (0 : Int32) else (if (191 : Int32) < cbb then (0 : Int32) else (1 : Int32)))), WP X n0 (Q_sq2 Z b en sur x0 x1 x2 x3 x4 x5 x6 x7 h0) h0 0 0 254 #[.val ((.ref b)), .val (.int (2 : Int32)), .val (.int en), .val (.int sur), .val (.int b0), .val (.int (4 : Int32)), .val (.int s138_0), .val (.int s156_0), .val (.int s254_0), .val (.int (2 : Int32)), .val (.int cbb)] [.int s254_0b] := by
                            intro s254_0b h_s254_0b
                            refine wp_run ok hK (B := [(254, .istore 8, false), (256, .iinc 9 1, false)]) (by decide +kernel) (ps := []) (pc' := 259) (L' := #[.val ((.ref b)), .val (.int (2 : Int32)), .val (.int en), .val (.int sur), .val (.int b0), .val (.int (4 : Int32)), .val (.int s138_0), .val (.int s156_0), .val (.int s254_0b), .val (.int (3 : Int32)), .val (.int cbb)]) (S' := []) rfl trivial ?_
                            refine wp_run ok hK (B := [(259, .goto (-78), false), (181, .iload 8, false)]) (by decide +kernel) (ps := []) (pc' := 183) (L' := #[.val ((.ref b)), .val (.int (2 : Int32)), .val (.int en), .val (.int sur), .val (.int b0), .val (.int (4 : Int32)), .val (.int s138_0), .val (.int s156_0), .val (.int s254_0b), .val (.int (3 : Int32)), .val (.int cbb)]) (S' := [.int s254_0b]) rfl trivial ?_
                            by_cases hc183_14 : s254_0b = (0 : Int32)
                            · refine wp_run ok hK (B := [(183, .ifCond .eq 79, true)]) (by decide +kernel) (ps := [Op.ifCond.holds .eq s254_0b = true]) (pc' := 262) (L' := #[.val ((.ref b)), .val (.int (2 : Int32)), .val (.int en), .val (.int sur), .val (.int b0), .val (.int (4 : Int32)), .val (.int s138_0), .val (.int s156_0), .val (.int s254_0b), .val (.int (3 : Int32)), .val (.int cbb)]) (S' := []) rfl ⟨(XT.i0_eq_t hc183_14), trivial⟩ ?_
                              refine wp_run ok hK (B := [(262, .iload 8, false), (264, .ifCond .eq 10, true), (274, .iconst (-1), false)]) (by decide +kernel) (ps := [Op.ifCond.holds .eq s254_0b = true]) (pc' := 275) (L' := #[.val ((.ref b)), .val (.int (2 : Int32)), .val (.int en), .val (.int sur), .val (.int b0), .val (.int (4 : Int32)), .val (.int s138_0), .val (.int s156_0), .val (.int s254_0b), .val (.int (3 : Int32)), .val (.int cbb)]) (S' := [.int (-1 : Int32)]) rfl ⟨(XT.i0_eq_t hc183_14), trivial⟩ ?_
                              refine wp_retI ok (by decide +kernel) (by decide) (by decide) ?_
                              exact ⟨congrArg (fun z => some (Value.int z)) (own_sq2_10 en sur x0 x1 x2 x3 x4 x5 x6 x7 b0 h_b0 hc24 hc32 hc46 hc54 hc108 hc116 s138_0 h_s138_0 s156_0 h_s156_0 s176_0 h_s176_0 hc183 cb h_cb s254_0 h_s254_0 hc183_10 cbb h_cbb s254_0b h_s254_0b hc183_14), rfl⟩
                            · refine wp_run ok hK (B := [(183, .ifCond .eq 79, false)]) (by decide +kernel) (ps := [Op.ifCond.holds .eq s254_0b = false]) (pc' := 186) (L' := #[.val ((.ref b)), .val (.int (2 : Int32)), .val (.int en), .val (.int sur), .val (.int b0), .val (.int (4 : Int32)), .val (.int s138_0), .val (.int s156_0), .val (.int s254_0b), .val (.int (3 : Int32)), .val (.int cbb)]) (S' := []) rfl ⟨(XT.i0_eq_f hc183_14), trivial⟩ ?_
                              refine wp_run ok hK (B := [(186, .iload 9, false), (188, .iload 5, false), (190, .if_icmp .ge 72, false), (193, .aload_n 0, false), (194, .iload_n 1, false), (195, .iload 9, false), (197, .iadd, false)]) (by decide +kernel) (ps := [Op.if_icmp.holds .ge (3 : Int32) (4 : Int32) = false]) (pc' := 198) (L' := #[.val ((.ref b)), .val (.int (2 : Int32)), .val (.int en), .val (.int sur), .val (.int b0), .val (.int (4 : Int32)), .val (.int s138_0), .val (.int s156_0), .val (.int s254_0b), .val (.int (3 : Int32)), .val (.int cbb)]) (S' := [.int (5 : Int32), (.ref b)]) rfl ⟨(XT.ii_ge_f (by decide)), trivial⟩ ?_
                              refine wp_aB ok A_b (i := 5) (v := .int x5) (by rfl) (by decide) rfl (by decide +kernel) ?_
                              refine wp_run ok hK (B := [(199, .sipush 255, false), (202, .iand, false), (203, .istore 10, false)]) (by decide +kernel) (ps := []) (pc' := 205) (L' := #[.val ((.ref b)), .val (.int (2 : Int32)), .val (.int en), .val (.int sur), .val (.int b0), .val (.int (4 : Int32)), .val (.int s138_0), .val (.int s156_0), .val (.int s254_0b), .val (.int (3 : Int32)), .val (.int (x5 &&& (255 : Int32)))]) (S' := []) rfl trivial ?_
                              obtain ⟨cbbb, h_cbbb⟩ : ∃ z : Int32, z = (x5 &&& (255 : Int32)) := ⟨_, rfl⟩
                              rw [← h_cbbb]
                              refine wp_run ok hK (B := [(205, .iload 9, false), (207, .iconst 1, false), (208, .if_icmp .ne 25, true), (233, .iload 10, false), (235, .sipush 128, false)]) (by decide +kernel) (ps := [Op.if_icmp.holds .ne (3 : Int32) (1 : Int32) = true]) (pc' := 238) (L' := #[.val ((.ref b)), .val (.int (2 : Int32)), .val (.int en), .val (.int sur), .val (.int b0), .val (.int (4 : Int32)), .val (.int s138_0), .val (.int s156_0), .val (.int s254_0b), .val (.int (3 : Int32)), .val (.int cbbb)]) (S' := [.int (128 : Int32), .int cbbb]) rfl ⟨(XT.ii_ne_t (by decide)), trivial⟩ ?_
                              have J254_17 : ∀ (s254_0bb : Int32) (h_s254_0bb : s254_0bb = (if cbbb < (128 : Int32) then (0 : Int32) else (if (191 : Int32) < cbbb then (0 : Int32) else (1 : Int32)))), WP X n0 (Q_sq2 Z b en sur x0 x1 x2 x3 x4 x5 x6 x7 h0) h0 0 0 254 #[.val ((.ref b)), .val (.int (2 : Int32)), .val (.int en), .val (.int sur), .val (.int b0), .val (.int (4 : Int32)), .val (.int s138_0), .val (.int s156_0), .val (.int s254_0b), .val (.int (3 : Int32)), .val (.int cbbb)] [.int s254_0bb] := by
                                intro s254_0bb h_s254_0bb
                                refine wp_run ok hK (B := [(254, .istore 8, false), (256, .iinc 9 1, false)]) (by decide +kernel) (ps := []) (pc' := 259) (L' := #[.val ((.ref b)), .val (.int (2 : Int32)), .val (.int en), .val (.int sur), .val (.int b0), .val (.int (4 : Int32)), .val (.int s138_0), .val (.int s156_0), .val (.int s254_0bb), .val (.int (4 : Int32)), .val (.int cbbb)]) (S' := []) rfl trivial ?_
                                refine wp_run ok hK (B := [(259, .goto (-78), false), (181, .iload 8, false)]) (by decide +kernel) (ps := []) (pc' := 183) (L' := #[.val ((.ref b)), .val (.int (2 : Int32)), .val (.int en), .val (.int sur), .val (.int b0), .val (.int (4 : Int32)), .val (.int s138_0), .val (.int s156_0), .val (.int s254_0bb), .val (.int (4 : Int32)), .val (.int cbbb)]) (S' := [.int s254_0bb]) rfl trivial ?_
                                by_cases hc183_18 : s254_0bb = (0 : Int32)
                                · refine wp_run ok hK (B := [(183, .ifCond .eq 79, true)]) (by decide +kernel) (ps := [Op.ifCond.holds .eq s254_0bb = true]) (pc' := 262) (L' := #[.val ((.ref b)), .val (.int (2 : Int32)), .val (.int en), .val (.int sur), .val (.int b0), .val (.int (4 : Int32)), .val (.int s138_0), .val (.int s156_0), .val (.int s254_0bb), .val (.int (4 : Int32)), .val (.int cbbb)]) (S' := []) rfl ⟨(XT.i0_eq_t hc183_18), trivial⟩ ?_
                                  refine wp_run ok hK (B := [(262, .iload 8, false), (264, .ifCond .eq 10, true), (274, .iconst (-1), false)]) (by decide +kernel) (ps := [Op.ifCond.holds .eq s254_0bb = true]) (pc' := 275) (L' := #[.val ((.ref b)), .val (.int (2 : Int32)), .val (.int en), .val (.int sur), .val (.int b0), .val (.int (4 : Int32)), .val (.int s138_0), .val (.int s156_0), .val (.int s254_0bb), .val (.int (4 : Int32)), .val (.int cbbb)]) (S' := [.int (-1 : Int32)]) rfl ⟨(XT.i0_eq_t hc183_18), trivial⟩ ?_
                                  refine wp_retI ok (by decide +kernel) (by decide) (by decide) ?_
                                  exact ⟨congrArg (fun z => some (Value.int z)) (own_sq2_11 en sur x0 x1 x2 x3 x4 x5 x6 x7 b0 h_b0 hc24 hc32 hc46 hc54 hc108 hc116 s138_0 h_s138_0 s156_0 h_s156_0 s176_0 h_s176_0 hc183 cb h_cb s254_0 h_s254_0 hc183_10 cbb h_cbb s254_0b h_s254_0b hc183_14 cbbb h_cbbb s254_0bb h_s254_0bb hc183_18), rfl⟩
                                · refine wp_run ok hK (B := [(183, .ifCond .eq 79, false)]) (by decide +kernel) (ps := [Op.ifCond.holds .eq s254_0bb = false]) (pc' := 186) (L' := #[.val ((.ref b)), .val (.int (2 : Int32)), .val (.int en), .val (.int sur), .val (.int b0), .val (.int (4 : Int32)), .val (.int s138_0), .val (.int s156_0), .val (.int s254_0bb), .val (.int (4 : Int32)), .val (.int cbbb)]) (S' := []) rfl ⟨(XT.i0_eq_f hc183_18), trivial⟩ ?_
                                  refine wp_run ok hK (B := [(186, .iload 9, false), (188, .iload 5, false), (190, .if_icmp .ge 72, true), (262, .iload 8, false), (264, .ifCond .eq 10, false), (267, .iload_n 1, false), (268, .iload 5, false), (270, .iadd, false), (271, .goto 4, false)]) (by decide +kernel) (ps := [Op.if_icmp.holds .ge (4 : Int32) (4 : Int32) = true, Op.ifCond.holds .eq s254_0bb = false]) (pc' := 275) (L' := #[.val ((.ref b)), .val (.int (2 : Int32)), .val (.int en), .val (.int sur), .val (.int b0), .val (.int (4 : Int32)), .val (.int s138_0), .val (.int s156_0), .val (.int s254_0bb), .val (.int (4 : Int32)), .val (.int cbbb)]) (S' := [.int (6 : Int32)]) rfl ⟨(XT.ii_ge_t (by decide)), (XT.i0_eq_f hc183_18), trivial⟩ ?_
                                  refine wp_retI ok (by decide +kernel) (by decide) (by decide) ?_
                                  exact ⟨congrArg (fun z => some (Value.int z)) (own_sq2_12 en sur x0 x1 x2 x3 x4 x5 x6 x7 b0 h_b0 hc24 hc32 hc46 hc54 hc108 hc116 s138_0 h_s138_0 s156_0 h_s156_0 s176_0 h_s176_0 hc183 cb h_cb s254_0 h_s254_0 hc183_10 cbb h_cbb s254_0b h_s254_0b hc183_14 cbbb h_cbbb s254_0bb h_s254_0bb hc183_18), rfl⟩
                              by_cases c15 : cbbb < (128 : Int32)
                              · refine wp_run ok hK (B := [(238, .if_icmp .lt 15, true), (253, .iconst 0, false)]) (by decide +kernel) (ps := [Op.if_icmp.holds .lt cbbb (128 : Int32) = true]) (pc' := 254) (L' := #[.val ((.ref b)), .val (.int (2 : Int32)), .val (.int en), .val (.int sur), .val (.int b0), .val (.int (4 : Int32)), .val (.int s138_0), .val (.int s156_0), .val (.int s254_0b), .val (.int (3 : Int32)), .val (.int cbbb)]) (S' := [.int (0 : Int32)]) rfl ⟨(XT.ii_lt_t c15), trivial⟩ ?_
                                exact J254_17 _ (by rw [if_pos c15])
                              · by_cases c16 : (191 : Int32) < cbbb
                                · refine wp_run ok hK (B := [(238, .if_icmp .lt 15, false), (241, .iload 10, false), (243, .sipush 191, false), (246, .if_icmp .gt 7, true), (253, .iconst 0, false)]) (by decide +kernel) (ps := [Op.if_icmp.holds .lt cbbb (128 : Int32) = false, Op.if_icmp.holds .gt cbbb (191 : Int32) = true]) (pc' := 254) (L' := #[.val ((.ref b)), .val (.int (2 : Int32)), .val (.int en), .val (.int sur), .val (.int b0), .val (.int (4 : Int32)), .val (.int s138_0), .val (.int s156_0), .val (.int s254_0b), .val (.int (3 : Int32)), .val (.int cbbb)]) (S' := [.int (0 : Int32)]) rfl ⟨(XT.ii_lt_f c15), (XT.ii_gt_t c16), trivial⟩ ?_
                                  exact J254_17 _ (by rw [if_neg c15, if_pos c16])
                                · refine wp_run ok hK (B := [(238, .if_icmp .lt 15, false), (241, .iload 10, false), (243, .sipush 191, false), (246, .if_icmp .gt 7, false), (249, .iconst 1, false), (250, .goto 4, false)]) (by decide +kernel) (ps := [Op.if_icmp.holds .lt cbbb (128 : Int32) = false, Op.if_icmp.holds .gt cbbb (191 : Int32) = false]) (pc' := 254) (L' := #[.val ((.ref b)), .val (.int (2 : Int32)), .val (.int en), .val (.int sur), .val (.int b0), .val (.int (4 : Int32)), .val (.int s138_0), .val (.int s156_0), .val (.int s254_0b), .val (.int (3 : Int32)), .val (.int cbbb)]) (S' := [.int (1 : Int32)]) rfl ⟨(XT.ii_lt_f c15), (XT.ii_gt_f c16), trivial⟩ ?_
                                  exact J254_17 _ (by rw [if_neg c15, if_neg c16])
                          by_cases c11 : cbb < (128 : Int32)
                          · refine wp_run ok hK (B := [(238, .if_icmp .lt 15, true), (253, .iconst 0, false)]) (by decide +kernel) (ps := [Op.if_icmp.holds .lt cbb (128 : Int32) = true]) (pc' := 254) (L' := #[.val ((.ref b)), .val (.int (2 : Int32)), .val (.int en), .val (.int sur), .val (.int b0), .val (.int (4 : Int32)), .val (.int s138_0), .val (.int s156_0), .val (.int s254_0), .val (.int (2 : Int32)), .val (.int cbb)]) (S' := [.int (0 : Int32)]) rfl ⟨(XT.ii_lt_t c11), trivial⟩ ?_
                            exact J254_13 _ (by rw [if_pos c11])
                          · by_cases c12 : (191 : Int32) < cbb
                            · refine wp_run ok hK (B := [(238, .if_icmp .lt 15, false), (241, .iload 10, false), (243, .sipush 191, false), (246, .if_icmp .gt 7, true), (253, .iconst 0, false)]) (by decide +kernel) (ps := [Op.if_icmp.holds .lt cbb (128 : Int32) = false, Op.if_icmp.holds .gt cbb (191 : Int32) = true]) (pc' := 254) (L' := #[.val ((.ref b)), .val (.int (2 : Int32)), .val (.int en), .val (.int sur), .val (.int b0), .val (.int (4 : Int32)), .val (.int s138_0), .val (.int s156_0), .val (.int s254_0), .val (.int (2 : Int32)), .val (.int cbb)]) (S' := [.int (0 : Int32)]) rfl ⟨(XT.ii_lt_f c11), (XT.ii_gt_t c12), trivial⟩ ?_
                              exact J254_13 _ (by rw [if_neg c11, if_pos c12])
                            · refine wp_run ok hK (B := [(238, .if_icmp .lt 15, false), (241, .iload 10, false), (243, .sipush 191, false), (246, .if_icmp .gt 7, false), (249, .iconst 1, false), (250, .goto 4, false)]) (by decide +kernel) (ps := [Op.if_icmp.holds .lt cbb (128 : Int32) = false, Op.if_icmp.holds .gt cbb (191 : Int32) = false]) (pc' := 254) (L' := #[.val ((.ref b)), .val (.int (2 : Int32)), .val (.int en), .val (.int sur), .val (.int b0), .val (.int (4 : Int32)), .val (.int s138_0), .val (.int s156_0), .val (.int s254_0), .val (.int (2 : Int32)), .val (.int cbb)]) (S' := [.int (1 : Int32)]) rfl ⟨(XT.ii_lt_f c11), (XT.ii_gt_f c12), trivial⟩ ?_
                              exact J254_13 _ (by rw [if_neg c11, if_neg c12])
                      by_cases c7 : cb < s138_0
                      · refine wp_run ok hK (B := [(215, .if_icmp .lt 14, true), (229, .iconst 0, false), (230, .goto 24, false)]) (by decide +kernel) (ps := [Op.if_icmp.holds .lt cb s138_0 = true]) (pc' := 254) (L' := #[.val ((.ref b)), .val (.int (2 : Int32)), .val (.int en), .val (.int sur), .val (.int b0), .val (.int (4 : Int32)), .val (.int s138_0), .val (.int s156_0), .val (.int s176_0), .val (.int (1 : Int32)), .val (.int cb)]) (S' := [.int (0 : Int32)]) rfl ⟨(XT.ii_lt_t c7), trivial⟩ ?_
                        exact J254_9 _ (by rw [if_pos c7])
                      · by_cases c8 : s156_0 < cb
                        · refine wp_run ok hK (B := [(215, .if_icmp .lt 14, false), (218, .iload 10, false), (220, .iload 7, false), (222, .if_icmp .gt 7, true), (229, .iconst 0, false), (230, .goto 24, false)]) (by decide +kernel) (ps := [Op.if_icmp.holds .lt cb s138_0 = false, Op.if_icmp.holds .gt cb s156_0 = true]) (pc' := 254) (L' := #[.val ((.ref b)), .val (.int (2 : Int32)), .val (.int en), .val (.int sur), .val (.int b0), .val (.int (4 : Int32)), .val (.int s138_0), .val (.int s156_0), .val (.int s176_0), .val (.int (1 : Int32)), .val (.int cb)]) (S' := [.int (0 : Int32)]) rfl ⟨(XT.ii_lt_f c7), (XT.ii_gt_t c8), trivial⟩ ?_
                          exact J254_9 _ (by rw [if_neg c7, if_pos c8])
                        · refine wp_run ok hK (B := [(215, .if_icmp .lt 14, false), (218, .iload 10, false), (220, .iload 7, false), (222, .if_icmp .gt 7, false), (225, .iconst 1, false), (226, .goto 28, false)]) (by decide +kernel) (ps := [Op.if_icmp.holds .lt cb s138_0 = false, Op.if_icmp.holds .gt cb s156_0 = false]) (pc' := 254) (L' := #[.val ((.ref b)), .val (.int (2 : Int32)), .val (.int en), .val (.int sur), .val (.int b0), .val (.int (4 : Int32)), .val (.int s138_0), .val (.int s156_0), .val (.int s176_0), .val (.int (1 : Int32)), .val (.int cb)]) (S' := [.int (1 : Int32)]) rfl ⟨(XT.ii_lt_f c7), (XT.ii_gt_f c8), trivial⟩ ?_
                          exact J254_9 _ (by rw [if_neg c7, if_neg c8])
                  by_cases c5 : (en - (2 : Int32)) < (4 : Int32)
                  · refine wp_run ok hK (B := [(168, .if_icmp .lt 7, true), (175, .iconst 0, false)]) (by decide +kernel) (ps := [Op.if_icmp.holds .lt (en - (2 : Int32)) (4 : Int32) = true]) (pc' := 176) (L' := #[.val ((.ref b)), .val (.int (2 : Int32)), .val (.int en), .val (.int sur), .val (.int b0), .val (.int (4 : Int32)), .val (.int s138_0), .val (.int s156_0), .unset, .unset, .unset]) (S' := [.int (0 : Int32)]) rfl ⟨(XT.ii_lt_t c5), trivial⟩ ?_
                    exact J176_6 _ (by rw [if_pos c5])
                  · refine wp_run ok hK (B := [(168, .if_icmp .lt 7, false), (171, .iconst 1, false), (172, .goto 4, false)]) (by decide +kernel) (ps := [Op.if_icmp.holds .lt (en - (2 : Int32)) (4 : Int32) = false]) (pc' := 176) (L' := #[.val ((.ref b)), .val (.int (2 : Int32)), .val (.int en), .val (.int sur), .val (.int b0), .val (.int (4 : Int32)), .val (.int s138_0), .val (.int s156_0), .unset, .unset, .unset]) (S' := [.int (1 : Int32)]) rfl ⟨(XT.ii_lt_f c5), trivial⟩ ?_
                    exact J176_6 _ (by rw [if_neg c5])
                by_cases c3 : b0 = (244 : Int32)
                · refine wp_run ok hK (B := [(145, .if_icmp .ne 9, false), (148, .sipush 143, false), (151, .goto 5, false)]) (by decide +kernel) (ps := [Op.if_icmp.holds .ne b0 (244 : Int32) = false]) (pc' := 156) (L' := #[.val ((.ref b)), .val (.int (2 : Int32)), .val (.int en), .val (.int sur), .val (.int b0), .val (.int (4 : Int32)), .val (.int s138_0), .val (.int (191 : Int32)), .unset, .unset, .unset]) (S' := [.int (143 : Int32)]) rfl ⟨(XT.ii_ne_f c3), trivial⟩ ?_
                  exact J156_4 _ (by rw [if_pos c3])
                · refine wp_run ok hK (B := [(145, .if_icmp .ne 9, true), (154, .iload 7, false)]) (by decide +kernel) (ps := [Op.if_icmp.holds .ne b0 (244 : Int32) = true]) (pc' := 156) (L' := #[.val ((.ref b)), .val (.int (2 : Int32)), .val (.int en), .val (.int sur), .val (.int b0), .val (.int (4 : Int32)), .val (.int s138_0), .val (.int (191 : Int32)), .unset, .unset, .unset]) (S' := [.int (191 : Int32)]) rfl ⟨(XT.ii_ne_t c3), trivial⟩ ?_
                  exact J156_4 _ (by rw [if_neg c3])
              by_cases c1 : b0 = (240 : Int32)
              · refine wp_run ok hK (B := [(127, .if_icmp .ne 9, false), (130, .sipush 144, false), (133, .goto 5, false)]) (by decide +kernel) (ps := [Op.if_icmp.holds .ne b0 (240 : Int32) = false]) (pc' := 138) (L' := #[.val ((.ref b)), .val (.int (2 : Int32)), .val (.int en), .val (.int sur), .val (.int b0), .val (.int (4 : Int32)), .val (.int (128 : Int32)), .val (.int (191 : Int32)), .unset, .unset, .unset]) (S' := [.int (144 : Int32)]) rfl ⟨(XT.ii_ne_f c1), trivial⟩ ?_
                exact J138_2 _ (by rw [if_pos c1])
              · refine wp_run ok hK (B := [(127, .if_icmp .ne 9, true), (136, .iload 6, false)]) (by decide +kernel) (ps := [Op.if_icmp.holds .ne b0 (240 : Int32) = true]) (pc' := 138) (L' := #[.val ((.ref b)), .val (.int (2 : Int32)), .val (.int en), .val (.int sur), .val (.int b0), .val (.int (4 : Int32)), .val (.int (128 : Int32)), .val (.int (191 : Int32)), .unset, .unset, .unset]) (S' := [.int (128 : Int32)]) rfl ⟨(XT.ii_ne_t c1), trivial⟩ ?_
                exact J138_2 _ (by rw [if_neg c1])
        · refine wp_run ok hK (B := [(54, .if_icmp .gt 49, false)]) (by decide +kernel) (ps := [Op.if_icmp.holds .gt b0 (239 : Int32) = false]) (pc' := 57) (L' := #[.val ((.ref b)), .val (.int (2 : Int32)), .val (.int en), .val (.int sur), .val (.int b0), .unset, .val (.int (128 : Int32)), .val (.int (191 : Int32)), .unset, .unset, .unset]) (S' := []) rfl ⟨(XT.ii_gt_f hc54), trivial⟩ ?_
          refine wp_run ok hK (B := [(57, .iconst 3, false), (58, .istore 5, false), (60, .iload 4, false), (62, .sipush 224, false)]) (by decide +kernel) (ps := []) (pc' := 65) (L' := #[.val ((.ref b)), .val (.int (2 : Int32)), .val (.int en), .val (.int sur), .val (.int b0), .val (.int (3 : Int32)), .val (.int (128 : Int32)), .val (.int (191 : Int32)), .unset, .unset, .unset]) (S' := [.int (224 : Int32), .int b0]) rfl trivial ?_
          have J76_20 : ∀ (s76_0 : Int32) (h_s76_0 : s76_0 = (if b0 = (224 : Int32) then (160 : Int32) else (128 : Int32))), WP X n0 (Q_sq2 Z b en sur x0 x1 x2 x3 x4 x5 x6 x7 h0) h0 0 0 76 #[.val ((.ref b)), .val (.int (2 : Int32)), .val (.int en), .val (.int sur), .val (.int b0), .val (.int (3 : Int32)), .val (.int (128 : Int32)), .val (.int (191 : Int32)), .unset, .unset, .unset] [.int s76_0] := by
            intro s76_0 h_s76_0
            refine wp_run ok hK (B := [(76, .istore 6, false), (78, .iload 4, false), (80, .sipush 237, false)]) (by decide +kernel) (ps := []) (pc' := 83) (L' := #[.val ((.ref b)), .val (.int (2 : Int32)), .val (.int en), .val (.int sur), .val (.int b0), .val (.int (3 : Int32)), .val (.int s76_0), .val (.int (191 : Int32)), .unset, .unset, .unset]) (S' := [.int (237 : Int32), .int b0]) rfl trivial ?_
            have J98_23 : ∀ (s98_0 : Int32) (h_s98_0 : s98_0 = (if b0 = (237 : Int32) then (if sur = (0 : Int32) then (159 : Int32) else (191 : Int32)) else (191 : Int32))), WP X n0 (Q_sq2 Z b en sur x0 x1 x2 x3 x4 x5 x6 x7 h0) h0 0 0 98 #[.val ((.ref b)), .val (.int (2 : Int32)), .val (.int en), .val (.int sur), .val (.int b0), .val (.int (3 : Int32)), .val (.int s76_0), .val (.int (191 : Int32)), .unset, .unset, .unset] [.int s98_0] := by
              intro s98_0 h_s98_0
              refine wp_run ok hK (B := [(98, .istore 7, false), (100, .goto 63, false), (163, .iload_n 2, false), (164, .iload_n 1, false), (165, .isub, false), (166, .iload 5, false)]) (by decide +kernel) (ps := []) (pc' := 168) (L' := #[.val ((.ref b)), .val (.int (2 : Int32)), .val (.int en), .val (.int sur), .val (.int b0), .val (.int (3 : Int32)), .val (.int s76_0), .val (.int s98_0), .unset, .unset, .unset]) (S' := [.int (3 : Int32), .int (en - (2 : Int32))]) rfl trivial ?_
              have J176_25 : ∀ (s176_0 : Int32) (h_s176_0 : s176_0 = (if (en - (2 : Int32)) < (3 : Int32) then (0 : Int32) else (1 : Int32))), WP X n0 (Q_sq2 Z b en sur x0 x1 x2 x3 x4 x5 x6 x7 h0) h0 0 0 176 #[.val ((.ref b)), .val (.int (2 : Int32)), .val (.int en), .val (.int sur), .val (.int b0), .val (.int (3 : Int32)), .val (.int s76_0), .val (.int s98_0), .unset, .unset, .unset] [.int s176_0] := by
                intro s176_0 h_s176_0
                refine wp_run ok hK (B := [(176, .istore 8, false), (178, .iconst 1, false), (179, .istore 9, false)]) (by decide +kernel) (ps := []) (pc' := 181) (L' := #[.val ((.ref b)), .val (.int (2 : Int32)), .val (.int en), .val (.int sur), .val (.int b0), .val (.int (3 : Int32)), .val (.int s76_0), .val (.int s98_0), .val (.int s176_0), .val (.int (1 : Int32)), .unset]) (S' := []) rfl trivial ?_
                refine wp_run ok hK (B := [(181, .iload 8, false)]) (by decide +kernel) (ps := []) (pc' := 183) (L' := #[.val ((.ref b)), .val (.int (2 : Int32)), .val (.int en), .val (.int sur), .val (.int b0), .val (.int (3 : Int32)), .val (.int s76_0), .val (.int s98_0), .val (.int s176_0), .val (.int (1 : Int32)), .unset]) (S' := [.int s176_0]) rfl trivial ?_
                by_cases hc183 : s176_0 = (0 : Int32)
                · refine wp_run ok hK (B := [(183, .ifCond .eq 79, true)]) (by decide +kernel) (ps := [Op.ifCond.holds .eq s176_0 = true]) (pc' := 262) (L' := #[.val ((.ref b)), .val (.int (2 : Int32)), .val (.int en), .val (.int sur), .val (.int b0), .val (.int (3 : Int32)), .val (.int s76_0), .val (.int s98_0), .val (.int s176_0), .val (.int (1 : Int32)), .unset]) (S' := []) rfl ⟨(XT.i0_eq_t hc183), trivial⟩ ?_
                  refine wp_run ok hK (B := [(262, .iload 8, false), (264, .ifCond .eq 10, true), (274, .iconst (-1), false)]) (by decide +kernel) (ps := [Op.ifCond.holds .eq s176_0 = true]) (pc' := 275) (L' := #[.val ((.ref b)), .val (.int (2 : Int32)), .val (.int en), .val (.int sur), .val (.int b0), .val (.int (3 : Int32)), .val (.int s76_0), .val (.int s98_0), .val (.int s176_0), .val (.int (1 : Int32)), .unset]) (S' := [.int (-1 : Int32)]) rfl ⟨(XT.i0_eq_t hc183), trivial⟩ ?_
                  refine wp_retI ok (by decide +kernel) (by decide) (by decide) ?_
                  exact ⟨congrArg (fun z => some (Value.int z)) (own_sq2_13 en sur x0 x1 x2 x3 x4 x5 x6 x7 b0 h_b0 hc24 hc32 hc46 hc54 s76_0 h_s76_0 s98_0 h_s98_0 s176_0 h_s176_0 hc183), rfl⟩
                · refine wp_run ok hK (B := [(183, .ifCond .eq 79, false)]) (by decide +kernel) (ps := [Op.ifCond.holds .eq s176_0 = false]) (pc' := 186) (L' := #[.val ((.ref b)), .val (.int (2 : Int32)), .val (.int en), .val (.int sur), .val (.int b0), .val (.int (3 : Int32)), .val (.int s76_0), .val (.int s98_0), .val (.int s176_0), .val (.int (1 : Int32)), .unset]) (S' := []) rfl ⟨(XT.i0_eq_f hc183), trivial⟩ ?_
                  refine wp_run ok hK (B := [(186, .iload 9, false), (188, .iload 5, false), (190, .if_icmp .ge 72, false), (193, .aload_n 0, false), (194, .iload_n 1, false), (195, .iload 9, false), (197, .iadd, false)]) (by decide +kernel) (ps := [Op.if_icmp.holds .ge (1 : Int32) (3 : Int32) = false]) (pc' := 198) (L' := #[.val ((.ref b)), .val (.int (2 : Int32)), .val (.int en), .val (.int sur), .val (.int b0), .val (.int (3 : Int32)), .val (.int s76_0), .val (.int s98_0), .val (.int s176_0), .val (.int (1 : Int32)), .unset]) (S' := [.int (3 : Int32), (.ref b)]) rfl ⟨(XT.ii_ge_f (by decide)), trivial⟩ ?_
                  refine wp_aB ok A_b (i := 3) (v := .int x3) (by rfl) (by decide) rfl (by decide +kernel) ?_
                  refine wp_run ok hK (B := [(199, .sipush 255, false), (202, .iand, false), (203, .istore 10, false)]) (by decide +kernel) (ps := []) (pc' := 205) (L' := #[.val ((.ref b)), .val (.int (2 : Int32)), .val (.int en), .val (.int sur), .val (.int b0), .val (.int (3 : Int32)), .val (.int s76_0), .val (.int s98_0), .val (.int s176_0), .val (.int (1 : Int32)), .val (.int (x3 &&& (255 : Int32)))]) (S' := []) rfl trivial ?_
                  obtain ⟨cb, h_cb⟩ : ∃ z : Int32, z = (x3 &&& (255 : Int32)) := ⟨_, rfl⟩
                  rw [← h_cb]
                  refine wp_run ok hK (B := [(205, .iload 9, false), (207, .iconst 1, false), (208, .if_icmp .ne 25, false), (211, .iload 10, false), (213, .iload 6, false)]) (by decide +kernel) (ps := [Op.if_icmp.holds .ne (1 : Int32) (1 : Int32) = false]) (pc' := 215) (L' := #[.val ((.ref b)), .val (.int (2 : Int32)), .val (.int en), .val (.int sur), .val (.int b0), .val (.int (3 : Int32)), .val (.int s76_0), .val (.int s98_0), .val (.int s176_0), .val (.int (1 : Int32)), .val (.int cb)]) (S' := [.int s76_0, .int cb]) rfl ⟨(XT.ii_ne_f (by decide)), trivial⟩ ?_
                  have J254_28 : ∀ (s254_0 : Int32) (h_s254_0 : s254_0 = (if cb < s76_0 then (0 : Int32) else (if s98_0 < cb then (0 : Int32) else (1 : Int32)))), WP X n0 (Q_sq2 Z b en sur x0 x1 x2 x3 x4 x5 x6 x7 h0) h0 0 0 254 #[.val ((.ref b)), .val (.int (2 : Int32)), .val (.int en), .val (.int sur), .val (.int b0), .val (.int (3 : Int32)), .val (.int s76_0), .val (.int s98_0), .val (.int s176_0), .val (.int (1 : Int32)), .val (.int cb)] [.int s254_0] := by
                    intro s254_0 h_s254_0
                    refine wp_run ok hK (B := [(254, .istore 8, false), (256, .iinc 9 1, false)]) (by decide +kernel) (ps := []) (pc' := 259) (L' := #[.val ((.ref b)), .val (.int (2 : Int32)), .val (.int en), .val (.int sur), .val (.int b0), .val (.int (3 : Int32)), .val (.int s76_0), .val (.int s98_0), .val (.int s254_0), .val (.int (2 : Int32)), .val (.int cb)]) (S' := []) rfl trivial ?_
                    refine wp_run ok hK (B := [(259, .goto (-78), false), (181, .iload 8, false)]) (by decide +kernel) (ps := []) (pc' := 183) (L' := #[.val ((.ref b)), .val (.int (2 : Int32)), .val (.int en), .val (.int sur), .val (.int b0), .val (.int (3 : Int32)), .val (.int s76_0), .val (.int s98_0), .val (.int s254_0), .val (.int (2 : Int32)), .val (.int cb)]) (S' := [.int s254_0]) rfl trivial ?_
                    by_cases hc183_29 : s254_0 = (0 : Int32)
                    · refine wp_run ok hK (B := [(183, .ifCond .eq 79, true)]) (by decide +kernel) (ps := [Op.ifCond.holds .eq s254_0 = true]) (pc' := 262) (L' := #[.val ((.ref b)), .val (.int (2 : Int32)), .val (.int en), .val (.int sur), .val (.int b0), .val (.int (3 : Int32)), .val (.int s76_0), .val (.int s98_0), .val (.int s254_0), .val (.int (2 : Int32)), .val (.int cb)]) (S' := []) rfl ⟨(XT.i0_eq_t hc183_29), trivial⟩ ?_
                      refine wp_run ok hK (B := [(262, .iload 8, false), (264, .ifCond .eq 10, true), (274, .iconst (-1), false)]) (by decide +kernel) (ps := [Op.ifCond.holds .eq s254_0 = true]) (pc' := 275) (L' := #[.val ((.ref b)), .val (.int (2 : Int32)), .val (.int en), .val (.int sur), .val (.int b0), .val (.int (3 : Int32)), .val (.int s76_0), .val (.int s98_0), .val (.int s254_0), .val (.int (2 : Int32)), .val (.int cb)]) (S' := [.int (-1 : Int32)]) rfl ⟨(XT.i0_eq_t hc183_29), trivial⟩ ?_
                      refine wp_retI ok (by decide +kernel) (by decide) (by decide) ?_
                      exact ⟨congrArg (fun z => some (Value.int z)) (own_sq2_14 en sur x0 x1 x2 x3 x4 x5 x6 x7 b0 h_b0 hc24 hc32 hc46 hc54 s76_0 h_s76_0 s98_0 h_s98_0 s176_0 h_s176_0 hc183 cb h_cb s254_0 h_s254_0 hc183_29), rfl⟩
                    · refine wp_run ok hK (B := [(183, .ifCond .eq 79, false)]) (by decide +kernel) (ps := [Op.ifCond.holds .eq s254_0 = false]) (pc' := 186) (L' := #[.val ((.ref b)), .val (.int (2 : Int32)), .val (.int en), .val (.int sur), .val (.int b0), .val (.int (3 : Int32)), .val (.int s76_0), .val (.int s98_0), .val (.int s254_0), .val (.int (2 : Int32)), .val (.int cb)]) (S' := []) rfl ⟨(XT.i0_eq_f hc183_29), trivial⟩ ?_
                      refine wp_run ok hK (B := [(186, .iload 9, false), (188, .iload 5, false), (190, .if_icmp .ge 72, false), (193, .aload_n 0, false), (194, .iload_n 1, false), (195, .iload 9, false), (197, .iadd, false)]) (by decide +kernel) (ps := [Op.if_icmp.holds .ge (2 : Int32) (3 : Int32) = false]) (pc' := 198) (L' := #[.val ((.ref b)), .val (.int (2 : Int32)), .val (.int en), .val (.int sur), .val (.int b0), .val (.int (3 : Int32)), .val (.int s76_0), .val (.int s98_0), .val (.int s254_0), .val (.int (2 : Int32)), .val (.int cb)]) (S' := [.int (4 : Int32), (.ref b)]) rfl ⟨(XT.ii_ge_f (by decide)), trivial⟩ ?_
                      refine wp_aB ok A_b (i := 4) (v := .int x4) (by rfl) (by decide) rfl (by decide +kernel) ?_
                      refine wp_run ok hK (B := [(199, .sipush 255, false), (202, .iand, false), (203, .istore 10, false)]) (by decide +kernel) (ps := []) (pc' := 205) (L' := #[.val ((.ref b)), .val (.int (2 : Int32)), .val (.int en), .val (.int sur), .val (.int b0), .val (.int (3 : Int32)), .val (.int s76_0), .val (.int s98_0), .val (.int s254_0), .val (.int (2 : Int32)), .val (.int (x4 &&& (255 : Int32)))]) (S' := []) rfl trivial ?_
                      obtain ⟨cbb, h_cbb⟩ : ∃ z : Int32, z = (x4 &&& (255 : Int32)) := ⟨_, rfl⟩
                      rw [← h_cbb]
                      refine wp_run ok hK (B := [(205, .iload 9, false), (207, .iconst 1, false), (208, .if_icmp .ne 25, true), (233, .iload 10, false), (235, .sipush 128, false)]) (by decide +kernel) (ps := [Op.if_icmp.holds .ne (2 : Int32) (1 : Int32) = true]) (pc' := 238) (L' := #[.val ((.ref b)), .val (.int (2 : Int32)), .val (.int en), .val (.int sur), .val (.int b0), .val (.int (3 : Int32)), .val (.int s76_0), .val (.int s98_0), .val (.int s254_0), .val (.int (2 : Int32)), .val (.int cbb)]) (S' := [.int (128 : Int32), .int cbb]) rfl ⟨(XT.ii_ne_t (by decide)), trivial⟩ ?_
                      have J254_32 : ∀ (s254_0b : Int32) (h_s254_0b : s254_0b = (if cbb < (128 : Int32) then (0 : Int32) else (if (191 : Int32) < cbb then (0 : Int32) else (1 : Int32)))), WP X n0 (Q_sq2 Z b en sur x0 x1 x2 x3 x4 x5 x6 x7 h0) h0 0 0 254 #[.val ((.ref b)), .val (.int (2 : Int32)), .val (.int en), .val (.int sur), .val (.int b0), .val (.int (3 : Int32)), .val (.int s76_0), .val (.int s98_0), .val (.int s254_0), .val (.int (2 : Int32)), .val (.int cbb)] [.int s254_0b] := by
                        intro s254_0b h_s254_0b
                        refine wp_run ok hK (B := [(254, .istore 8, false), (256, .iinc 9 1, false)]) (by decide +kernel) (ps := []) (pc' := 259) (L' := #[.val ((.ref b)), .val (.int (2 : Int32)), .val (.int en), .val (.int sur), .val (.int b0), .val (.int (3 : Int32)), .val (.int s76_0), .val (.int s98_0), .val (.int s254_0b), .val (.int (3 : Int32)), .val (.int cbb)]) (S' := []) rfl trivial ?_
                        refine wp_run ok hK (B := [(259, .goto (-78), false), (181, .iload 8, false)]) (by decide +kernel) (ps := []) (pc' := 183) (L' := #[.val ((.ref b)), .val (.int (2 : Int32)), .val (.int en), .val (.int sur), .val (.int b0), .val (.int (3 : Int32)), .val (.int s76_0), .val (.int s98_0), .val (.int s254_0b), .val (.int (3 : Int32)), .val (.int cbb)]) (S' := [.int s254_0b]) rfl trivial ?_
                        by_cases hc183_33 : s254_0b = (0 : Int32)
                        · refine wp_run ok hK (B := [(183, .ifCond .eq 79, true)]) (by decide +kernel) (ps := [Op.ifCond.holds .eq s254_0b = true]) (pc' := 262) (L' := #[.val ((.ref b)), .val (.int (2 : Int32)), .val (.int en), .val (.int sur), .val (.int b0), .val (.int (3 : Int32)), .val (.int s76_0), .val (.int s98_0), .val (.int s254_0b), .val (.int (3 : Int32)), .val (.int cbb)]) (S' := []) rfl ⟨(XT.i0_eq_t hc183_33), trivial⟩ ?_
                          refine wp_run ok hK (B := [(262, .iload 8, false), (264, .ifCond .eq 10, true), (274, .iconst (-1), false)]) (by decide +kernel) (ps := [Op.ifCond.holds .eq s254_0b = true]) (pc' := 275) (L' := #[.val ((.ref b)), .val (.int (2 : Int32)), .val (.int en), .val (.int sur), .val (.int b0), .val (.int (3 : Int32)), .val (.int s76_0), .val (.int s98_0), .val (.int s254_0b), .val (.int (3 : Int32)), .val (.int cbb)]) (S' := [.int (-1 : Int32)]) rfl ⟨(XT.i0_eq_t hc183_33), trivial⟩ ?_
                          refine wp_retI ok (by decide +kernel) (by decide) (by decide) ?_
                          exact ⟨congrArg (fun z => some (Value.int z)) (own_sq2_15 en sur x0 x1 x2 x3 x4 x5 x6 x7 b0 h_b0 hc24 hc32 hc46 hc54 s76_0 h_s76_0 s98_0 h_s98_0 s176_0 h_s176_0 hc183 cb h_cb s254_0 h_s254_0 hc183_29 cbb h_cbb s254_0b h_s254_0b hc183_33), rfl⟩
                        · refine wp_run ok hK (B := [(183, .ifCond .eq 79, false)]) (by decide +kernel) (ps := [Op.ifCond.holds .eq s254_0b = false]) (pc' := 186) (L' := #[.val ((.ref b)), .val (.int (2 : Int32)), .val (.int en), .val (.int sur), .val (.int b0), .val (.int (3 : Int32)), .val (.int s76_0), .val (.int s98_0), .val (.int s254_0b), .val (.int (3 : Int32)), .val (.int cbb)]) (S' := []) rfl ⟨(XT.i0_eq_f hc183_33), trivial⟩ ?_
                          refine wp_run ok hK (B := [(186, .iload 9, false), (188, .iload 5, false), (190, .if_icmp .ge 72, true), (262, .iload 8, false), (264, .ifCond .eq 10, false), (267, .iload_n 1, false), (268, .iload 5, false), (270, .iadd, false), (271, .goto 4, false)]) (by decide +kernel) (ps := [Op.if_icmp.holds .ge (3 : Int32) (3 : Int32) = true, Op.ifCond.holds .eq s254_0b = false]) (pc' := 275) (L' := #[.val ((.ref b)), .val (.int (2 : Int32)), .val (.int en), .val (.int sur), .val (.int b0), .val (.int (3 : Int32)), .val (.int s76_0), .val (.int s98_0), .val (.int s254_0b), .val (.int (3 : Int32)), .val (.int cbb)]) (S' := [.int (5 : Int32)]) rfl ⟨(XT.ii_ge_t (by decide)), (XT.i0_eq_f hc183_33), trivial⟩ ?_
                          refine wp_retI ok (by decide +kernel) (by decide) (by decide) ?_
                          exact ⟨congrArg (fun z => some (Value.int z)) (own_sq2_16 en sur x0 x1 x2 x3 x4 x5 x6 x7 b0 h_b0 hc24 hc32 hc46 hc54 s76_0 h_s76_0 s98_0 h_s98_0 s176_0 h_s176_0 hc183 cb h_cb s254_0 h_s254_0 hc183_29 cbb h_cbb s254_0b h_s254_0b hc183_33), rfl⟩
                      by_cases c30 : cbb < (128 : Int32)
                      · refine wp_run ok hK (B := [(238, .if_icmp .lt 15, true), (253, .iconst 0, false)]) (by decide +kernel) (ps := [Op.if_icmp.holds .lt cbb (128 : Int32) = true]) (pc' := 254) (L' := #[.val ((.ref b)), .val (.int (2 : Int32)), .val (.int en), .val (.int sur), .val (.int b0), .val (.int (3 : Int32)), .val (.int s76_0), .val (.int s98_0), .val (.int s254_0), .val (.int (2 : Int32)), .val (.int cbb)]) (S' := [.int (0 : Int32)]) rfl ⟨(XT.ii_lt_t c30), trivial⟩ ?_
                        exact J254_32 _ (by rw [if_pos c30])
                      · by_cases c31 : (191 : Int32) < cbb
                        · refine wp_run ok hK (B := [(238, .if_icmp .lt 15, false), (241, .iload 10, false), (243, .sipush 191, false), (246, .if_icmp .gt 7, true), (253, .iconst 0, false)]) (by decide +kernel) (ps := [Op.if_icmp.holds .lt cbb (128 : Int32) = false, Op.if_icmp.holds .gt cbb (191 : Int32) = true]) (pc' := 254) (L' := #[.val ((.ref b)), .val (.int (2 : Int32)), .val (.int en), .val (.int sur), .val (.int b0), .val (.int (3 : Int32)), .val (.int s76_0), .val (.int s98_0), .val (.int s254_0), .val (.int (2 : Int32)), .val (.int cbb)]) (S' := [.int (0 : Int32)]) rfl ⟨(XT.ii_lt_f c30), (XT.ii_gt_t c31), trivial⟩ ?_
                          exact J254_32 _ (by rw [if_neg c30, if_pos c31])
                        · refine wp_run ok hK (B := [(238, .if_icmp .lt 15, false), (241, .iload 10, false), (243, .sipush 191, false), (246, .if_icmp .gt 7, false), (249, .iconst 1, false), (250, .goto 4, false)]) (by decide +kernel) (ps := [Op.if_icmp.holds .lt cbb (128 : Int32) = false, Op.if_icmp.holds .gt cbb (191 : Int32) = false]) (pc' := 254) (L' := #[.val ((.ref b)), .val (.int (2 : Int32)), .val (.int en), .val (.int sur), .val (.int b0), .val (.int (3 : Int32)), .val (.int s76_0), .val (.int s98_0), .val (.int s254_0), .val (.int (2 : Int32)), .val (.int cbb)]) (S' := [.int (1 : Int32)]) rfl ⟨(XT.ii_lt_f c30), (XT.ii_gt_f c31), trivial⟩ ?_
                          exact J254_32 _ (by rw [if_neg c30, if_neg c31])
                  by_cases c26 : cb < s76_0
                  · refine wp_run ok hK (B := [(215, .if_icmp .lt 14, true), (229, .iconst 0, false), (230, .goto 24, false)]) (by decide +kernel) (ps := [Op.if_icmp.holds .lt cb s76_0 = true]) (pc' := 254) (L' := #[.val ((.ref b)), .val (.int (2 : Int32)), .val (.int en), .val (.int sur), .val (.int b0), .val (.int (3 : Int32)), .val (.int s76_0), .val (.int s98_0), .val (.int s176_0), .val (.int (1 : Int32)), .val (.int cb)]) (S' := [.int (0 : Int32)]) rfl ⟨(XT.ii_lt_t c26), trivial⟩ ?_
                    exact J254_28 _ (by rw [if_pos c26])
                  · by_cases c27 : s98_0 < cb
                    · refine wp_run ok hK (B := [(215, .if_icmp .lt 14, false), (218, .iload 10, false), (220, .iload 7, false), (222, .if_icmp .gt 7, true), (229, .iconst 0, false), (230, .goto 24, false)]) (by decide +kernel) (ps := [Op.if_icmp.holds .lt cb s76_0 = false, Op.if_icmp.holds .gt cb s98_0 = true]) (pc' := 254) (L' := #[.val ((.ref b)), .val (.int (2 : Int32)), .val (.int en), .val (.int sur), .val (.int b0), .val (.int (3 : Int32)), .val (.int s76_0), .val (.int s98_0), .val (.int s176_0), .val (.int (1 : Int32)), .val (.int cb)]) (S' := [.int (0 : Int32)]) rfl ⟨(XT.ii_lt_f c26), (XT.ii_gt_t c27), trivial⟩ ?_
                      exact J254_28 _ (by rw [if_neg c26, if_pos c27])
                    · refine wp_run ok hK (B := [(215, .if_icmp .lt 14, false), (218, .iload 10, false), (220, .iload 7, false), (222, .if_icmp .gt 7, false), (225, .iconst 1, false), (226, .goto 28, false)]) (by decide +kernel) (ps := [Op.if_icmp.holds .lt cb s76_0 = false, Op.if_icmp.holds .gt cb s98_0 = false]) (pc' := 254) (L' := #[.val ((.ref b)), .val (.int (2 : Int32)), .val (.int en), .val (.int sur), .val (.int b0), .val (.int (3 : Int32)), .val (.int s76_0), .val (.int s98_0), .val (.int s176_0), .val (.int (1 : Int32)), .val (.int cb)]) (S' := [.int (1 : Int32)]) rfl ⟨(XT.ii_lt_f c26), (XT.ii_gt_f c27), trivial⟩ ?_
                      exact J254_28 _ (by rw [if_neg c26, if_neg c27])
              by_cases c24 : (en - (2 : Int32)) < (3 : Int32)
              · refine wp_run ok hK (B := [(168, .if_icmp .lt 7, true), (175, .iconst 0, false)]) (by decide +kernel) (ps := [Op.if_icmp.holds .lt (en - (2 : Int32)) (3 : Int32) = true]) (pc' := 176) (L' := #[.val ((.ref b)), .val (.int (2 : Int32)), .val (.int en), .val (.int sur), .val (.int b0), .val (.int (3 : Int32)), .val (.int s76_0), .val (.int s98_0), .unset, .unset, .unset]) (S' := [.int (0 : Int32)]) rfl ⟨(XT.ii_lt_t c24), trivial⟩ ?_
                exact J176_25 _ (by rw [if_pos c24])
              · refine wp_run ok hK (B := [(168, .if_icmp .lt 7, false), (171, .iconst 1, false), (172, .goto 4, false)]) (by decide +kernel) (ps := [Op.if_icmp.holds .lt (en - (2 : Int32)) (3 : Int32) = false]) (pc' := 176) (L' := #[.val ((.ref b)), .val (.int (2 : Int32)), .val (.int en), .val (.int sur), .val (.int b0), .val (.int (3 : Int32)), .val (.int s76_0), .val (.int s98_0), .unset, .unset, .unset]) (S' := [.int (1 : Int32)]) rfl ⟨(XT.ii_lt_f c24), trivial⟩ ?_
                exact J176_25 _ (by rw [if_neg c24])
            by_cases c21 : b0 = (237 : Int32)
            · by_cases c22 : sur = (0 : Int32)
              · refine wp_run ok hK (B := [(83, .if_icmp .ne 13, false), (86, .iload_n 3, false), (87, .ifCond .ne 9, false), (90, .sipush 159, false), (93, .goto 5, false)]) (by decide +kernel) (ps := [Op.if_icmp.holds .ne b0 (237 : Int32) = false, Op.ifCond.holds .ne sur = false]) (pc' := 98) (L' := #[.val ((.ref b)), .val (.int (2 : Int32)), .val (.int en), .val (.int sur), .val (.int b0), .val (.int (3 : Int32)), .val (.int s76_0), .val (.int (191 : Int32)), .unset, .unset, .unset]) (S' := [.int (159 : Int32)]) rfl ⟨(XT.ii_ne_f c21), (XT.i0_ne_f c22), trivial⟩ ?_
                exact J98_23 _ (by rw [if_pos c21, if_pos c22])
              · refine wp_run ok hK (B := [(83, .if_icmp .ne 13, false), (86, .iload_n 3, false), (87, .ifCond .ne 9, true), (96, .iload 7, false)]) (by decide +kernel) (ps := [Op.if_icmp.holds .ne b0 (237 : Int32) = false, Op.ifCond.holds .ne sur = true]) (pc' := 98) (L' := #[.val ((.ref b)), .val (.int (2 : Int32)), .val (.int en), .val (.int sur), .val (.int b0), .val (.int (3 : Int32)), .val (.int s76_0), .val (.int (191 : Int32)), .unset, .unset, .unset]) (S' := [.int (191 : Int32)]) rfl ⟨(XT.ii_ne_f c21), (XT.i0_ne_t c22), trivial⟩ ?_
                exact J98_23 _ (by rw [if_pos c21, if_neg c22])
            · refine wp_run ok hK (B := [(83, .if_icmp .ne 13, true), (96, .iload 7, false)]) (by decide +kernel) (ps := [Op.if_icmp.holds .ne b0 (237 : Int32) = true]) (pc' := 98) (L' := #[.val ((.ref b)), .val (.int (2 : Int32)), .val (.int en), .val (.int sur), .val (.int b0), .val (.int (3 : Int32)), .val (.int s76_0), .val (.int (191 : Int32)), .unset, .unset, .unset]) (S' := [.int (191 : Int32)]) rfl ⟨(XT.ii_ne_t c21), trivial⟩ ?_
              exact J98_23 _ (by rw [if_neg c21])
          by_cases c19 : b0 = (224 : Int32)
          · refine wp_run ok hK (B := [(65, .if_icmp .ne 9, false), (68, .sipush 160, false), (71, .goto 5, false)]) (by decide +kernel) (ps := [Op.if_icmp.holds .ne b0 (224 : Int32) = false]) (pc' := 76) (L' := #[.val ((.ref b)), .val (.int (2 : Int32)), .val (.int en), .val (.int sur), .val (.int b0), .val (.int (3 : Int32)), .val (.int (128 : Int32)), .val (.int (191 : Int32)), .unset, .unset, .unset]) (S' := [.int (160 : Int32)]) rfl ⟨(XT.ii_ne_f c19), trivial⟩ ?_
            exact J76_20 _ (by rw [if_pos c19])
          · refine wp_run ok hK (B := [(65, .if_icmp .ne 9, true), (74, .iload 6, false)]) (by decide +kernel) (ps := [Op.if_icmp.holds .ne b0 (224 : Int32) = true]) (pc' := 76) (L' := #[.val ((.ref b)), .val (.int (2 : Int32)), .val (.int en), .val (.int sur), .val (.int b0), .val (.int (3 : Int32)), .val (.int (128 : Int32)), .val (.int (191 : Int32)), .unset, .unset, .unset]) (S' := [.int (128 : Int32)]) rfl ⟨(XT.ii_ne_t c19), trivial⟩ ?_
            exact J76_20 _ (by rw [if_neg c19])
    · refine wp_run ok hK (B := [(32, .if_icmp .gt 9, false)]) (by decide +kernel) (ps := [Op.if_icmp.holds .gt b0 (223 : Int32) = false]) (pc' := 35) (L' := #[.val ((.ref b)), .val (.int (2 : Int32)), .val (.int en), .val (.int sur), .val (.int b0), .unset, .val (.int (128 : Int32)), .val (.int (191 : Int32)), .unset, .unset, .unset]) (S' := []) rfl ⟨(XT.ii_gt_f hc32), trivial⟩ ?_
      refine wp_run ok hK (B := [(35, .iconst 2, false), (36, .istore 5, false), (38, .goto 125, false), (163, .iload_n 2, false), (164, .iload_n 1, false), (165, .isub, false), (166, .iload 5, false)]) (by decide +kernel) (ps := []) (pc' := 168) (L' := #[.val ((.ref b)), .val (.int (2 : Int32)), .val (.int en), .val (.int sur), .val (.int b0), .val (.int (2 : Int32)), .val (.int (128 : Int32)), .val (.int (191 : Int32)), .unset, .unset, .unset]) (S' := [.int (2 : Int32), .int (en - (2 : Int32))]) rfl trivial ?_
      have J176_35 : ∀ (s176_0 : Int32) (h_s176_0 : s176_0 = (if (en - (2 : Int32)) < (2 : Int32) then (0 : Int32) else (1 : Int32))), WP X n0 (Q_sq2 Z b en sur x0 x1 x2 x3 x4 x5 x6 x7 h0) h0 0 0 176 #[.val ((.ref b)), .val (.int (2 : Int32)), .val (.int en), .val (.int sur), .val (.int b0), .val (.int (2 : Int32)), .val (.int (128 : Int32)), .val (.int (191 : Int32)), .unset, .unset, .unset] [.int s176_0] := by
        intro s176_0 h_s176_0
        refine wp_run ok hK (B := [(176, .istore 8, false), (178, .iconst 1, false), (179, .istore 9, false)]) (by decide +kernel) (ps := []) (pc' := 181) (L' := #[.val ((.ref b)), .val (.int (2 : Int32)), .val (.int en), .val (.int sur), .val (.int b0), .val (.int (2 : Int32)), .val (.int (128 : Int32)), .val (.int (191 : Int32)), .val (.int s176_0), .val (.int (1 : Int32)), .unset]) (S' := []) rfl trivial ?_
        refine wp_run ok hK (B := [(181, .iload 8, false)]) (by decide +kernel) (ps := []) (pc' := 183) (L' := #[.val ((.ref b)), .val (.int (2 : Int32)), .val (.int en), .val (.int sur), .val (.int b0), .val (.int (2 : Int32)), .val (.int (128 : Int32)), .val (.int (191 : Int32)), .val (.int s176_0), .val (.int (1 : Int32)), .unset]) (S' := [.int s176_0]) rfl trivial ?_
        by_cases hc183 : s176_0 = (0 : Int32)
        · refine wp_run ok hK (B := [(183, .ifCond .eq 79, true)]) (by decide +kernel) (ps := [Op.ifCond.holds .eq s176_0 = true]) (pc' := 262) (L' := #[.val ((.ref b)), .val (.int (2 : Int32)), .val (.int en), .val (.int sur), .val (.int b0), .val (.int (2 : Int32)), .val (.int (128 : Int32)), .val (.int (191 : Int32)), .val (.int s176_0), .val (.int (1 : Int32)), .unset]) (S' := []) rfl ⟨(XT.i0_eq_t hc183), trivial⟩ ?_
          refine wp_run ok hK (B := [(262, .iload 8, false), (264, .ifCond .eq 10, true), (274, .iconst (-1), false)]) (by decide +kernel) (ps := [Op.ifCond.holds .eq s176_0 = true]) (pc' := 275) (L' := #[.val ((.ref b)), .val (.int (2 : Int32)), .val (.int en), .val (.int sur), .val (.int b0), .val (.int (2 : Int32)), .val (.int (128 : Int32)), .val (.int (191 : Int32)), .val (.int s176_0), .val (.int (1 : Int32)), .unset]) (S' := [.int (-1 : Int32)]) rfl ⟨(XT.i0_eq_t hc183), trivial⟩ ?_
          refine wp_retI ok (by decide +kernel) (by decide) (by decide) ?_
          exact ⟨congrArg (fun z => some (Value.int z)) (own_sq2_17 en sur x0 x1 x2 x3 x4 x5 x6 x7 b0 h_b0 hc24 hc32 s176_0 h_s176_0 hc183), rfl⟩
        · refine wp_run ok hK (B := [(183, .ifCond .eq 79, false)]) (by decide +kernel) (ps := [Op.ifCond.holds .eq s176_0 = false]) (pc' := 186) (L' := #[.val ((.ref b)), .val (.int (2 : Int32)), .val (.int en), .val (.int sur), .val (.int b0), .val (.int (2 : Int32)), .val (.int (128 : Int32)), .val (.int (191 : Int32)), .val (.int s176_0), .val (.int (1 : Int32)), .unset]) (S' := []) rfl ⟨(XT.i0_eq_f hc183), trivial⟩ ?_
          refine wp_run ok hK (B := [(186, .iload 9, false), (188, .iload 5, false), (190, .if_icmp .ge 72, false), (193, .aload_n 0, false), (194, .iload_n 1, false), (195, .iload 9, false), (197, .iadd, false)]) (by decide +kernel) (ps := [Op.if_icmp.holds .ge (1 : Int32) (2 : Int32) = false]) (pc' := 198) (L' := #[.val ((.ref b)), .val (.int (2 : Int32)), .val (.int en), .val (.int sur), .val (.int b0), .val (.int (2 : Int32)), .val (.int (128 : Int32)), .val (.int (191 : Int32)), .val (.int s176_0), .val (.int (1 : Int32)), .unset]) (S' := [.int (3 : Int32), (.ref b)]) rfl ⟨(XT.ii_ge_f (by decide)), trivial⟩ ?_
          refine wp_aB ok A_b (i := 3) (v := .int x3) (by rfl) (by decide) rfl (by decide +kernel) ?_
          refine wp_run ok hK (B := [(199, .sipush 255, false), (202, .iand, false), (203, .istore 10, false)]) (by decide +kernel) (ps := []) (pc' := 205) (L' := #[.val ((.ref b)), .val (.int (2 : Int32)), .val (.int en), .val (.int sur), .val (.int b0), .val (.int (2 : Int32)), .val (.int (128 : Int32)), .val (.int (191 : Int32)), .val (.int s176_0), .val (.int (1 : Int32)), .val (.int (x3 &&& (255 : Int32)))]) (S' := []) rfl trivial ?_
          obtain ⟨cb, h_cb⟩ : ∃ z : Int32, z = (x3 &&& (255 : Int32)) := ⟨_, rfl⟩
          rw [← h_cb]
          refine wp_run ok hK (B := [(205, .iload 9, false), (207, .iconst 1, false), (208, .if_icmp .ne 25, false), (211, .iload 10, false), (213, .iload 6, false)]) (by decide +kernel) (ps := [Op.if_icmp.holds .ne (1 : Int32) (1 : Int32) = false]) (pc' := 215) (L' := #[.val ((.ref b)), .val (.int (2 : Int32)), .val (.int en), .val (.int sur), .val (.int b0), .val (.int (2 : Int32)), .val (.int (128 : Int32)), .val (.int (191 : Int32)), .val (.int s176_0), .val (.int (1 : Int32)), .val (.int cb)]) (S' := [.int (128 : Int32), .int cb]) rfl ⟨(XT.ii_ne_f (by decide)), trivial⟩ ?_
          have J254_38 : ∀ (s254_0 : Int32) (h_s254_0 : s254_0 = (if cb < (128 : Int32) then (0 : Int32) else (if (191 : Int32) < cb then (0 : Int32) else (1 : Int32)))), WP X n0 (Q_sq2 Z b en sur x0 x1 x2 x3 x4 x5 x6 x7 h0) h0 0 0 254 #[.val ((.ref b)), .val (.int (2 : Int32)), .val (.int en), .val (.int sur), .val (.int b0), .val (.int (2 : Int32)), .val (.int (128 : Int32)), .val (.int (191 : Int32)), .val (.int s176_0), .val (.int (1 : Int32)), .val (.int cb)] [.int s254_0] := by
            intro s254_0 h_s254_0
            refine wp_run ok hK (B := [(254, .istore 8, false), (256, .iinc 9 1, false)]) (by decide +kernel) (ps := []) (pc' := 259) (L' := #[.val ((.ref b)), .val (.int (2 : Int32)), .val (.int en), .val (.int sur), .val (.int b0), .val (.int (2 : Int32)), .val (.int (128 : Int32)), .val (.int (191 : Int32)), .val (.int s254_0), .val (.int (2 : Int32)), .val (.int cb)]) (S' := []) rfl trivial ?_
            refine wp_run ok hK (B := [(259, .goto (-78), false), (181, .iload 8, false)]) (by decide +kernel) (ps := []) (pc' := 183) (L' := #[.val ((.ref b)), .val (.int (2 : Int32)), .val (.int en), .val (.int sur), .val (.int b0), .val (.int (2 : Int32)), .val (.int (128 : Int32)), .val (.int (191 : Int32)), .val (.int s254_0), .val (.int (2 : Int32)), .val (.int cb)]) (S' := [.int s254_0]) rfl trivial ?_
            by_cases hc183_39 : s254_0 = (0 : Int32)
            · refine wp_run ok hK (B := [(183, .ifCond .eq 79, true)]) (by decide +kernel) (ps := [Op.ifCond.holds .eq s254_0 = true]) (pc' := 262) (L' := #[.val ((.ref b)), .val (.int (2 : Int32)), .val (.int en), .val (.int sur), .val (.int b0), .val (.int (2 : Int32)), .val (.int (128 : Int32)), .val (.int (191 : Int32)), .val (.int s254_0), .val (.int (2 : Int32)), .val (.int cb)]) (S' := []) rfl ⟨(XT.i0_eq_t hc183_39), trivial⟩ ?_
              refine wp_run ok hK (B := [(262, .iload 8, false), (264, .ifCond .eq 10, true), (274, .iconst (-1), false)]) (by decide +kernel) (ps := [Op.ifCond.holds .eq s254_0 = true]) (pc' := 275) (L' := #[.val ((.ref b)), .val (.int (2 : Int32)), .val (.int en), .val (.int sur), .val (.int b0), .val (.int (2 : Int32)), .val (.int (128 : Int32)), .val (.int (191 : Int32)), .val (.int s254_0), .val (.int (2 : Int32)), .val (.int cb)]) (S' := [.int (-1 : Int32)]) rfl ⟨(XT.i0_eq_t hc183_39), trivial⟩ ?_
              refine wp_retI ok (by decide +kernel) (by decide) (by decide) ?_
              exact ⟨congrArg (fun z => some (Value.int z)) (own_sq2_18 en sur x0 x1 x2 x3 x4 x5 x6 x7 b0 h_b0 hc24 hc32 s176_0 h_s176_0 hc183 cb h_cb s254_0 h_s254_0 hc183_39), rfl⟩
            · refine wp_run ok hK (B := [(183, .ifCond .eq 79, false)]) (by decide +kernel) (ps := [Op.ifCond.holds .eq s254_0 = false]) (pc' := 186) (L' := #[.val ((.ref b)), .val (.int (2 : Int32)), .val (.int en), .val (.int sur), .val (.int b0), .val (.int (2 : Int32)), .val (.int (128 : Int32)), .val (.int (191 : Int32)), .val (.int s254_0), .val (.int (2 : Int32)), .val (.int cb)]) (S' := []) rfl ⟨(XT.i0_eq_f hc183_39), trivial⟩ ?_
              refine wp_run ok hK (B := [(186, .iload 9, false), (188, .iload 5, false), (190, .if_icmp .ge 72, true), (262, .iload 8, false), (264, .ifCond .eq 10, false), (267, .iload_n 1, false), (268, .iload 5, false), (270, .iadd, false), (271, .goto 4, false)]) (by decide +kernel) (ps := [Op.if_icmp.holds .ge (2 : Int32) (2 : Int32) = true, Op.ifCond.holds .eq s254_0 = false]) (pc' := 275) (L' := #[.val ((.ref b)), .val (.int (2 : Int32)), .val (.int en), .val (.int sur), .val (.int b0), .val (.int (2 : Int32)), .val (.int (128 : Int32)), .val (.int (191 : Int32)), .val (.int s254_0), .val (.int (2 : Int32)), .val (.int cb)]) (S' := [.int (4 : Int32)]) rfl ⟨(XT.ii_ge_t (by decide)), (XT.i0_eq_f hc183_39), trivial⟩ ?_
              refine wp_retI ok (by decide +kernel) (by decide) (by decide) ?_
              exact ⟨congrArg (fun z => some (Value.int z)) (own_sq2_19 en sur x0 x1 x2 x3 x4 x5 x6 x7 b0 h_b0 hc24 hc32 s176_0 h_s176_0 hc183 cb h_cb s254_0 h_s254_0 hc183_39), rfl⟩
          by_cases c36 : cb < (128 : Int32)
          · refine wp_run ok hK (B := [(215, .if_icmp .lt 14, true), (229, .iconst 0, false), (230, .goto 24, false)]) (by decide +kernel) (ps := [Op.if_icmp.holds .lt cb (128 : Int32) = true]) (pc' := 254) (L' := #[.val ((.ref b)), .val (.int (2 : Int32)), .val (.int en), .val (.int sur), .val (.int b0), .val (.int (2 : Int32)), .val (.int (128 : Int32)), .val (.int (191 : Int32)), .val (.int s176_0), .val (.int (1 : Int32)), .val (.int cb)]) (S' := [.int (0 : Int32)]) rfl ⟨(XT.ii_lt_t c36), trivial⟩ ?_
            exact J254_38 _ (by rw [if_pos c36])
          · by_cases c37 : (191 : Int32) < cb
            · refine wp_run ok hK (B := [(215, .if_icmp .lt 14, false), (218, .iload 10, false), (220, .iload 7, false), (222, .if_icmp .gt 7, true), (229, .iconst 0, false), (230, .goto 24, false)]) (by decide +kernel) (ps := [Op.if_icmp.holds .lt cb (128 : Int32) = false, Op.if_icmp.holds .gt cb (191 : Int32) = true]) (pc' := 254) (L' := #[.val ((.ref b)), .val (.int (2 : Int32)), .val (.int en), .val (.int sur), .val (.int b0), .val (.int (2 : Int32)), .val (.int (128 : Int32)), .val (.int (191 : Int32)), .val (.int s176_0), .val (.int (1 : Int32)), .val (.int cb)]) (S' := [.int (0 : Int32)]) rfl ⟨(XT.ii_lt_f c36), (XT.ii_gt_t c37), trivial⟩ ?_
              exact J254_38 _ (by rw [if_neg c36, if_pos c37])
            · refine wp_run ok hK (B := [(215, .if_icmp .lt 14, false), (218, .iload 10, false), (220, .iload 7, false), (222, .if_icmp .gt 7, false), (225, .iconst 1, false), (226, .goto 28, false)]) (by decide +kernel) (ps := [Op.if_icmp.holds .lt cb (128 : Int32) = false, Op.if_icmp.holds .gt cb (191 : Int32) = false]) (pc' := 254) (L' := #[.val ((.ref b)), .val (.int (2 : Int32)), .val (.int en), .val (.int sur), .val (.int b0), .val (.int (2 : Int32)), .val (.int (128 : Int32)), .val (.int (191 : Int32)), .val (.int s176_0), .val (.int (1 : Int32)), .val (.int cb)]) (S' := [.int (1 : Int32)]) rfl ⟨(XT.ii_lt_f c36), (XT.ii_gt_f c37), trivial⟩ ?_
              exact J254_38 _ (by rw [if_neg c36, if_neg c37])
      by_cases c34 : (en - (2 : Int32)) < (2 : Int32)
      · refine wp_run ok hK (B := [(168, .if_icmp .lt 7, true), (175, .iconst 0, false)]) (by decide +kernel) (ps := [Op.if_icmp.holds .lt (en - (2 : Int32)) (2 : Int32) = true]) (pc' := 176) (L' := #[.val ((.ref b)), .val (.int (2 : Int32)), .val (.int en), .val (.int sur), .val (.int b0), .val (.int (2 : Int32)), .val (.int (128 : Int32)), .val (.int (191 : Int32)), .unset, .unset, .unset]) (S' := [.int (0 : Int32)]) rfl ⟨(XT.ii_lt_t c34), trivial⟩ ?_
        exact J176_35 _ (by rw [if_pos c34])
      · refine wp_run ok hK (B := [(168, .if_icmp .lt 7, false), (171, .iconst 1, false), (172, .goto 4, false)]) (by decide +kernel) (ps := [Op.if_icmp.holds .lt (en - (2 : Int32)) (2 : Int32) = false]) (pc' := 176) (L' := #[.val ((.ref b)), .val (.int (2 : Int32)), .val (.int en), .val (.int sur), .val (.int b0), .val (.int (2 : Int32)), .val (.int (128 : Int32)), .val (.int (191 : Int32)), .unset, .unset, .unset]) (S' := [.int (1 : Int32)]) rfl ⟨(XT.ii_lt_f c34), trivial⟩ ?_
        exact J176_35 _ (by rw [if_neg c34])
def k_sq3 : List (Nat × Value) := []
def Q_sq3 (Z : State) (b : Addr) (en : Int32) (sur : Int32) (x0 : Int32) (x1 : Int32) (x2 : Int32) (x3 : Int32) (x4 : Int32) (x5 : Int32) (x6 : Int32) (x7 : Int32) (h0 : Heap) : Post := fun v h => v = some (.int (seqZ (3 : Int32) (x3 &&& (255 : Int32)) (x4 &&& (255 : Int32)) (x5 &&& (255 : Int32)) (x6 &&& (255 : Int32)) (en - (3 : Int32)) sur)) ∧ h0 = h
theorem own_sq3_1 (en : Int32) (sur : Int32) (x0 : Int32) (x1 : Int32) (x2 : Int32) (x3 : Int32) (x4 : Int32) (x5 : Int32) (x6 : Int32) (x7 : Int32) (b0 : Int32) (h_b0 : b0 = (x3 &&& (255 : Int32))) (hc24 : b0 < (194 : Int32)) : b0 < (224 : Int32) := by
  rw [Int32.lt_iff_toInt_lt] at *; simp only [Int32.reduceToInt] at *; omega
theorem own_sq3_2 (en : Int32) (sur : Int32) (x0 : Int32) (x1 : Int32) (x2 : Int32) (x3 : Int32) (x4 : Int32) (x5 : Int32) (x6 : Int32) (x7 : Int32) (b0 : Int32) (h_b0 : b0 = (x3 &&& (255 : Int32))) (hc24 : b0 < (194 : Int32)) : b0 < (240 : Int32) := by
  rw [Int32.lt_iff_toInt_lt] at *; simp only [Int32.reduceToInt] at *; omega
theorem own_sq3_3 (en : Int32) (sur : Int32) (x0 : Int32) (x1 : Int32) (x2 : Int32) (x3 : Int32) (x4 : Int32) (x5 : Int32) (x6 : Int32) (x7 : Int32) (b0 : Int32) (h_b0 : b0 = (x3 &&& (255 : Int32))) (hc24 : b0 < (194 : Int32)) : (-1 : Int32) = (seqZ (3 : Int32) (x3 &&& (255 : Int32)) (x4 &&& (255 : Int32)) (x5 &&& (255 : Int32)) (x6 &&& (255 : Int32)) (en - (3 : Int32)) sur) := by
  have e := @seqZ_0 (3 : Int32) (x3 &&& 255) (x4 &&& 255) (x5 &&& 255) (x6 &&& 255) (en - (3 : Int32)) sur
  refine e ?_
  clear e
  generalize x3 &&& 255 = y0 at *
  generalize x4 &&& 255 = y1 at *
  generalize x5 &&& 255 = y2 at *
  generalize x6 &&& 255 = y3 at *
  generalize en - (3 : Int32) = dd at *
  simp only [own_i, own_l, own_ite, Int32.reduceToInt, ne_eq] at *
  simp only [seqN]
  repeat' (first | omega | split)
theorem own_sq3_4 (en : Int32) (sur : Int32) (x0 : Int32) (x1 : Int32) (x2 : Int32) (x3 : Int32) (x4 : Int32) (x5 : Int32) (x6 : Int32) (x7 : Int32) (b0 : Int32) (h_b0 : b0 = (x3 &&& (255 : Int32))) (hc24 : ¬ (b0 < (194 : Int32))) (hc32 : (223 : Int32) < b0) (hc46 : b0 < (224 : Int32)) : b0 < (240 : Int32) := by
  rw [Int32.lt_iff_toInt_lt] at *; simp only [Int32.reduceToInt] at *; omega
theorem own_sq3_5 (en : Int32) (sur : Int32) (x0 : Int32) (x1 : Int32) (x2 : Int32) (x3 : Int32) (x4 : Int32) (x5 : Int32) (x6 : Int32) (x7 : Int32) (b0 : Int32) (h_b0 : b0 = (x3 &&& (255 : Int32))) (hc24 : ¬ (b0 < (194 : Int32))) (hc32 : (223 : Int32) < b0) (hc46 : b0 < (224 : Int32)) : (-1 : Int32) = (seqZ (3 : Int32) (x3 &&& (255 : Int32)) (x4 &&& (255 : Int32)) (x5 &&& (255 : Int32)) (x6 &&& (255 : Int32)) (en - (3 : Int32)) sur) := by
  have e := @seqZ_0 (3 : Int32) (x3 &&& 255) (x4 &&& 255) (x5 &&& 255) (x6 &&& 255) (en - (3 : Int32)) sur
  refine e ?_
  clear e
  generalize x3 &&& 255 = y0 at *
  generalize x4 &&& 255 = y1 at *
  generalize x5 &&& 255 = y2 at *
  generalize x6 &&& 255 = y3 at *
  generalize en - (3 : Int32) = dd at *
  simp only [own_i, own_l, own_ite, Int32.reduceToInt, ne_eq] at *
  simp only [seqN]
  repeat' (first | omega | split)
theorem own_sq3_6 (en : Int32) (sur : Int32) (x0 : Int32) (x1 : Int32) (x2 : Int32) (x3 : Int32) (x4 : Int32) (x5 : Int32) (x6 : Int32) (x7 : Int32) (b0 : Int32) (h_b0 : b0 = (x3 &&& (255 : Int32))) (hc24 : ¬ (b0 < (194 : Int32))) (hc32 : (223 : Int32) < b0) (hc46 : ¬ (b0 < (224 : Int32))) (hc54 : (239 : Int32) < b0) (hc108 : b0 < (240 : Int32)) : (-1 : Int32) = (seqZ (3 : Int32) (x3 &&& (255 : Int32)) (x4 &&& (255 : Int32)) (x5 &&& (255 : Int32)) (x6 &&& (255 : Int32)) (en - (3 : Int32)) sur) := by
  have e := @seqZ_0 (3 : Int32) (x3 &&& 255) (x4 &&& 255) (x5 &&& 255) (x6 &&& 255) (en - (3 : Int32)) sur
  refine e ?_
  clear e
  generalize x3 &&& 255 = y0 at *
  generalize x4 &&& 255 = y1 at *
  generalize x5 &&& 255 = y2 at *
  generalize x6 &&& 255 = y3 at *
  generalize en - (3 : Int32) = dd at *
  simp only [own_i, own_l, own_ite, Int32.reduceToInt, ne_eq] at *
  simp only [seqN]
  repeat' (first | omega | split)
theorem own_sq3_7 (en : Int32) (sur : Int32) (x0 : Int32) (x1 : Int32) (x2 : Int32) (x3 : Int32) (x4 : Int32) (x5 : Int32) (x6 : Int32) (x7 : Int32) (b0 : Int32) (h_b0 : b0 = (x3 &&& (255 : Int32))) (hc24 : ¬ (b0 < (194 : Int32))) (hc32 : (223 : Int32) < b0) (hc46 : ¬ (b0 < (224 : Int32))) (hc54 : (239 : Int32) < b0) (hc108 : ¬ (b0 < (240 : Int32))) (hc116 : (244 : Int32) < b0) : (-1 : Int32) = (seqZ (3 : Int32) (x3 &&& (255 : Int32)) (x4 &&& (255 : Int32)) (x5 &&& (255 : Int32)) (x6 &&& (255 : Int32)) (en - (3 : Int32)) sur) := by
  have e := @seqZ_0 (3 : Int32) (x3 &&& 255) (x4 &&& 255) (x5 &&& 255) (x6 &&& 255) (en - (3 : Int32)) sur
  refine e ?_
  clear e
  generalize x3 &&& 255 = y0 at *
  generalize x4 &&& 255 = y1 at *
  generalize x5 &&& 255 = y2 at *
  generalize x6 &&& 255 = y3 at *
  generalize en - (3 : Int32) = dd at *
  simp only [own_i, own_l, own_ite, Int32.reduceToInt, ne_eq] at *
  simp only [seqN]
  repeat' (first | omega | split)
theorem own_sq3_8 (en : Int32) (sur : Int32) (x0 : Int32) (x1 : Int32) (x2 : Int32) (x3 : Int32) (x4 : Int32) (x5 : Int32) (x6 : Int32) (x7 : Int32) (b0 : Int32) (h_b0 : b0 = (x3 &&& (255 : Int32))) (hc24 : ¬ (b0 < (194 : Int32))) (hc32 : (223 : Int32) < b0) (hc46 : ¬ (b0 < (224 : Int32))) (hc54 : (239 : Int32) < b0) (hc108 : ¬ (b0 < (240 : Int32))) (hc116 : ¬ ((244 : Int32) < b0)) (s138_0 : Int32) (h_s138_0 : s138_0 = (if b0 = (240 : Int32) then (144 : Int32) else (128 : Int32))) (s156_0 : Int32) (h_s156_0 : s156_0 = (if b0 = (244 : Int32) then (143 : Int32) else (191 : Int32))) (s176_0 : Int32) (h_s176_0 : s176_0 = (if (en - (3 : Int32)) < (4 : Int32) then (0 : Int32) else (1 : Int32))) (hc183 : s176_0 = (0 : Int32)) : (-1 : Int32) = (seqZ (3 : Int32) (x3 &&& (255 : Int32)) (x4 &&& (255 : Int32)) (x5 &&& (255 : Int32)) (x6 &&& (255 : Int32)) (en - (3 : Int32)) sur) := by
  have e := @seqZ_0 (3 : Int32) (x3 &&& 255) (x4 &&& 255) (x5 &&& 255) (x6 &&& 255) (en - (3 : Int32)) sur
  refine e ?_
  clear e
  generalize x3 &&& 255 = y0 at *
  generalize x4 &&& 255 = y1 at *
  generalize x5 &&& 255 = y2 at *
  generalize x6 &&& 255 = y3 at *
  generalize en - (3 : Int32) = dd at *
  simp only [own_i, own_l, own_ite, Int32.reduceToInt, ne_eq] at *
  simp only [seqN]
  repeat' (first | omega | split at h_s138_0 | split at h_s156_0 | split at h_s176_0 | split)
theorem own_sq3_9 (en : Int32) (sur : Int32) (x0 : Int32) (x1 : Int32) (x2 : Int32) (x3 : Int32) (x4 : Int32) (x5 : Int32) (x6 : Int32) (x7 : Int32) (b0 : Int32) (h_b0 : b0 = (x3 &&& (255 : Int32))) (hc24 : ¬ (b0 < (194 : Int32))) (hc32 : (223 : Int32) < b0) (hc46 : ¬ (b0 < (224 : Int32))) (hc54 : (239 : Int32) < b0) (hc108 : ¬ (b0 < (240 : Int32))) (hc116 : ¬ ((244 : Int32) < b0)) (s138_0 : Int32) (h_s138_0 : s138_0 = (if b0 = (240 : Int32) then (144 : Int32) else (128 : Int32))) (s156_0 : Int32) (h_s156_0 : s156_0 = (if b0 = (244 : Int32) then (143 : Int32) else (191 : Int32))) (s176_0 : Int32) (h_s176_0 : s176_0 = (if (en - (3 : Int32)) < (4 : Int32) then (0 : Int32) else (1 : Int32))) (hc183 : ¬ (s176_0 = (0 : Int32))) (cb : Int32) (h_cb : cb = (x4 &&& (255 : Int32))) (s254_0 : Int32) (h_s254_0 : s254_0 = (if cb < s138_0 then (0 : Int32) else (if s156_0 < cb then (0 : Int32) else (1 : Int32)))) (hc183_10 : s254_0 = (0 : Int32)) : (-1 : Int32) = (seqZ (3 : Int32) (x3 &&& (255 : Int32)) (x4 &&& (255 : Int32)) (x5 &&& (255 : Int32)) (x6 &&& (255 : Int32)) (en - (3 : Int32)) sur) := by
  have e := @seqZ_0 (3 : Int32) (x3 &&& 255) (x4 &&& 255) (x5 &&& 255) (x6 &&& 255) (en - (3 : Int32)) sur
  refine e ?_
  clear e
  generalize x3 &&& 255 = y0 at *
  generalize x4 &&& 255 = y1 at *
  generalize x5 &&& 255 = y2 at *
  generalize x6 &&& 255 = y3 at *
  generalize en - (3 : Int32) = dd at *
  simp only [own_i, own_l, own_ite, Int32.reduceToInt, ne_eq] at *
  simp only [seqN]
  repeat' (first | omega | split at h_s138_0 | split at h_s156_0 | split at h_s176_0 | split at h_s254_0 | split)
theorem own_sq3_10 (en : Int32) (sur : Int32) (x0 : Int32) (x1 : Int32) (x2 : Int32) (x3 : Int32) (x4 : Int32) (x5 : Int32) (x6 : Int32) (x7 : Int32) (b0 : Int32) (h_b0 : b0 = (x3 &&& (255 : Int32))) (hc24 : ¬ (b0 < (194 : Int32))) (hc32 : (223 : Int32) < b0) (hc46 : ¬ (b0 < (224 : Int32))) (hc54 : (239 : Int32) < b0) (hc108 : ¬ (b0 < (240 : Int32))) (hc116 : ¬ ((244 : Int32) < b0)) (s138_0 : Int32) (h_s138_0 : s138_0 = (if b0 = (240 : Int32) then (144 : Int32) else (128 : Int32))) (s156_0 : Int32) (h_s156_0 : s156_0 = (if b0 = (244 : Int32) then (143 : Int32) else (191 : Int32))) (s176_0 : Int32) (h_s176_0 : s176_0 = (if (en - (3 : Int32)) < (4 : Int32) then (0 : Int32) else (1 : Int32))) (hc183 : ¬ (s176_0 = (0 : Int32))) (cb : Int32) (h_cb : cb = (x4 &&& (255 : Int32))) (s254_0 : Int32) (h_s254_0 : s254_0 = (if cb < s138_0 then (0 : Int32) else (if s156_0 < cb then (0 : Int32) else (1 : Int32)))) (hc183_10 : ¬ (s254_0 = (0 : Int32))) (cbb : Int32) (h_cbb : cbb = (x5 &&& (255 : Int32))) (s254_0b : Int32) (h_s254_0b : s254_0b = (if cbb < (128 : Int32) then (0 : Int32) else (if (191 : Int32) < cbb then (0 : Int32) else (1 : Int32)))) (hc183_14 : s254_0b = (0 : Int32)) : (-1 : Int32) = (seqZ (3 : Int32) (x3 &&& (255 : Int32)) (x4 &&& (255 : Int32)) (x5 &&& (255 : Int32)) (x6 &&& (255 : Int32)) (en - (3 : Int32)) sur) := by
  have e := @seqZ_0 (3 : Int32) (x3 &&& 255) (x4 &&& 255) (x5 &&& 255) (x6 &&& 255) (en - (3 : Int32)) sur
  refine e ?_
  clear e
  generalize x3 &&& 255 = y0 at *
  generalize x4 &&& 255 = y1 at *
  generalize x5 &&& 255 = y2 at *
  generalize x6 &&& 255 = y3 at *
  generalize en - (3 : Int32) = dd at *
  simp only [own_i, own_l, own_ite, Int32.reduceToInt, ne_eq] at *
  simp only [seqN]
  repeat' (first | omega | split at h_s138_0 | split at h_s156_0 | split at h_s176_0 | split at h_s254_0 | split at h_s254_0b | split)
theorem own_sq3_11 (en : Int32) (sur : Int32) (x0 : Int32) (x1 : Int32) (x2 : Int32) (x3 : Int32) (x4 : Int32) (x5 : Int32) (x6 : Int32) (x7 : Int32) (b0 : Int32) (h_b0 : b0 = (x3 &&& (255 : Int32))) (hc24 : ¬ (b0 < (194 : Int32))) (hc32 : (223 : Int32) < b0) (hc46 : ¬ (b0 < (224 : Int32))) (hc54 : (239 : Int32) < b0) (hc108 : ¬ (b0 < (240 : Int32))) (hc116 : ¬ ((244 : Int32) < b0)) (s138_0 : Int32) (h_s138_0 : s138_0 = (if b0 = (240 : Int32) then (144 : Int32) else (128 : Int32))) (s156_0 : Int32) (h_s156_0 : s156_0 = (if b0 = (244 : Int32) then (143 : Int32) else (191 : Int32))) (s176_0 : Int32) (h_s176_0 : s176_0 = (if (en - (3 : Int32)) < (4 : Int32) then (0 : Int32) else (1 : Int32))) (hc183 : ¬ (s176_0 = (0 : Int32))) (cb : Int32) (h_cb : cb = (x4 &&& (255 : Int32))) (s254_0 : Int32) (h_s254_0 : s254_0 = (if cb < s138_0 then (0 : Int32) else (if s156_0 < cb then (0 : Int32) else (1 : Int32)))) (hc183_10 : ¬ (s254_0 = (0 : Int32))) (cbb : Int32) (h_cbb : cbb = (x5 &&& (255 : Int32))) (s254_0b : Int32) (h_s254_0b : s254_0b = (if cbb < (128 : Int32) then (0 : Int32) else (if (191 : Int32) < cbb then (0 : Int32) else (1 : Int32)))) (hc183_14 : ¬ (s254_0b = (0 : Int32))) (cbbb : Int32) (h_cbbb : cbbb = (x6 &&& (255 : Int32))) (s254_0bb : Int32) (h_s254_0bb : s254_0bb = (if cbbb < (128 : Int32) then (0 : Int32) else (if (191 : Int32) < cbbb then (0 : Int32) else (1 : Int32)))) (hc183_18 : s254_0bb = (0 : Int32)) : (-1 : Int32) = (seqZ (3 : Int32) (x3 &&& (255 : Int32)) (x4 &&& (255 : Int32)) (x5 &&& (255 : Int32)) (x6 &&& (255 : Int32)) (en - (3 : Int32)) sur) := by
  have e := @seqZ_0 (3 : Int32) (x3 &&& 255) (x4 &&& 255) (x5 &&& 255) (x6 &&& 255) (en - (3 : Int32)) sur
  refine e ?_
  clear e
  generalize x3 &&& 255 = y0 at *
  generalize x4 &&& 255 = y1 at *
  generalize x5 &&& 255 = y2 at *
  generalize x6 &&& 255 = y3 at *
  generalize en - (3 : Int32) = dd at *
  simp only [own_i, own_l, own_ite, Int32.reduceToInt, ne_eq] at *
  simp only [seqN]
  repeat' (first | omega | split at h_s138_0 | split at h_s156_0 | split at h_s176_0 | split at h_s254_0 | split at h_s254_0b | split at h_s254_0bb | split)
theorem own_sq3_12 (en : Int32) (sur : Int32) (x0 : Int32) (x1 : Int32) (x2 : Int32) (x3 : Int32) (x4 : Int32) (x5 : Int32) (x6 : Int32) (x7 : Int32) (b0 : Int32) (h_b0 : b0 = (x3 &&& (255 : Int32))) (hc24 : ¬ (b0 < (194 : Int32))) (hc32 : (223 : Int32) < b0) (hc46 : ¬ (b0 < (224 : Int32))) (hc54 : (239 : Int32) < b0) (hc108 : ¬ (b0 < (240 : Int32))) (hc116 : ¬ ((244 : Int32) < b0)) (s138_0 : Int32) (h_s138_0 : s138_0 = (if b0 = (240 : Int32) then (144 : Int32) else (128 : Int32))) (s156_0 : Int32) (h_s156_0 : s156_0 = (if b0 = (244 : Int32) then (143 : Int32) else (191 : Int32))) (s176_0 : Int32) (h_s176_0 : s176_0 = (if (en - (3 : Int32)) < (4 : Int32) then (0 : Int32) else (1 : Int32))) (hc183 : ¬ (s176_0 = (0 : Int32))) (cb : Int32) (h_cb : cb = (x4 &&& (255 : Int32))) (s254_0 : Int32) (h_s254_0 : s254_0 = (if cb < s138_0 then (0 : Int32) else (if s156_0 < cb then (0 : Int32) else (1 : Int32)))) (hc183_10 : ¬ (s254_0 = (0 : Int32))) (cbb : Int32) (h_cbb : cbb = (x5 &&& (255 : Int32))) (s254_0b : Int32) (h_s254_0b : s254_0b = (if cbb < (128 : Int32) then (0 : Int32) else (if (191 : Int32) < cbb then (0 : Int32) else (1 : Int32)))) (hc183_14 : ¬ (s254_0b = (0 : Int32))) (cbbb : Int32) (h_cbbb : cbbb = (x6 &&& (255 : Int32))) (s254_0bb : Int32) (h_s254_0bb : s254_0bb = (if cbbb < (128 : Int32) then (0 : Int32) else (if (191 : Int32) < cbbb then (0 : Int32) else (1 : Int32)))) (hc183_18 : ¬ (s254_0bb = (0 : Int32))) : (7 : Int32) = (seqZ (3 : Int32) (x3 &&& (255 : Int32)) (x4 &&& (255 : Int32)) (x5 &&& (255 : Int32)) (x6 &&& (255 : Int32)) (en - (3 : Int32)) sur) := by
  have e := @seqZ_4 (3 : Int32) (x3 &&& 255) (x4 &&& 255) (x5 &&& 255) (x6 &&& 255) (en - (3 : Int32)) sur
  refine Eq.trans (by decide) (e ?_)
  clear e
  generalize x3 &&& 255 = y0 at *
  generalize x4 &&& 255 = y1 at *
  generalize x5 &&& 255 = y2 at *
  generalize x6 &&& 255 = y3 at *
  generalize en - (3 : Int32) = dd at *
  simp only [own_i, own_l, own_ite, Int32.reduceToInt, ne_eq] at *
  simp only [seqN]
  repeat' (first | omega | split at h_s138_0 | split at h_s156_0 | split at h_s176_0 | split at h_s254_0 | split at h_s254_0b | split at h_s254_0bb | split)
theorem own_sq3_13 (en : Int32) (sur : Int32) (x0 : Int32) (x1 : Int32) (x2 : Int32) (x3 : Int32) (x4 : Int32) (x5 : Int32) (x6 : Int32) (x7 : Int32) (b0 : Int32) (h_b0 : b0 = (x3 &&& (255 : Int32))) (hc24 : ¬ (b0 < (194 : Int32))) (hc32 : (223 : Int32) < b0) (hc46 : ¬ (b0 < (224 : Int32))) (hc54 : ¬ ((239 : Int32) < b0)) (s76_0 : Int32) (h_s76_0 : s76_0 = (if b0 = (224 : Int32) then (160 : Int32) else (128 : Int32))) (s98_0 : Int32) (h_s98_0 : s98_0 = (if b0 = (237 : Int32) then (if sur = (0 : Int32) then (159 : Int32) else (191 : Int32)) else (191 : Int32))) (s176_0 : Int32) (h_s176_0 : s176_0 = (if (en - (3 : Int32)) < (3 : Int32) then (0 : Int32) else (1 : Int32))) (hc183 : s176_0 = (0 : Int32)) : (-1 : Int32) = (seqZ (3 : Int32) (x3 &&& (255 : Int32)) (x4 &&& (255 : Int32)) (x5 &&& (255 : Int32)) (x6 &&& (255 : Int32)) (en - (3 : Int32)) sur) := by
  have e := @seqZ_0 (3 : Int32) (x3 &&& 255) (x4 &&& 255) (x5 &&& 255) (x6 &&& 255) (en - (3 : Int32)) sur
  refine e ?_
  clear e
  generalize x3 &&& 255 = y0 at *
  generalize x4 &&& 255 = y1 at *
  generalize x5 &&& 255 = y2 at *
  generalize x6 &&& 255 = y3 at *
  generalize en - (3 : Int32) = dd at *
  simp only [own_i, own_l, own_ite, Int32.reduceToInt, ne_eq] at *
  simp only [seqN]
  repeat' (first | omega | split at h_s76_0 | split at h_s98_0 | split at h_s176_0 | split)
theorem own_sq3_14 (en : Int32) (sur : Int32) (x0 : Int32) (x1 : Int32) (x2 : Int32) (x3 : Int32) (x4 : Int32) (x5 : Int32) (x6 : Int32) (x7 : Int32) (b0 : Int32) (h_b0 : b0 = (x3 &&& (255 : Int32))) (hc24 : ¬ (b0 < (194 : Int32))) (hc32 : (223 : Int32) < b0) (hc46 : ¬ (b0 < (224 : Int32))) (hc54 : ¬ ((239 : Int32) < b0)) (s76_0 : Int32) (h_s76_0 : s76_0 = (if b0 = (224 : Int32) then (160 : Int32) else (128 : Int32))) (s98_0 : Int32) (h_s98_0 : s98_0 = (if b0 = (237 : Int32) then (if sur = (0 : Int32) then (159 : Int32) else (191 : Int32)) else (191 : Int32))) (s176_0 : Int32) (h_s176_0 : s176_0 = (if (en - (3 : Int32)) < (3 : Int32) then (0 : Int32) else (1 : Int32))) (hc183 : ¬ (s176_0 = (0 : Int32))) (cb : Int32) (h_cb : cb = (x4 &&& (255 : Int32))) (s254_0 : Int32) (h_s254_0 : s254_0 = (if cb < s76_0 then (0 : Int32) else (if s98_0 < cb then (0 : Int32) else (1 : Int32)))) (hc183_29 : s254_0 = (0 : Int32)) : (-1 : Int32) = (seqZ (3 : Int32) (x3 &&& (255 : Int32)) (x4 &&& (255 : Int32)) (x5 &&& (255 : Int32)) (x6 &&& (255 : Int32)) (en - (3 : Int32)) sur) := by
  have e := @seqZ_0 (3 : Int32) (x3 &&& 255) (x4 &&& 255) (x5 &&& 255) (x6 &&& 255) (en - (3 : Int32)) sur
  refine e ?_
  clear e
  generalize x3 &&& 255 = y0 at *
  generalize x4 &&& 255 = y1 at *
  generalize x5 &&& 255 = y2 at *
  generalize x6 &&& 255 = y3 at *
  generalize en - (3 : Int32) = dd at *
  simp only [own_i, own_l, own_ite, Int32.reduceToInt, ne_eq] at *
  simp only [seqN]
  repeat' (first | omega | split at h_s76_0 | split at h_s98_0 | split at h_s176_0 | split at h_s254_0 | split)
theorem own_sq3_15 (en : Int32) (sur : Int32) (x0 : Int32) (x1 : Int32) (x2 : Int32) (x3 : Int32) (x4 : Int32) (x5 : Int32) (x6 : Int32) (x7 : Int32) (b0 : Int32) (h_b0 : b0 = (x3 &&& (255 : Int32))) (hc24 : ¬ (b0 < (194 : Int32))) (hc32 : (223 : Int32) < b0) (hc46 : ¬ (b0 < (224 : Int32))) (hc54 : ¬ ((239 : Int32) < b0)) (s76_0 : Int32) (h_s76_0 : s76_0 = (if b0 = (224 : Int32) then (160 : Int32) else (128 : Int32))) (s98_0 : Int32) (h_s98_0 : s98_0 = (if b0 = (237 : Int32) then (if sur = (0 : Int32) then (159 : Int32) else (191 : Int32)) else (191 : Int32))) (s176_0 : Int32) (h_s176_0 : s176_0 = (if (en - (3 : Int32)) < (3 : Int32) then (0 : Int32) else (1 : Int32))) (hc183 : ¬ (s176_0 = (0 : Int32))) (cb : Int32) (h_cb : cb = (x4 &&& (255 : Int32))) (s254_0 : Int32) (h_s254_0 : s254_0 = (if cb < s76_0 then (0 : Int32) else (if s98_0 < cb then (0 : Int32) else (1 : Int32)))) (hc183_29 : ¬ (s254_0 = (0 : Int32))) (cbb : Int32) (h_cbb : cbb = (x5 &&& (255 : Int32))) (s254_0b : Int32) (h_s254_0b : s254_0b = (if cbb < (128 : Int32) then (0 : Int32) else (if (191 : Int32) < cbb then (0 : Int32) else (1 : Int32)))) (hc183_33 : s254_0b = (0 : Int32)) : (-1 : Int32) = (seqZ (3 : Int32) (x3 &&& (255 : Int32)) (x4 &&& (255 : Int32)) (x5 &&& (255 : Int32)) (x6 &&& (255 : Int32)) (en - (3 : Int32)) sur) := by
  have e := @seqZ_0 (3 : Int32) (x3 &&& 255) (x4 &&& 255) (x5 &&& 255) (x6 &&& 255) (en - (3 : Int32)) sur
  refine e ?_
  clear e
  generalize x3 &&& 255 = y0 at *
  generalize x4 &&& 255 = y1 at *
  generalize x5 &&& 255 = y2 at *
  generalize x6 &&& 255 = y3 at *
  generalize en - (3 : Int32) = dd at *
  simp only [own_i, own_l, own_ite, Int32.reduceToInt, ne_eq] at *
  simp only [seqN]
  repeat' (first | omega | split at h_s76_0 | split at h_s98_0 | split at h_s176_0 | split at h_s254_0 | split at h_s254_0b | split)
theorem own_sq3_16 (en : Int32) (sur : Int32) (x0 : Int32) (x1 : Int32) (x2 : Int32) (x3 : Int32) (x4 : Int32) (x5 : Int32) (x6 : Int32) (x7 : Int32) (b0 : Int32) (h_b0 : b0 = (x3 &&& (255 : Int32))) (hc24 : ¬ (b0 < (194 : Int32))) (hc32 : (223 : Int32) < b0) (hc46 : ¬ (b0 < (224 : Int32))) (hc54 : ¬ ((239 : Int32) < b0)) (s76_0 : Int32) (h_s76_0 : s76_0 = (if b0 = (224 : Int32) then (160 : Int32) else (128 : Int32))) (s98_0 : Int32) (h_s98_0 : s98_0 = (if b0 = (237 : Int32) then (if sur = (0 : Int32) then (159 : Int32) else (191 : Int32)) else (191 : Int32))) (s176_0 : Int32) (h_s176_0 : s176_0 = (if (en - (3 : Int32)) < (3 : Int32) then (0 : Int32) else (1 : Int32))) (hc183 : ¬ (s176_0 = (0 : Int32))) (cb : Int32) (h_cb : cb = (x4 &&& (255 : Int32))) (s254_0 : Int32) (h_s254_0 : s254_0 = (if cb < s76_0 then (0 : Int32) else (if s98_0 < cb then (0 : Int32) else (1 : Int32)))) (hc183_29 : ¬ (s254_0 = (0 : Int32))) (cbb : Int32) (h_cbb : cbb = (x5 &&& (255 : Int32))) (s254_0b : Int32) (h_s254_0b : s254_0b = (if cbb < (128 : Int32) then (0 : Int32) else (if (191 : Int32) < cbb then (0 : Int32) else (1 : Int32)))) (hc183_33 : ¬ (s254_0b = (0 : Int32))) : (6 : Int32) = (seqZ (3 : Int32) (x3 &&& (255 : Int32)) (x4 &&& (255 : Int32)) (x5 &&& (255 : Int32)) (x6 &&& (255 : Int32)) (en - (3 : Int32)) sur) := by
  have e := @seqZ_3 (3 : Int32) (x3 &&& 255) (x4 &&& 255) (x5 &&& 255) (x6 &&& 255) (en - (3 : Int32)) sur
  refine Eq.trans (by decide) (e ?_)
  clear e
  generalize x3 &&& 255 = y0 at *
  generalize x4 &&& 255 = y1 at *
  generalize x5 &&& 255 = y2 at *
  generalize x6 &&& 255 = y3 at *
  generalize en - (3 : Int32) = dd at *
  simp only [own_i, own_l, own_ite, Int32.reduceToInt, ne_eq] at *
  simp only [seqN]
  repeat' (first | omega | split at h_s76_0 | split at h_s98_0 | split at h_s176_0 | split at h_s254_0 | split at h_s254_0b | split)
theorem own_sq3_17 (en : Int32) (sur : Int32) (x0 : Int32) (x1 : Int32) (x2 : Int32) (x3 : Int32) (x4 : Int32) (x5 : Int32) (x6 : Int32) (x7 : Int32) (b0 : Int32) (h_b0 : b0 = (x3 &&& (255 : Int32))) (hc24 : ¬ (b0 < (194 : Int32))) (hc32 : ¬ ((223 : Int32) < b0)) (s176_0 : Int32) (h_s176_0 : s176_0 = (if (en - (3 : Int32)) < (2 : Int32) then (0 : Int32) else (1 : Int32))) (hc183 : s176_0 = (0 : Int32)) : (-1 : Int32) = (seqZ (3 : Int32) (x3 &&& (255 : Int32)) (x4 &&& (255 : Int32)) (x5 &&& (255 : Int32)) (x6 &&& (255 : Int32)) (en - (3 : Int32)) sur) := by
  have e := @seqZ_0 (3 : Int32) (x3 &&& 255) (x4 &&& 255) (x5 &&& 255) (x6 &&& 255) (en - (3 : Int32)) sur
  refine e ?_
  clear e
  generalize x3 &&& 255 = y0 at *
  generalize x4 &&& 255 = y1 at *
  generalize x5 &&& 255 = y2 at *
  generalize x6 &&& 255 = y3 at *
  generalize en - (3 : Int32) = dd at *
  simp only [own_i, own_l, own_ite, Int32.reduceToInt, ne_eq] at *
  simp only [seqN]
  repeat' (first | omega | split at h_s176_0 | split)
theorem own_sq3_18 (en : Int32) (sur : Int32) (x0 : Int32) (x1 : Int32) (x2 : Int32) (x3 : Int32) (x4 : Int32) (x5 : Int32) (x6 : Int32) (x7 : Int32) (b0 : Int32) (h_b0 : b0 = (x3 &&& (255 : Int32))) (hc24 : ¬ (b0 < (194 : Int32))) (hc32 : ¬ ((223 : Int32) < b0)) (s176_0 : Int32) (h_s176_0 : s176_0 = (if (en - (3 : Int32)) < (2 : Int32) then (0 : Int32) else (1 : Int32))) (hc183 : ¬ (s176_0 = (0 : Int32))) (cb : Int32) (h_cb : cb = (x4 &&& (255 : Int32))) (s254_0 : Int32) (h_s254_0 : s254_0 = (if cb < (128 : Int32) then (0 : Int32) else (if (191 : Int32) < cb then (0 : Int32) else (1 : Int32)))) (hc183_39 : s254_0 = (0 : Int32)) : (-1 : Int32) = (seqZ (3 : Int32) (x3 &&& (255 : Int32)) (x4 &&& (255 : Int32)) (x5 &&& (255 : Int32)) (x6 &&& (255 : Int32)) (en - (3 : Int32)) sur) := by
  have e := @seqZ_0 (3 : Int32) (x3 &&& 255) (x4 &&& 255) (x5 &&& 255) (x6 &&& 255) (en - (3 : Int32)) sur
  refine e ?_
  clear e
  generalize x3 &&& 255 = y0 at *
  generalize x4 &&& 255 = y1 at *
  generalize x5 &&& 255 = y2 at *
  generalize x6 &&& 255 = y3 at *
  generalize en - (3 : Int32) = dd at *
  simp only [own_i, own_l, own_ite, Int32.reduceToInt, ne_eq] at *
  simp only [seqN]
  repeat' (first | omega | split at h_s176_0 | split at h_s254_0 | split)
theorem own_sq3_19 (en : Int32) (sur : Int32) (x0 : Int32) (x1 : Int32) (x2 : Int32) (x3 : Int32) (x4 : Int32) (x5 : Int32) (x6 : Int32) (x7 : Int32) (b0 : Int32) (h_b0 : b0 = (x3 &&& (255 : Int32))) (hc24 : ¬ (b0 < (194 : Int32))) (hc32 : ¬ ((223 : Int32) < b0)) (s176_0 : Int32) (h_s176_0 : s176_0 = (if (en - (3 : Int32)) < (2 : Int32) then (0 : Int32) else (1 : Int32))) (hc183 : ¬ (s176_0 = (0 : Int32))) (cb : Int32) (h_cb : cb = (x4 &&& (255 : Int32))) (s254_0 : Int32) (h_s254_0 : s254_0 = (if cb < (128 : Int32) then (0 : Int32) else (if (191 : Int32) < cb then (0 : Int32) else (1 : Int32)))) (hc183_39 : ¬ (s254_0 = (0 : Int32))) : (5 : Int32) = (seqZ (3 : Int32) (x3 &&& (255 : Int32)) (x4 &&& (255 : Int32)) (x5 &&& (255 : Int32)) (x6 &&& (255 : Int32)) (en - (3 : Int32)) sur) := by
  have e := @seqZ_2 (3 : Int32) (x3 &&& 255) (x4 &&& 255) (x5 &&& 255) (x6 &&& 255) (en - (3 : Int32)) sur
  refine Eq.trans (by decide) (e ?_)
  clear e
  generalize x3 &&& 255 = y0 at *
  generalize x4 &&& 255 = y1 at *
  generalize x5 &&& 255 = y2 at *
  generalize x6 &&& 255 = y3 at *
  generalize en - (3 : Int32) = dd at *
  simp only [own_i, own_l, own_ite, Int32.reduceToInt, ne_eq] at *
  simp only [seqN]
  repeat' (first | omega | split at h_s176_0 | split at h_s254_0 | split)
theorem pn_sq3 : plainFor (⟨"com/example/stamp_to_key/stamptokey/Utf8", "sequenceEnd", "([BIIZ)I"⟩ : MethodName) = true := by first | (refine plainFor_of_name ?_; simp [plainName, overriddenIn]; done) | decide +kernel
set_option maxRecDepth 65536 in
set_option maxHeartbeats 40000000 in
theorem c_sq3 (l : Launch) (Z : State) (a0 : Array Value) (hw : ∀ d ∈ tables_1, d.before a0 Z = true) (b : Addr) (en : Int32) (sur : Int32) (x0 : Int32) (x1 : Int32) (x2 : Int32) (x3 : Int32) (x4 : Int32) (x5 : Int32) (x6 : Int32) (x7 : Int32) (h0 : Heap) (n0 : Nat) (Z0 : n0 ≤ h0.size) (A_b : Ar Z h0 b .byte 8 (lst [.int x0, .int x1, .int x2, .int x3, .int x4, .int x5, .int x6, .int x7])) (g_b : n0 ≤ b) :
    Con l Z (⟨"com/example/stamp_to_key/stamptokey/Utf8", "sequenceEnd", "([BIIZ)I"⟩ : MethodName) prog_34_method_5_code 11 (some .int) ({ frames := 0, cells := 0, slots := 0, locals := 0 } : Room) #[(.ref b), .int (3 : Int32), .int en, .int sur] h0 n0 (Q_sq3 Z b en sur x0 x1 x2 x3 x4 x5 x6 x7 h0) [] := by
  refine con_of_wp pn_sq3 (L0 := #[.val ((.ref b)), .val (.int (3 : Int32)), .val (.int en), .val (.int sur), .unset, .unset, .unset, .unset, .unset, .unset, .unset]) (fun m => by first | (simp [entryFrame, mkF, argsToLocals, Value.category]; done) | rfl) (fun X hl ok => ?_)
  subst hl
  have hK : Konst Z a0 "com/example/stamp_to_key/stamptokey/Utf8" k_sq3 := trivial
  refine wp_run ok hK (B := [(0, .aload_n 0, false), (1, .iload_n 1, false)]) (by decide +kernel) (ps := []) (pc' := 2) (L' := #[.val ((.ref b)), .val (.int (3 : Int32)), .val (.int en), .val (.int sur), .unset, .unset, .unset, .unset, .unset, .unset, .unset]) (S' := [.int (3 : Int32), (.ref b)]) rfl trivial ?_
  refine wp_aB ok A_b (i := 3) (v := .int x3) (by rfl) (by decide) rfl (by decide +kernel) ?_
  refine wp_run ok hK (B := [(3, .sipush 255, false), (6, .iand, false), (7, .istore 4, false)]) (by decide +kernel) (ps := []) (pc' := 9) (L' := #[.val ((.ref b)), .val (.int (3 : Int32)), .val (.int en), .val (.int sur), .val (.int (x3 &&& (255 : Int32))), .unset, .unset, .unset, .unset, .unset, .unset]) (S' := []) rfl trivial ?_
  obtain ⟨b0, h_b0⟩ : ∃ z : Int32, z = (x3 &&& (255 : Int32)) := ⟨_, rfl⟩
  rw [← h_b0]
  refine wp_run ok hK (B := [(9, .sipush 128, false), (12, .istore 6, false), (14, .sipush 191, false), (17, .istore 7, false)]) (by decide +kernel) (ps := []) (pc' := 19) (L' := #[.val ((.ref b)), .val (.int (3 : Int32)), .val (.int en), .val (.int sur), .val (.int b0), .unset, .val (.int (128 : Int32)), .val (.int (191 : Int32)), .unset, .unset, .unset]) (S' := []) rfl trivial ?_
  refine wp_run ok hK (B := [(19, .iload 4, false), (21, .sipush 194, false)]) (by decide +kernel) (ps := []) (pc' := 24) (L' := #[.val ((.ref b)), .val (.int (3 : Int32)), .val (.int en), .val (.int sur), .val (.int b0), .unset, .val (.int (128 : Int32)), .val (.int (191 : Int32)), .unset, .unset, .unset]) (S' := [.int (194 : Int32), .int b0]) rfl trivial ?_
  by_cases hc24 : b0 < (194 : Int32)
  · refine wp_run ok hK (B := [(24, .if_icmp .lt 17, true)]) (by decide +kernel) (ps := [Op.if_icmp.holds .lt b0 (194 : Int32) = true]) (pc' := 41) (L' := #[.val ((.ref b)), .val (.int (3 : Int32)), .val (.int en), .val (.int sur), .val (.int b0), .unset, .val (.int (128 : Int32)), .val (.int (191 : Int32)), .unset, .unset, .unset]) (S' := []) rfl ⟨(XT.ii_lt_t hc24), trivial⟩ ?_
    refine wp_run ok hK (B := [(41, .iload 4, false), (43, .sipush 224, false), (46, .if_icmp .lt 57, true), (103, .iload 4, false), (105, .sipush 240, false), (108, .if_icmp .lt 53, true), (161, .iconst (-1), false)]) (by decide +kernel) (ps := [Op.if_icmp.holds .lt b0 (224 : Int32) = true, Op.if_icmp.holds .lt b0 (240 : Int32) = true]) (pc' := 162) (L' := #[.val ((.ref b)), .val (.int (3 : Int32)), .val (.int en), .val (.int sur), .val (.int b0), .unset, .val (.int (128 : Int32)), .val (.int (191 : Int32)), .unset, .unset, .unset]) (S' := [.int (-1 : Int32)]) rfl ⟨(XT.ii_lt_t (own_sq3_1 en sur x0 x1 x2 x3 x4 x5 x6 x7 b0 h_b0 hc24)), (XT.ii_lt_t (own_sq3_2 en sur x0 x1 x2 x3 x4 x5 x6 x7 b0 h_b0 hc24)), trivial⟩ ?_
    refine wp_retI ok (by decide +kernel) (by decide) (by decide) ?_
    exact ⟨congrArg (fun z => some (Value.int z)) (own_sq3_3 en sur x0 x1 x2 x3 x4 x5 x6 x7 b0 h_b0 hc24), rfl⟩
  · refine wp_run ok hK (B := [(24, .if_icmp .lt 17, false)]) (by decide +kernel) (ps := [Op.if_icmp.holds .lt b0 (194 : Int32) = false]) (pc' := 27) (L' := #[.val ((.ref b)), .val (.int (3 : Int32)), .val (.int en), .val (.int sur), .val (.int b0), .unset, .val (.int (128 : Int32)), .val (.int (191 : Int32)), .unset, .unset, .unset]) (S' := []) rfl ⟨(XT.ii_lt_f hc24), trivial⟩ ?_
    refine wp_run ok hK (B := [(27, .iload 4, false), (29, .sipush 223, false)]) (by decide +kernel) (ps := []) (pc' := 32) (L' := #[.val ((.ref b)), .val (.int (3 : Int32)), .val (.int en), .val (.int sur), .val (.int b0), .unset, .val (.int (128 : Int32)), .val (.int (191 : Int32)), .unset, .unset, .unset]) (S' := [.int (223 : Int32), .int b0]) rfl trivial ?_
    by_cases hc32 : (223 : Int32) < b0
    · refine wp_run ok hK (B := [(32, .if_icmp .gt 9, true)]) (by decide +kernel) (ps := [Op.if_icmp.holds .gt b0 (223 : Int32) = true]) (pc' := 41) (L' := #[.val ((.ref b)), .val (.int (3 : Int32)), .val (.int en), .val (.int sur), .val (.int b0), .unset, .val (.int (128 : Int32)), .val (.int (191 : Int32)), .unset, .unset, .unset]) (S' := []) rfl ⟨(XT.ii_gt_t hc32), trivial⟩ ?_
      refine wp_run ok hK (B := [(41, .iload 4, false), (43, .sipush 224, false)]) (by decide +kernel) (ps := []) (pc' := 46) (L' := #[.val ((.ref b)), .val (.int (3 : Int32)), .val (.int en), .val (.int sur), .val (.int b0), .unset, .val (.int (128 : Int32)), .val (.int (191 : Int32)), .unset, .unset, .unset]) (S' := [.int (224 : Int32), .int b0]) rfl trivial ?_
      by_cases hc46 : b0 < (224 : Int32)
      · refine wp_run ok hK (B := [(46, .if_icmp .lt 57, true)]) (by decide +kernel) (ps := [Op.if_icmp.holds .lt b0 (224 : Int32) = true]) (pc' := 103) (L' := #[.val ((.ref b)), .val (.int (3 : Int32)), .val (.int en), .val (.int sur), .val (.int b0), .unset, .val (.int (128 : Int32)), .val (.int (191 : Int32)), .unset, .unset, .unset]) (S' := []) rfl ⟨(XT.ii_lt_t hc46), trivial⟩ ?_
        refine wp_run ok hK (B := [(103, .iload 4, false), (105, .sipush 240, false), (108, .if_icmp .lt 53, true), (161, .iconst (-1), false)]) (by decide +kernel) (ps := [Op.if_icmp.holds .lt b0 (240 : Int32) = true]) (pc' := 162) (L' := #[.val ((.ref b)), .val (.int (3 : Int32)), .val (.int en), .val (.int sur), .val (.int b0), .unset, .val (.int (128 : Int32)), .val (.int (191 : Int32)), .unset, .unset, .unset]) (S' := [.int (-1 : Int32)]) rfl ⟨(XT.ii_lt_t (own_sq3_4 en sur x0 x1 x2 x3 x4 x5 x6 x7 b0 h_b0 hc24 hc32 hc46)), trivial⟩ ?_
        refine wp_retI ok (by decide +kernel) (by decide) (by decide) ?_
        exact ⟨congrArg (fun z => some (Value.int z)) (own_sq3_5 en sur x0 x1 x2 x3 x4 x5 x6 x7 b0 h_b0 hc24 hc32 hc46), rfl⟩
      · refine wp_run ok hK (B := [(46, .if_icmp .lt 57, false)]) (by decide +kernel) (ps := [Op.if_icmp.holds .lt b0 (224 : Int32) = false]) (pc' := 49) (L' := #[.val ((.ref b)), .val (.int (3 : Int32)), .val (.int en), .val (.int sur), .val (.int b0), .unset, .val (.int (128 : Int32)), .val (.int (191 : Int32)), .unset, .unset, .unset]) (S' := []) rfl ⟨(XT.ii_lt_f hc46), trivial⟩ ?_
        refine wp_run ok hK (B := [(49, .iload 4, false), (51, .sipush 239, false)]) (by decide +kernel) (ps := []) (pc' := 54) (L' := #[.val ((.ref b)), .val (.int (3 : Int32)), .val (.int en), .val (.int sur), .val (.int b0), .unset, .val (.int (128 : Int32)), .val (.int (191 : Int32)), .unset, .unset, .unset]) (S' := [.int (239 : Int32), .int b0]) rfl trivial ?_
        by_cases hc54 : (239 : Int32) < b0
        · refine wp_run ok hK (B := [(54, .if_icmp .gt 49, true)]) (by decide +kernel) (ps := [Op.if_icmp.holds .gt b0 (239 : Int32) = true]) (pc' := 103) (L' := #[.val ((.ref b)), .val (.int (3 : Int32)), .val (.int en), .val (.int sur), .val (.int b0), .unset, .val (.int (128 : Int32)), .val (.int (191 : Int32)), .unset, .unset, .unset]) (S' := []) rfl ⟨(XT.ii_gt_t hc54), trivial⟩ ?_
          refine wp_run ok hK (B := [(103, .iload 4, false), (105, .sipush 240, false)]) (by decide +kernel) (ps := []) (pc' := 108) (L' := #[.val ((.ref b)), .val (.int (3 : Int32)), .val (.int en), .val (.int sur), .val (.int b0), .unset, .val (.int (128 : Int32)), .val (.int (191 : Int32)), .unset, .unset, .unset]) (S' := [.int (240 : Int32), .int b0]) rfl trivial ?_
          by_cases hc108 : b0 < (240 : Int32)
          · refine wp_run ok hK (B := [(108, .if_icmp .lt 53, true)]) (by decide +kernel) (ps := [Op.if_icmp.holds .lt b0 (240 : Int32) = true]) (pc' := 161) (L' := #[.val ((.ref b)), .val (.int (3 : Int32)), .val (.int en), .val (.int sur), .val (.int b0), .unset, .val (.int (128 : Int32)), .val (.int (191 : Int32)), .unset, .unset, .unset]) (S' := []) rfl ⟨(XT.ii_lt_t hc108), trivial⟩ ?_
            refine wp_run ok hK (B := [(161, .iconst (-1), false)]) (by decide +kernel) (ps := []) (pc' := 162) (L' := #[.val ((.ref b)), .val (.int (3 : Int32)), .val (.int en), .val (.int sur), .val (.int b0), .unset, .val (.int (128 : Int32)), .val (.int (191 : Int32)), .unset, .unset, .unset]) (S' := [.int (-1 : Int32)]) rfl trivial ?_
            refine wp_retI ok (by decide +kernel) (by decide) (by decide) ?_
            exact ⟨congrArg (fun z => some (Value.int z)) (own_sq3_6 en sur x0 x1 x2 x3 x4 x5 x6 x7 b0 h_b0 hc24 hc32 hc46 hc54 hc108), rfl⟩
          · refine wp_run ok hK (B := [(108, .if_icmp .lt 53, false)]) (by decide +kernel) (ps := [Op.if_icmp.holds .lt b0 (240 : Int32) = false]) (pc' := 111) (L' := #[.val ((.ref b)), .val (.int (3 : Int32)), .val (.int en), .val (.int sur), .val (.int b0), .unset, .val (.int (128 : Int32)), .val (.int (191 : Int32)), .unset, .unset, .unset]) (S' := []) rfl ⟨(XT.ii_lt_f hc108), trivial⟩ ?_
            refine wp_run ok hK (B := [(111, .iload 4, false), (113, .sipush 244, false)]) (by decide +kernel) (ps := []) (pc' := 116) (L' := #[.val ((.ref b)), .val (.int (3 : Int32)), .val (.int en), .val (.int sur), .val (.int b0), .unset, .val (.int (128 : Int32)), .val (.int (191 : Int32)), .unset, .unset, .unset]) (S' := [.int (244 : Int32), .int b0]) rfl trivial ?_
            by_cases hc116 : (244 : Int32) < b0
            · refine wp_run ok hK (B := [(116, .if_icmp .gt 45, true)]) (by decide +kernel) (ps := [Op.if_icmp.holds .gt b0 (244 : Int32) = true]) (pc' := 161) (L' := #[.val ((.ref b)), .val (.int (3 : Int32)), .val (.int en), .val (.int sur), .val (.int b0), .unset, .val (.int (128 : Int32)), .val (.int (191 : Int32)), .unset, .unset, .unset]) (S' := []) rfl ⟨(XT.ii_gt_t hc116), trivial⟩ ?_
              refine wp_run ok hK (B := [(161, .iconst (-1), false)]) (by decide +kernel) (ps := []) (pc' := 162) (L' := #[.val ((.ref b)), .val (.int (3 : Int32)), .val (.int en), .val (.int sur), .val (.int b0), .unset, .val (.int (128 : Int32)), .val (.int (191 : Int32)), .unset, .unset, .unset]) (S' := [.int (-1 : Int32)]) rfl trivial ?_
              refine wp_retI ok (by decide +kernel) (by decide) (by decide) ?_
              exact ⟨congrArg (fun z => some (Value.int z)) (own_sq3_7 en sur x0 x1 x2 x3 x4 x5 x6 x7 b0 h_b0 hc24 hc32 hc46 hc54 hc108 hc116), rfl⟩
            · refine wp_run ok hK (B := [(116, .if_icmp .gt 45, false)]) (by decide +kernel) (ps := [Op.if_icmp.holds .gt b0 (244 : Int32) = false]) (pc' := 119) (L' := #[.val ((.ref b)), .val (.int (3 : Int32)), .val (.int en), .val (.int sur), .val (.int b0), .unset, .val (.int (128 : Int32)), .val (.int (191 : Int32)), .unset, .unset, .unset]) (S' := []) rfl ⟨(XT.ii_gt_f hc116), trivial⟩ ?_
              refine wp_run ok hK (B := [(119, .iconst 4, false), (120, .istore 5, false), (122, .iload 4, false), (124, .sipush 240, false)]) (by decide +kernel) (ps := []) (pc' := 127) (L' := #[.val ((.ref b)), .val (.int (3 : Int32)), .val (.int en), .val (.int sur), .val (.int b0), .val (.int (4 : Int32)), .val (.int (128 : Int32)), .val (.int (191 : Int32)), .unset, .unset, .unset]) (S' := [.int (240 : Int32), .int b0]) rfl trivial ?_
              have J138_2 : ∀ (s138_0 : Int32) (h_s138_0 : s138_0 = (if b0 = (240 : Int32) then (144 : Int32) else (128 : Int32))), WP X n0 (Q_sq3 Z b en sur x0 x1 x2 x3 x4 x5 x6 x7 h0) h0 0 0 138 #[.val ((.ref b)), .val (.int (3 : Int32)), .val (.int en), .val (.int sur), .val (.int b0), .val (.int (4 : Int32)), .val (.int (128 : Int32)), .val (.int (191 : Int32)), .unset, .unset, .unset] [.int s138_0] := by
                intro s138_0 h_s138_0
                refine wp_run ok hK (B := [(138, .istore 6, false), (140, .iload 4, false), (142, .sipush 244, false)]) (by decide +kernel) (ps := []) (pc' := 145) (L' := #[.val ((.ref b)), .val (.int (3 : Int32)), .val (.int en), .val (.int sur), .val (.int b0), .val (.int (4 : Int32)), .val (.int s138_0), .val (.int (191 : Int32)), .unset, .unset, .unset]) (S' := [.int (244 : Int32), .int b0]) rfl trivial ?_
                have J156_4 : ∀ (s156_0 : Int32) (h_s156_0 : s156_0 = (if b0 = (244 : Int32) then (143 : Int32) else (191 : Int32))), WP X n0 (Q_sq3 Z b en sur x0 x1 x2 x3 x4 x5 x6 x7 h0) h0 0 0 156 #[.val ((.ref b)), .val (.int (3 : Int32)), .val (.int en), .val (.int sur), .val (.int b0), .val (.int (4 : Int32)), .val (.int s138_0), .val (.int (191 : Int32)), .unset, .unset, .unset] [.int s156_0] := by
                  intro s156_0 h_s156_0
                  refine wp_run ok hK (B := [(156, .istore 7, false), (158, .goto 5, false), (163, .iload_n 2, false), (164, .iload_n 1, false), (165, .isub, false), (166, .iload 5, false)]) (by decide +kernel) (ps := []) (pc' := 168) (L' := #[.val ((.ref b)), .val (.int (3 : Int32)), .val (.int en), .val (.int sur), .val (.int b0), .val (.int (4 : Int32)), .val (.int s138_0), .val (.int s156_0), .unset, .unset, .unset]) (S' := [.int (4 : Int32), .int (en - (3 : Int32))]) rfl trivial ?_
                  have J176_6 : ∀ (s176_0 : Int32) (h_s176_0 : s176_0 = (if (en - (3 : Int32)) < (4 : Int32) then (0 : Int32) else (1 : Int32))), WP X n0 (Q_sq3 Z b en sur x0 x1 x2 x3 x4 x5 x6 x7 h0) h0 0 0 176 #[.val ((.ref b)), .val (.int (3 : Int32)), .val (.int en), .val (.int sur), .val (.int b0), .val (.int (4 : Int32)), .val (.int s138_0), .val (.int s156_0), .unset, .unset, .unset] [.int s176_0] := by
                    intro s176_0 h_s176_0
                    refine wp_run ok hK (B := [(176, .istore 8, false), (178, .iconst 1, false), (179, .istore 9, false)]) (by decide +kernel) (ps := []) (pc' := 181) (L' := #[.val ((.ref b)), .val (.int (3 : Int32)), .val (.int en), .val (.int sur), .val (.int b0), .val (.int (4 : Int32)), .val (.int s138_0), .val (.int s156_0), .val (.int s176_0), .val (.int (1 : Int32)), .unset]) (S' := []) rfl trivial ?_
                    refine wp_run ok hK (B := [(181, .iload 8, false)]) (by decide +kernel) (ps := []) (pc' := 183) (L' := #[.val ((.ref b)), .val (.int (3 : Int32)), .val (.int en), .val (.int sur), .val (.int b0), .val (.int (4 : Int32)), .val (.int s138_0), .val (.int s156_0), .val (.int s176_0), .val (.int (1 : Int32)), .unset]) (S' := [.int s176_0]) rfl trivial ?_
                    by_cases hc183 : s176_0 = (0 : Int32)
                    · refine wp_run ok hK (B := [(183, .ifCond .eq 79, true)]) (by decide +kernel) (ps := [Op.ifCond.holds .eq s176_0 = true]) (pc' := 262) (L' := #[.val ((.ref b)), .val (.int (3 : Int32)), .val (.int en), .val (.int sur), .val (.int b0), .val (.int (4 : Int32)), .val (.int s138_0), .val (.int s156_0), .val (.int s176_0), .val (.int (1 : Int32)), .unset]) (S' := []) rfl ⟨(XT.i0_eq_t hc183), trivial⟩ ?_
                      refine wp_run ok hK (B := [(262, .iload 8, false), (264, .ifCond .eq 10, true), (274, .iconst (-1), false)]) (by decide +kernel) (ps := [Op.ifCond.holds .eq s176_0 = true]) (pc' := 275) (L' := #[.val ((.ref b)), .val (.int (3 : Int32)), .val (.int en), .val (.int sur), .val (.int b0), .val (.int (4 : Int32)), .val (.int s138_0), .val (.int s156_0), .val (.int s176_0), .val (.int (1 : Int32)), .unset]) (S' := [.int (-1 : Int32)]) rfl ⟨(XT.i0_eq_t hc183), trivial⟩ ?_
                      refine wp_retI ok (by decide +kernel) (by decide) (by decide) ?_
                      exact ⟨congrArg (fun z => some (Value.int z)) (own_sq3_8 en sur x0 x1 x2 x3 x4 x5 x6 x7 b0 h_b0 hc24 hc32 hc46 hc54 hc108 hc116 s138_0 h_s138_0 s156_0 h_s156_0 s176_0 h_s176_0 hc183), rfl⟩
                    · refine wp_run ok hK (B := [(183, .ifCond .eq 79, false)]) (by decide +kernel) (ps := [Op.ifCond.holds .eq s176_0 = false]) (pc' := 186) (L' := #[.val ((.ref b)), .val (.int (3 : Int32)), .val (.int en), .val (.int sur), .val (.int b0), .val (.int (4 : Int32)), .val (.int s138_0), .val (.int s156_0), .val (.int s176_0), .val (.int (1 : Int32)), .unset]) (S' := []) rfl ⟨(XT.i0_eq_f hc183), trivial⟩ ?_
                      refine wp_run ok hK (B := [(186, .iload 9, false), (188, .iload 5, false), (190, .if_icmp .ge 72, false), (193, .aload_n 0, false), (194, .iload_n 1, false), (195, .iload 9, false), (197, .iadd, false)]) (by decide +kernel) (ps := [Op.if_icmp.holds .ge (1 : Int32) (4 : Int32) = false]) (pc' := 198) (L' := #[.val ((.ref b)), .val (.int (3 : Int32)), .val (.int en), .val (.int sur), .val (.int b0), .val (.int (4 : Int32)), .val (.int s138_0), .val (.int s156_0), .val (.int s176_0), .val (.int (1 : Int32)), .unset]) (S' := [.int (4 : Int32), (.ref b)]) rfl ⟨(XT.ii_ge_f (by decide)), trivial⟩ ?_
                      refine wp_aB ok A_b (i := 4) (v := .int x4) (by rfl) (by decide) rfl (by decide +kernel) ?_
                      refine wp_run ok hK (B := [(199, .sipush 255, false), (202, .iand, false), (203, .istore 10, false)]) (by decide +kernel) (ps := []) (pc' := 205) (L' := #[.val ((.ref b)), .val (.int (3 : Int32)), .val (.int en), .val (.int sur), .val (.int b0), .val (.int (4 : Int32)), .val (.int s138_0), .val (.int s156_0), .val (.int s176_0), .val (.int (1 : Int32)), .val (.int (x4 &&& (255 : Int32)))]) (S' := []) rfl trivial ?_
                      obtain ⟨cb, h_cb⟩ : ∃ z : Int32, z = (x4 &&& (255 : Int32)) := ⟨_, rfl⟩
                      rw [← h_cb]
                      refine wp_run ok hK (B := [(205, .iload 9, false), (207, .iconst 1, false), (208, .if_icmp .ne 25, false), (211, .iload 10, false), (213, .iload 6, false)]) (by decide +kernel) (ps := [Op.if_icmp.holds .ne (1 : Int32) (1 : Int32) = false]) (pc' := 215) (L' := #[.val ((.ref b)), .val (.int (3 : Int32)), .val (.int en), .val (.int sur), .val (.int b0), .val (.int (4 : Int32)), .val (.int s138_0), .val (.int s156_0), .val (.int s176_0), .val (.int (1 : Int32)), .val (.int cb)]) (S' := [.int s138_0, .int cb]) rfl ⟨(XT.ii_ne_f (by decide)), trivial⟩ ?_
                      have J254_9 : ∀ (s254_0 : Int32) (h_s254_0 : s254_0 = (if cb < s138_0 then (0 : Int32) else (if s156_0 < cb then (0 : Int32) else (1 : Int32)))), WP X n0 (Q_sq3 Z b en sur x0 x1 x2 x3 x4 x5 x6 x7 h0) h0 0 0 254 #[.val ((.ref b)), .val (.int (3 : Int32)), .val (.int en), .val (.int sur), .val (.int b0), .val (.int (4 : Int32)), .val (.int s138_0), .val (.int s156_0), .val (.int s176_0), .val (.int (1 : Int32)), .val (.int cb)] [.int s254_0] := by
                        intro s254_0 h_s254_0
                        refine wp_run ok hK (B := [(254, .istore 8, false), (256, .iinc 9 1, false)]) (by decide +kernel) (ps := []) (pc' := 259) (L' := #[.val ((.ref b)), .val (.int (3 : Int32)), .val (.int en), .val (.int sur), .val (.int b0), .val (.int (4 : Int32)), .val (.int s138_0), .val (.int s156_0), .val (.int s254_0), .val (.int (2 : Int32)), .val (.int cb)]) (S' := []) rfl trivial ?_
                        refine wp_run ok hK (B := [(259, .goto (-78), false), (181, .iload 8, false)]) (by decide +kernel) (ps := []) (pc' := 183) (L' := #[.val ((.ref b)), .val (.int (3 : Int32)), .val (.int en), .val (.int sur), .val (.int b0), .val (.int (4 : Int32)), .val (.int s138_0), .val (.int s156_0), .val (.int s254_0), .val (.int (2 : Int32)), .val (.int cb)]) (S' := [.int s254_0]) rfl trivial ?_
                        by_cases hc183_10 : s254_0 = (0 : Int32)
                        · refine wp_run ok hK (B := [(183, .ifCond .eq 79, true)]) (by decide +kernel) (ps := [Op.ifCond.holds .eq s254_0 = true]) (pc' := 262) (L' := #[.val ((.ref b)), .val (.int (3 : Int32)), .val (.int en), .val (.int sur), .val (.int b0), .val (.int (4 : Int32)), .val (.int s138_0), .val (.int s156_0), .val (.int s254_0), .val (.int (2 : Int32)), .val (.int cb)]) (S' := []) rfl ⟨(XT.i0_eq_t hc183_10), trivial⟩ ?_
                          refine wp_run ok hK (B := [(262, .iload 8, false), (264, .ifCond .eq 10, true), (274, .iconst (-1), false)]) (by decide +kernel) (ps := [Op.ifCond.holds .eq s254_0 = true]) (pc' := 275) (L' := #[.val ((.ref b)), .val (.int (3 : Int32)), .val (.int en), .val (.int sur), .val (.int b0), .val (.int (4 : Int32)), .val (.int s138_0), .val (.int s156_0), .val (.int s254_0), .val (.int (2 : Int32)), .val (.int cb)]) (S' := [.int (-1 : Int32)]) rfl ⟨(XT.i0_eq_t hc183_10), trivial⟩ ?_
                          refine wp_retI ok (by decide +kernel) (by decide) (by decide) ?_
                          exact ⟨congrArg (fun z => some (Value.int z)) (own_sq3_9 en sur x0 x1 x2 x3 x4 x5 x6 x7 b0 h_b0 hc24 hc32 hc46 hc54 hc108 hc116 s138_0 h_s138_0 s156_0 h_s156_0 s176_0 h_s176_0 hc183 cb h_cb s254_0 h_s254_0 hc183_10), rfl⟩
                        · refine wp_run ok hK (B := [(183, .ifCond .eq 79, false)]) (by decide +kernel) (ps := [Op.ifCond.holds .eq s254_0 = false]) (pc' := 186) (L' := #[.val ((.ref b)), .val (.int (3 : Int32)), .val (.int en), .val (.int sur), .val (.int b0), .val (.int (4 : Int32)), .val (.int s138_0), .val (.int s156_0), .val (.int s254_0), .val (.int (2 : Int32)), .val (.int cb)]) (S' := []) rfl ⟨(XT.i0_eq_f hc183_10), trivial⟩ ?_
                          refine wp_run ok hK (B := [(186, .iload 9, false), (188, .iload 5, false), (190, .if_icmp .ge 72, false), (193, .aload_n 0, false), (194, .iload_n 1, false), (195, .iload 9, false), (197, .iadd, false)]) (by decide +kernel) (ps := [Op.if_icmp.holds .ge (2 : Int32) (4 : Int32) = false]) (pc' := 198) (L' := #[.val ((.ref b)), .val (.int (3 : Int32)), .val (.int en), .val (.int sur), .val (.int b0), .val (.int (4 : Int32)), .val (.int s138_0), .val (.int s156_0), .val (.int s254_0), .val (.int (2 : Int32)), .val (.int cb)]) (S' := [.int (5 : Int32), (.ref b)]) rfl ⟨(XT.ii_ge_f (by decide)), trivial⟩ ?_
                          refine wp_aB ok A_b (i := 5) (v := .int x5) (by rfl) (by decide) rfl (by decide +kernel) ?_
                          refine wp_run ok hK (B := [(199, .sipush 255, false), (202, .iand, false), (203, .istore 10, false)]) (by decide +kernel) (ps := []) (pc' := 205) (L' := #[.val ((.ref b)), .val (.int (3 : Int32)), .val (.int en), .val (.int sur), .val (.int b0), .val (.int (4 : Int32)), .val (.int s138_0), .val (.int s156_0), .val (.int s254_0), .val (.int (2 : Int32)), .val (.int (x5 &&& (255 : Int32)))]) (S' := []) rfl trivial ?_
                          obtain ⟨cbb, h_cbb⟩ : ∃ z : Int32, z = (x5 &&& (255 : Int32)) := ⟨_, rfl⟩
                          rw [← h_cbb]
                          refine wp_run ok hK (B := [(205, .iload 9, false), (207, .iconst 1, false), (208, .if_icmp .ne 25, true), (233, .iload 10, false), (235, .sipush 128, false)]) (by decide +kernel) (ps := [Op.if_icmp.holds .ne (2 : Int32) (1 : Int32) = true]) (pc' := 238) (L' := #[.val ((.ref b)), .val (.int (3 : Int32)), .val (.int en), .val (.int sur), .val (.int b0), .val (.int (4 : Int32)), .val (.int s138_0), .val (.int s156_0), .val (.int s254_0), .val (.int (2 : Int32)), .val (.int cbb)]) (S' := [.int (128 : Int32), .int cbb]) rfl ⟨(XT.ii_ne_t (by decide)), trivial⟩ ?_
                          have J254_13 : ∀ (s254_0b : Int32) (h_s254_0b : s254_0b = (if cbb < (128 : Int32) then (0 : Int32) else (if (191 : Int32) < cbb then (0 : Int32) else (1 : Int32)))), WP X n0 (Q_sq3 Z b en sur x0 x1 x2 x3 x4 x5 x6 x7 h0) h0 0 0 254 #[.val ((.ref b)), .val (.int (3 : Int32)), .val (.int en), .val (.int sur), .val (.int b0), .val (.int (4 : Int32)), .val (.int s138_0), .val (.int s156_0), .val (.int s254_0), .val (.int (2 : Int32)), .val (.int cbb)] [.int s254_0b] := by
                            intro s254_0b h_s254_0b
                            refine wp_run ok hK (B := [(254, .istore 8, false), (256, .iinc 9 1, false)]) (by decide +kernel) (ps := []) (pc' := 259) (L' := #[.val ((.ref b)), .val (.int (3 : Int32)), .val (.int en), .val (.int sur), .val (.int b0), .val (.int (4 : Int32)), .val (.int s138_0), .val (.int s156_0), .val (.int s254_0b), .val (.int (3 : Int32)), .val (.int cbb)]) (S' := []) rfl trivial ?_
                            refine wp_run ok hK (B := [(259, .goto (-78), false), (181, .iload 8, false)]) (by decide +kernel) (ps := []) (pc' := 183) (L' := #[.val ((.ref b)), .val (.int (3 : Int32)), .val (.int en), .val (.int sur), .val (.int b0), .val (.int (4 : Int32)), .val (.int s138_0), .val (.int s156_0), .val (.int s254_0b), .val (.int (3 : Int32)), .val (.int cbb)]) (S' := [.int s254_0b]) rfl trivial ?_
                            by_cases hc183_14 : s254_0b = (0 : Int32)
                            · refine wp_run ok hK (B := [(183, .ifCond .eq 79, true)]) (by decide +kernel) (ps := [Op.ifCond.holds .eq s254_0b = true]) (pc' := 262) (L' := #[.val ((.ref b)), .val (.int (3 : Int32)), .val (.int en), .val (.int sur), .val (.int b0), .val (.int (4 : Int32)), .val (.int s138_0), .val (.int s156_0), .val (.int s254_0b), .val (.int (3 : Int32)), .val (.int cbb)]) (S' := []) rfl ⟨(XT.i0_eq_t hc183_14), trivial⟩ ?_
                              refine wp_run ok hK (B := [(262, .iload 8, false), (264, .ifCond .eq 10, true), (274, .iconst (-1), false)]) (by decide +kernel) (ps := [Op.ifCond.holds .eq s254_0b = true]) (pc' := 275) (L' := #[.val ((.ref b)), .val (.int (3 : Int32)), .val (.int en), .val (.int sur), .val (.int b0), .val (.int (4 : Int32)), .val (.int s138_0), .val (.int s156_0), .val (.int s254_0b), .val (.int (3 : Int32)), .val (.int cbb)]) (S' := [.int (-1 : Int32)]) rfl ⟨(XT.i0_eq_t hc183_14), trivial⟩ ?_
                              refine wp_retI ok (by decide +kernel) (by decide) (by decide) ?_
                              exact ⟨congrArg (fun z => some (Value.int z)) (own_sq3_10 en sur x0 x1 x2 x3 x4 x5 x6 x7 b0 h_b0 hc24 hc32 hc46 hc54 hc108 hc116 s138_0 h_s138_0 s156_0 h_s156_0 s176_0 h_s176_0 hc183 cb h_cb s254_0 h_s254_0 hc183_10 cbb h_cbb s254_0b h_s254_0b hc183_14), rfl⟩
                            · refine wp_run ok hK (B := [(183, .ifCond .eq 79, false)]) (by decide +kernel) (ps := [Op.ifCond.holds .eq s254_0b = false]) (pc' := 186) (L' := #[.val ((.ref b)), .val (.int (3 : Int32)), .val (.int en), .val (.int sur), .val (.int b0), .val (.int (4 : Int32)), .val (.int s138_0), .val (.int s156_0), .val (.int s254_0b), .val (.int (3 : Int32)), .val (.int cbb)]) (S' := []) rfl ⟨(XT.i0_eq_f hc183_14), trivial⟩ ?_
                              refine wp_run ok hK (B := [(186, .iload 9, false), (188, .iload 5, false), (190, .if_icmp .ge 72, false), (193, .aload_n 0, false), (194, .iload_n 1, false), (195, .iload 9, false), (197, .iadd, false)]) (by decide +kernel) (ps := [Op.if_icmp.holds .ge (3 : Int32) (4 : Int32) = false]) (pc' := 198) (L' := #[.val ((.ref b)), .val (.int (3 : Int32)), .val (.int en), .val (.int sur), .val (.int b0), .val (.int (4 : Int32)), .val (.int s138_0), .val (.int s156_0), .val (.int s254_0b), .val (.int (3 : Int32)), .val (.int cbb)]) (S' := [.int (6 : Int32), (.ref b)]) rfl ⟨(XT.ii_ge_f (by decide)), trivial⟩ ?_
                              refine wp_aB ok A_b (i := 6) (v := .int x6) (by rfl) (by decide) rfl (by decide +kernel) ?_
                              refine wp_run ok hK (B := [(199, .sipush 255, false), (202, .iand, false), (203, .istore 10, false)]) (by decide +kernel) (ps := []) (pc' := 205) (L' := #[.val ((.ref b)), .val (.int (3 : Int32)), .val (.int en), .val (.int sur), .val (.int b0), .val (.int (4 : Int32)), .val (.int s138_0), .val (.int s156_0), .val (.int s254_0b), .val (.int (3 : Int32)), .val (.int (x6 &&& (255 : Int32)))]) (S' := []) rfl trivial ?_
                              obtain ⟨cbbb, h_cbbb⟩ : ∃ z : Int32, z = (x6 &&& (255 : Int32)) := ⟨_, rfl⟩
                              rw [← h_cbbb]
                              refine wp_run ok hK (B := [(205, .iload 9, false), (207, .iconst 1, false), (208, .if_icmp .ne 25, true), (233, .iload 10, false), (235, .sipush 128, false)]) (by decide +kernel) (ps := [Op.if_icmp.holds .ne (3 : Int32) (1 : Int32) = true]) (pc' := 238) (L' := #[.val ((.ref b)), .val (.int (3 : Int32)), .val (.int en), .val (.int sur), .val (.int b0), .val (.int (4 : Int32)), .val (.int s138_0), .val (.int s156_0), .val (.int s254_0b), .val (.int (3 : Int32)), .val (.int cbbb)]) (S' := [.int (128 : Int32), .int cbbb]) rfl ⟨(XT.ii_ne_t (by decide)), trivial⟩ ?_
                              have J254_17 : ∀ (s254_0bb : Int32) (h_s254_0bb : s254_0bb = (if cbbb < (128 : Int32) then (0 : Int32) else (if (191 : Int32) < cbbb then (0 : Int32) else (1 : Int32)))), WP X n0 (Q_sq3 Z b en sur x0 x1 x2 x3 x4 x5 x6 x7 h0) h0 0 0 254 #[.val ((.ref b)), .val (.int (3 : Int32)), .val (.int en), .val (.int sur), .val (.int b0), .val (.int (4 : Int32)), .val (.int s138_0), .val (.int s156_0), .val (.int s254_0b), .val (.int (3 : Int32)), .val (.int cbbb)] [.int s254_0bb] := by
                                intro s254_0bb h_s254_0bb
                                refine wp_run ok hK (B := [(254, .istore 8, false), (256, .iinc 9 1, false)]) (by decide +kernel) (ps := []) (pc' := 259) (L' := #[.val ((.ref b)), .val (.int (3 : Int32)), .val (.int en), .val (.int sur), .val (.int b0), .val (.int (4 : Int32)), .val (.int s138_0), .val (.int s156_0), .val (.int s254_0bb), .val (.int (4 : Int32)), .val (.int cbbb)]) (S' := []) rfl trivial ?_
                                refine wp_run ok hK (B := [(259, .goto (-78), false), (181, .iload 8, false)]) (by decide +kernel) (ps := []) (pc' := 183) (L' := #[.val ((.ref b)), .val (.int (3 : Int32)), .val (.int en), .val (.int sur), .val (.int b0), .val (.int (4 : Int32)), .val (.int s138_0), .val (.int s156_0), .val (.int s254_0bb), .val (.int (4 : Int32)), .val (.int cbbb)]) (S' := [.int s254_0bb]) rfl trivial ?_
                                by_cases hc183_18 : s254_0bb = (0 : Int32)
                                · refine wp_run ok hK (B := [(183, .ifCond .eq 79, true)]) (by decide +kernel) (ps := [Op.ifCond.holds .eq s254_0bb = true]) (pc' := 262) (L' := #[.val ((.ref b)), .val (.int (3 : Int32)), .val (.int en), .val (.int sur), .val (.int b0), .val (.int (4 : Int32)), .val (.int s138_0), .val (.int s156_0), .val (.int s254_0bb), .val (.int (4 : Int32)), .val (.int cbbb)]) (S' := []) rfl ⟨(XT.i0_eq_t hc183_18), trivial⟩ ?_
                                  refine wp_run ok hK (B := [(262, .iload 8, false), (264, .ifCond .eq 10, true), (274, .iconst (-1), false)]) (by decide +kernel) (ps := [Op.ifCond.holds .eq s254_0bb = true]) (pc' := 275) (L' := #[.val ((.ref b)), .val (.int (3 : Int32)), .val (.int en), .val (.int sur), .val (.int b0), .val (.int (4 : Int32)), .val (.int s138_0), .val (.int s156_0), .val (.int s254_0bb), .val (.int (4 : Int32)), .val (.int cbbb)]) (S' := [.int (-1 : Int32)]) rfl ⟨(XT.i0_eq_t hc183_18), trivial⟩ ?_
                                  refine wp_retI ok (by decide +kernel) (by decide) (by decide) ?_
                                  exact ⟨congrArg (fun z => some (Value.int z)) (own_sq3_11 en sur x0 x1 x2 x3 x4 x5 x6 x7 b0 h_b0 hc24 hc32 hc46 hc54 hc108 hc116 s138_0 h_s138_0 s156_0 h_s156_0 s176_0 h_s176_0 hc183 cb h_cb s254_0 h_s254_0 hc183_10 cbb h_cbb s254_0b h_s254_0b hc183_14 cbbb h_cbbb s254_0bb h_s254_0bb hc183_18), rfl⟩
                                · refine wp_run ok hK (B := [(183, .ifCond .eq 79, false)]) (by decide +kernel) (ps := [Op.ifCond.holds .eq s254_0bb = false]) (pc' := 186) (L' := #[.val ((.ref b)), .val (.int (3 : Int32)), .val (.int en), .val (.int sur), .val (.int b0), .val (.int (4 : Int32)), .val (.int s138_0), .val (.int s156_0), .val (.int s254_0bb), .val (.int (4 : Int32)), .val (.int cbbb)]) (S' := []) rfl ⟨(XT.i0_eq_f hc183_18), trivial⟩ ?_
                                  refine wp_run ok hK (B := [(186, .iload 9, false), (188, .iload 5, false), (190, .if_icmp .ge 72, true), (262, .iload 8, false), (264, .ifCond .eq 10, false), (267, .iload_n 1, false), (268, .iload 5, false), (270, .iadd, false), (271, .goto 4, false)]) (by decide +kernel) (ps := [Op.if_icmp.holds .ge (4 : Int32) (4 : Int32) = true, Op.ifCond.holds .eq s254_0bb = false]) (pc' := 275) (L' := #[.val ((.ref b)), .val (.int (3 : Int32)), .val (.int en), .val (.int sur), .val (.int b0), .val (.int (4 : Int32)), .val (.int s138_0), .val (.int s156_0), .val (.int s254_0bb), .val (.int (4 : Int32)), .val (.int cbbb)]) (S' := [.int (7 : Int32)]) rfl ⟨(XT.ii_ge_t (by decide)), (XT.i0_eq_f hc183_18), trivial⟩ ?_
                                  refine wp_retI ok (by decide +kernel) (by decide) (by decide) ?_
                                  exact ⟨congrArg (fun z => some (Value.int z)) (own_sq3_12 en sur x0 x1 x2 x3 x4 x5 x6 x7 b0 h_b0 hc24 hc32 hc46 hc54 hc108 hc116 s138_0 h_s138_0 s156_0 h_s156_0 s176_0 h_s176_0 hc183 cb h_cb s254_0 h_s254_0 hc183_10 cbb h_cbb s254_0b h_s254_0b hc183_14 cbbb h_cbbb s254_0bb h_s254_0bb hc183_18), rfl⟩
                              by_cases c15 : cbbb < (128 : Int32)
                              · refine wp_run ok hK (B := [(238, .if_icmp .lt 15, true), (253, .iconst 0, false)]) (by decide +kernel) (ps := [Op.if_icmp.holds .lt cbbb (128 : Int32) = true]) (pc' := 254) (L' := #[.val ((.ref b)), .val (.int (3 : Int32)), .val (.int en), .val (.int sur), .val (.int b0), .val (.int (4 : Int32)), .val (.int s138_0), .val (.int s156_0), .val (.int s254_0b), .val (.int (3 : Int32)), .val (.int cbbb)]) (S' := [.int (0 : Int32)]) rfl ⟨(XT.ii_lt_t c15), trivial⟩ ?_
                                exact J254_17 _ (by rw [if_pos c15])
                              · by_cases c16 : (191 : Int32) < cbbb
                                · refine wp_run ok hK (B := [(238, .if_icmp .lt 15, false), (241, .iload 10, false), (243, .sipush 191, false), (246, .if_icmp .gt 7, true), (253, .iconst 0, false)]) (by decide +kernel) (ps := [Op.if_icmp.holds .lt cbbb (128 : Int32) = false, Op.if_icmp.holds .gt cbbb (191 : Int32) = true]) (pc' := 254) (L' := #[.val ((.ref b)), .val (.int (3 : Int32)), .val (.int en), .val (.int sur), .val (.int b0), .val (.int (4 : Int32)), .val (.int s138_0), .val (.int s156_0), .val (.int s254_0b), .val (.int (3 : Int32)), .val (.int cbbb)]) (S' := [.int (0 : Int32)]) rfl ⟨(XT.ii_lt_f c15), (XT.ii_gt_t c16), trivial⟩ ?_
                                  exact J254_17 _ (by rw [if_neg c15, if_pos c16])
                                · refine wp_run ok hK (B := [(238, .if_icmp .lt 15, false), (241, .iload 10, false), (243, .sipush 191, false), (246, .if_icmp .gt 7, false), (249, .iconst 1, false), (250, .goto 4, false)]) (by decide +kernel) (ps := [Op.if_icmp.holds .lt cbbb (128 : Int32) = false, Op.if_icmp.holds .gt cbbb (191 : Int32) = false]) (pc' := 254) (L' := #[.val ((.ref b)), .val (.int (3 : Int32)), .val (.int en), .val (.int sur), .val (.int b0), .val (.int (4 : Int32)), .val (.int s138_0), .val (.int s156_0), .val (.int s254_0b), .val (.int (3 : Int32)), .val (.int cbbb)]) (S' := [.int (1 : Int32)]) rfl ⟨(XT.ii_lt_f c15), (XT.ii_gt_f c16), trivial⟩ ?_
                                  exact J254_17 _ (by rw [if_neg c15, if_neg c16])
                          by_cases c11 : cbb < (128 : Int32)
                          · refine wp_run ok hK (B := [(238, .if_icmp .lt 15, true), (253, .iconst 0, false)]) (by decide +kernel) (ps := [Op.if_icmp.holds .lt cbb (128 : Int32) = true]) (pc' := 254) (L' := #[.val ((.ref b)), .val (.int (3 : Int32)), .val (.int en), .val (.int sur), .val (.int b0), .val (.int (4 : Int32)), .val (.int s138_0), .val (.int s156_0), .val (.int s254_0), .val (.int (2 : Int32)), .val (.int cbb)]) (S' := [.int (0 : Int32)]) rfl ⟨(XT.ii_lt_t c11), trivial⟩ ?_
                            exact J254_13 _ (by rw [if_pos c11])
                          · by_cases c12 : (191 : Int32) < cbb
                            · refine wp_run ok hK (B := [(238, .if_icmp .lt 15, false), (241, .iload 10, false), (243, .sipush 191, false), (246, .if_icmp .gt 7, true), (253, .iconst 0, false)]) (by decide +kernel) (ps := [Op.if_icmp.holds .lt cbb (128 : Int32) = false, Op.if_icmp.holds .gt cbb (191 : Int32) = true]) (pc' := 254) (L' := #[.val ((.ref b)), .val (.int (3 : Int32)), .val (.int en), .val (.int sur), .val (.int b0), .val (.int (4 : Int32)), .val (.int s138_0), .val (.int s156_0), .val (.int s254_0), .val (.int (2 : Int32)), .val (.int cbb)]) (S' := [.int (0 : Int32)]) rfl ⟨(XT.ii_lt_f c11), (XT.ii_gt_t c12), trivial⟩ ?_
                              exact J254_13 _ (by rw [if_neg c11, if_pos c12])
                            · refine wp_run ok hK (B := [(238, .if_icmp .lt 15, false), (241, .iload 10, false), (243, .sipush 191, false), (246, .if_icmp .gt 7, false), (249, .iconst 1, false), (250, .goto 4, false)]) (by decide +kernel) (ps := [Op.if_icmp.holds .lt cbb (128 : Int32) = false, Op.if_icmp.holds .gt cbb (191 : Int32) = false]) (pc' := 254) (L' := #[.val ((.ref b)), .val (.int (3 : Int32)), .val (.int en), .val (.int sur), .val (.int b0), .val (.int (4 : Int32)), .val (.int s138_0), .val (.int s156_0), .val (.int s254_0), .val (.int (2 : Int32)), .val (.int cbb)]) (S' := [.int (1 : Int32)]) rfl ⟨(XT.ii_lt_f c11), (XT.ii_gt_f c12), trivial⟩ ?_
                              exact J254_13 _ (by rw [if_neg c11, if_neg c12])
                      by_cases c7 : cb < s138_0
                      · refine wp_run ok hK (B := [(215, .if_icmp .lt 14, true), (229, .iconst 0, false), (230, .goto 24, false)]) (by decide +kernel) (ps := [Op.if_icmp.holds .lt cb s138_0 = true]) (pc' := 254) (L' := #[.val ((.ref b)), .val (.int (3 : Int32)), .val (.int en), .val (.int sur), .val (.int b0), .val (.int (4 : Int32)), .val (.int s138_0), .val (.int s156_0), .val (.int s176_0), .val (.int (1 : Int32)), .val (.int cb)]) (S' := [.int (0 : Int32)]) rfl ⟨(XT.ii_lt_t c7), trivial⟩ ?_
                        exact J254_9 _ (by rw [if_pos c7])
                      · by_cases c8 : s156_0 < cb
                        · refine wp_run ok hK (B := [(215, .if_icmp .lt 14, false), (218, .iload 10, false), (220, .iload 7, false), (222, .if_icmp .gt 7, true), (229, .iconst 0, false), (230, .goto 24, false)]) (by decide +kernel) (ps := [Op.if_icmp.holds .lt cb s138_0 = false, Op.if_icmp.holds .gt cb s156_0 = true]) (pc' := 254) (L' := #[.val ((.ref b)), .val (.int (3 : Int32)), .val (.int en), .val (.int sur), .val (.int b0), .val (.int (4 : Int32)), .val (.int s138_0), .val (.int s156_0), .val (.int s176_0), .val (.int (1 : Int32)), .val (.int cb)]) (S' := [.int (0 : Int32)]) rfl ⟨(XT.ii_lt_f c7), (XT.ii_gt_t c8), trivial⟩ ?_
                          exact J254_9 _ (by rw [if_neg c7, if_pos c8])
                        · refine wp_run ok hK (B := [(215, .if_icmp .lt 14, false), (218, .iload 10, false), (220, .iload 7, false), (222, .if_icmp .gt 7, false), (225, .iconst 1, false), (226, .goto 28, false)]) (by decide +kernel) (ps := [Op.if_icmp.holds .lt cb s138_0 = false, Op.if_icmp.holds .gt cb s156_0 = false]) (pc' := 254) (L' := #[.val ((.ref b)), .val (.int (3 : Int32)), .val (.int en), .val (.int sur), .val (.int b0), .val (.int (4 : Int32)), .val (.int s138_0), .val (.int s156_0), .val (.int s176_0), .val (.int (1 : Int32)), .val (.int cb)]) (S' := [.int (1 : Int32)]) rfl ⟨(XT.ii_lt_f c7), (XT.ii_gt_f c8), trivial⟩ ?_
                          exact J254_9 _ (by rw [if_neg c7, if_neg c8])
                  by_cases c5 : (en - (3 : Int32)) < (4 : Int32)
                  · refine wp_run ok hK (B := [(168, .if_icmp .lt 7, true), (175, .iconst 0, false)]) (by decide +kernel) (ps := [Op.if_icmp.holds .lt (en - (3 : Int32)) (4 : Int32) = true]) (pc' := 176) (L' := #[.val ((.ref b)), .val (.int (3 : Int32)), .val (.int en), .val (.int sur), .val (.int b0), .val (.int (4 : Int32)), .val (.int s138_0), .val (.int s156_0), .unset, .unset, .unset]) (S' := [.int (0 : Int32)]) rfl ⟨(XT.ii_lt_t c5), trivial⟩ ?_
                    exact J176_6 _ (by rw [if_pos c5])
                  · refine wp_run ok hK (B := [(168, .if_icmp .lt 7, false), (171, .iconst 1, false), (172, .goto 4, false)]) (by decide +kernel) (ps := [Op.if_icmp.holds .lt (en - (3 : Int32)) (4 : Int32) = false]) (pc' := 176) (L' := #[.val ((.ref b)), .val (.int (3 : Int32)), .val (.int en), .val (.int sur), .val (.int b0), .val (.int (4 : Int32)), .val (.int s138_0), .val (.int s156_0), .unset, .unset, .unset]) (S' := [.int (1 : Int32)]) rfl ⟨(XT.ii_lt_f c5), trivial⟩ ?_
                    exact J176_6 _ (by rw [if_neg c5])
                by_cases c3 : b0 = (244 : Int32)
                · refine wp_run ok hK (B := [(145, .if_icmp .ne 9, false), (148, .sipush 143, false), (151, .goto 5, false)]) (by decide +kernel) (ps := [Op.if_icmp.holds .ne b0 (244 : Int32) = false]) (pc' := 156) (L' := #[.val ((.ref b)), .val (.int (3 : Int32)), .val (.int en), .val (.int sur), .val (.int b0), .val (.int (4 : Int32)), .val (.int s138_0), .val (.int (191 : Int32)), .unset, .unset, .unset]) (S' := [.int (143 : Int32)]) rfl ⟨(XT.ii_ne_f c3), trivial⟩ ?_
                  exact J156_4 _ (by rw [if_pos c3])
                · refine wp_run ok hK (B := [(145, .if_icmp .ne 9, true), (154, .iload 7, false)]) (by decide +kernel) (ps := [Op.if_icmp.holds .ne b0 (244 : Int32) = true]) (pc' := 156) (L' := #[.val ((.ref b)), .val (.int (3 : Int32)), .val (.int en), .val (.int sur), .val (.int b0), .val (.int (4 : Int32)), .val (.int s138_0), .val (.int (191 : Int32)), .unset, .unset, .unset]) (S' := [.int (191 : Int32)]) rfl ⟨(XT.ii_ne_t c3), trivial⟩ ?_
                  exact J156_4 _ (by rw [if_neg c3])
              by_cases c1 : b0 = (240 : Int32)
              · refine wp_run ok hK (B := [(127, .if_icmp .ne 9, false), (130, .sipush 144, false), (133, .goto 5, false)]) (by decide +kernel) (ps := [Op.if_icmp.holds .ne b0 (240 : Int32) = false]) (pc' := 138) (L' := #[.val ((.ref b)), .val (.int (3 : Int32)), .val (.int en), .val (.int sur), .val (.int b0), .val (.int (4 : Int32)), .val (.int (128 : Int32)), .val (.int (191 : Int32)), .unset, .unset, .unset]) (S' := [.int (144 : Int32)]) rfl ⟨(XT.ii_ne_f c1), trivial⟩ ?_
                exact J138_2 _ (by rw [if_pos c1])
              · refine wp_run ok hK (B := [(127, .if_icmp .ne 9, true), (136, .iload 6, false)]) (by decide +kernel) (ps := [Op.if_icmp.holds .ne b0 (240 : Int32) = true]) (pc' := 138) (L' := #[.val ((.ref b)), .val (.int (3 : Int32)), .val (.int en), .val (.int sur), .val (.int b0), .val (.int (4 : Int32)), .val (.int (128 : Int32)), .val (.int (191 : Int32)), .unset, .unset, .unset]) (S' := [.int (128 : Int32)]) rfl ⟨(XT.ii_ne_t c1), trivial⟩ ?_
                exact J138_2 _ (by rw [if_neg c1])
        · refine wp_run ok hK (B := [(54, .if_icmp .gt 49, false)]) (by decide +kernel) (ps := [Op.if_icmp.holds .gt b0 (239 : Int32) = false]) (pc' := 57) (L' := #[.val ((.ref b)), .val (.int (3 : Int32)), .val (.int en), .val (.int sur), .val (.int b0), .unset, .val (.int (128 : Int32)), .val (.int (191 : Int32)), .unset, .unset, .unset]) (S' := []) rfl ⟨(XT.ii_gt_f hc54), trivial⟩ ?_
          refine wp_run ok hK (B := [(57, .iconst 3, false), (58, .istore 5, false), (60, .iload 4, false), (62, .sipush 224, false)]) (by decide +kernel) (ps := []) (pc' := 65) (L' := #[.val ((.ref b)), .val (.int (3 : Int32)), .val (.int en), .val (.int sur), .val (.int b0), .val (.int (3 : Int32)), .val (.int (128 : Int32)), .val (.int (191 : Int32)), .unset, .unset, .unset]) (S' := [.int (224 : Int32), .int b0]) rfl trivial ?_
          have J76_20 : ∀ (s76_0 : Int32) (h_s76_0 : s76_0 = (if b0 = (224 : Int32) then (160 : Int32) else (128 : Int32))), WP X n0 (Q_sq3 Z b en sur x0 x1 x2 x3 x4 x5 x6 x7 h0) h0 0 0 76 #[.val ((.ref b)), .val (.int (3 : Int32)), .val (.int en), .val (.int sur), .val (.int b0), .val (.int (3 : Int32)), .val (.int (128 : Int32)), .val (.int (191 : Int32)), .unset, .unset, .unset] [.int s76_0] := by
            intro s76_0 h_s76_0
            refine wp_run ok hK (B := [(76, .istore 6, false), (78, .iload 4, false), (80, .sipush 237, false)]) (by decide +kernel) (ps := []) (pc' := 83) (L' := #[.val ((.ref b)), .val (.int (3 : Int32)), .val (.int en), .val (.int sur), .val (.int b0), .val (.int (3 : Int32)), .val (.int s76_0), .val (.int (191 : Int32)), .unset, .unset, .unset]) (S' := [.int (237 : Int32), .int b0]) rfl trivial ?_
            have J98_23 : ∀ (s98_0 : Int32) (h_s98_0 : s98_0 = (if b0 = (237 : Int32) then (if sur = (0 : Int32) then (159 : Int32) else (191 : Int32)) else (191 : Int32))), WP X n0 (Q_sq3 Z b en sur x0 x1 x2 x3 x4 x5 x6 x7 h0) h0 0 0 98 #[.val ((.ref b)), .val (.int (3 : Int32)), .val (.int en), .val (.int sur), .val (.int b0), .val (.int (3 : Int32)), .val (.int s76_0), .val (.int (191 : Int32)), .unset, .unset, .unset] [.int s98_0] := by
              intro s98_0 h_s98_0
              refine wp_run ok hK (B := [(98, .istore 7, false), (100, .goto 63, false), (163, .iload_n 2, false), (164, .iload_n 1, false), (165, .isub, false), (166, .iload 5, false)]) (by decide +kernel) (ps := []) (pc' := 168) (L' := #[.val ((.ref b)), .val (.int (3 : Int32)), .val (.int en), .val (.int sur), .val (.int b0), .val (.int (3 : Int32)), .val (.int s76_0), .val (.int s98_0), .unset, .unset, .unset]) (S' := [.int (3 : Int32), .int (en - (3 : Int32))]) rfl trivial ?_
              have J176_25 : ∀ (s176_0 : Int32) (h_s176_0 : s176_0 = (if (en - (3 : Int32)) < (3 : Int32) then (0 : Int32) else (1 : Int32))), WP X n0 (Q_sq3 Z b en sur x0 x1 x2 x3 x4 x5 x6 x7 h0) h0 0 0 176 #[.val ((.ref b)), .val (.int (3 : Int32)), .val (.int en), .val (.int sur), .val (.int b0), .val (.int (3 : Int32)), .val (.int s76_0), .val (.int s98_0), .unset, .unset, .unset] [.int s176_0] := by
                intro s176_0 h_s176_0
                refine wp_run ok hK (B := [(176, .istore 8, false), (178, .iconst 1, false), (179, .istore 9, false)]) (by decide +kernel) (ps := []) (pc' := 181) (L' := #[.val ((.ref b)), .val (.int (3 : Int32)), .val (.int en), .val (.int sur), .val (.int b0), .val (.int (3 : Int32)), .val (.int s76_0), .val (.int s98_0), .val (.int s176_0), .val (.int (1 : Int32)), .unset]) (S' := []) rfl trivial ?_
                refine wp_run ok hK (B := [(181, .iload 8, false)]) (by decide +kernel) (ps := []) (pc' := 183) (L' := #[.val ((.ref b)), .val (.int (3 : Int32)), .val (.int en), .val (.int sur), .val (.int b0), .val (.int (3 : Int32)), .val (.int s76_0), .val (.int s98_0), .val (.int s176_0), .val (.int (1 : Int32)), .unset]) (S' := [.int s176_0]) rfl trivial ?_
                by_cases hc183 : s176_0 = (0 : Int32)
                · refine wp_run ok hK (B := [(183, .ifCond .eq 79, true)]) (by decide +kernel) (ps := [Op.ifCond.holds .eq s176_0 = true]) (pc' := 262) (L' := #[.val ((.ref b)), .val (.int (3 : Int32)), .val (.int en), .val (.int sur), .val (.int b0), .val (.int (3 : Int32)), .val (.int s76_0), .val (.int s98_0), .val (.int s176_0), .val (.int (1 : Int32)), .unset]) (S' := []) rfl ⟨(XT.i0_eq_t hc183), trivial⟩ ?_
                  refine wp_run ok hK (B := [(262, .iload 8, false), (264, .ifCond .eq 10, true), (274, .iconst (-1), false)]) (by decide +kernel) (ps := [Op.ifCond.holds .eq s176_0 = true]) (pc' := 275) (L' := #[.val ((.ref b)), .val (.int (3 : Int32)), .val (.int en), .val (.int sur), .val (.int b0), .val (.int (3 : Int32)), .val (.int s76_0), .val (.int s98_0), .val (.int s176_0), .val (.int (1 : Int32)), .unset]) (S' := [.int (-1 : Int32)]) rfl ⟨(XT.i0_eq_t hc183), trivial⟩ ?_
                  refine wp_retI ok (by decide +kernel) (by decide) (by decide) ?_
                  exact ⟨congrArg (fun z => some (Value.int z)) (own_sq3_13 en sur x0 x1 x2 x3 x4 x5 x6 x7 b0 h_b0 hc24 hc32 hc46 hc54 s76_0 h_s76_0 s98_0 h_s98_0 s176_0 h_s176_0 hc183), rfl⟩
                · refine wp_run ok hK (B := [(183, .ifCond .eq 79, false)]) (by decide +kernel) (ps := [Op.ifCond.holds .eq s176_0 = false]) (pc' := 186) (L' := #[.val ((.ref b)), .val (.int (3 : Int32)), .val (.int en), .val (.int sur), .val (.int b0), .val (.int (3 : Int32)), .val (.int s76_0), .val (.int s98_0), .val (.int s176_0), .val (.int (1 : Int32)), .unset]) (S' := []) rfl ⟨(XT.i0_eq_f hc183), trivial⟩ ?_
                  refine wp_run ok hK (B := [(186, .iload 9, false), (188, .iload 5, false), (190, .if_icmp .ge 72, false), (193, .aload_n 0, false), (194, .iload_n 1, false), (195, .iload 9, false), (197, .iadd, false)]) (by decide +kernel) (ps := [Op.if_icmp.holds .ge (1 : Int32) (3 : Int32) = false]) (pc' := 198) (L' := #[.val ((.ref b)), .val (.int (3 : Int32)), .val (.int en), .val (.int sur), .val (.int b0), .val (.int (3 : Int32)), .val (.int s76_0), .val (.int s98_0), .val (.int s176_0), .val (.int (1 : Int32)), .unset]) (S' := [.int (4 : Int32), (.ref b)]) rfl ⟨(XT.ii_ge_f (by decide)), trivial⟩ ?_
                  refine wp_aB ok A_b (i := 4) (v := .int x4) (by rfl) (by decide) rfl (by decide +kernel) ?_
                  refine wp_run ok hK (B := [(199, .sipush 255, false), (202, .iand, false), (203, .istore 10, false)]) (by decide +kernel) (ps := []) (pc' := 205) (L' := #[.val ((.ref b)), .val (.int (3 : Int32)), .val (.int en), .val (.int sur), .val (.int b0), .val (.int (3 : Int32)), .val (.int s76_0), .val (.int s98_0), .val (.int s176_0), .val (.int (1 : Int32)), .val (.int (x4 &&& (255 : Int32)))]) (S' := []) rfl trivial ?_
                  obtain ⟨cb, h_cb⟩ : ∃ z : Int32, z = (x4 &&& (255 : Int32)) := ⟨_, rfl⟩
                  rw [← h_cb]
                  refine wp_run ok hK (B := [(205, .iload 9, false), (207, .iconst 1, false), (208, .if_icmp .ne 25, false), (211, .iload 10, false), (213, .iload 6, false)]) (by decide +kernel) (ps := [Op.if_icmp.holds .ne (1 : Int32) (1 : Int32) = false]) (pc' := 215) (L' := #[.val ((.ref b)), .val (.int (3 : Int32)), .val (.int en), .val (.int sur), .val (.int b0), .val (.int (3 : Int32)), .val (.int s76_0), .val (.int s98_0), .val (.int s176_0), .val (.int (1 : Int32)), .val (.int cb)]) (S' := [.int s76_0, .int cb]) rfl ⟨(XT.ii_ne_f (by decide)), trivial⟩ ?_
                  have J254_28 : ∀ (s254_0 : Int32) (h_s254_0 : s254_0 = (if cb < s76_0 then (0 : Int32) else (if s98_0 < cb then (0 : Int32) else (1 : Int32)))), WP X n0 (Q_sq3 Z b en sur x0 x1 x2 x3 x4 x5 x6 x7 h0) h0 0 0 254 #[.val ((.ref b)), .val (.int (3 : Int32)), .val (.int en), .val (.int sur), .val (.int b0), .val (.int (3 : Int32)), .val (.int s76_0), .val (.int s98_0), .val (.int s176_0), .val (.int (1 : Int32)), .val (.int cb)] [.int s254_0] := by
                    intro s254_0 h_s254_0
                    refine wp_run ok hK (B := [(254, .istore 8, false), (256, .iinc 9 1, false)]) (by decide +kernel) (ps := []) (pc' := 259) (L' := #[.val ((.ref b)), .val (.int (3 : Int32)), .val (.int en), .val (.int sur), .val (.int b0), .val (.int (3 : Int32)), .val (.int s76_0), .val (.int s98_0), .val (.int s254_0), .val (.int (2 : Int32)), .val (.int cb)]) (S' := []) rfl trivial ?_
                    refine wp_run ok hK (B := [(259, .goto (-78), false), (181, .iload 8, false)]) (by decide +kernel) (ps := []) (pc' := 183) (L' := #[.val ((.ref b)), .val (.int (3 : Int32)), .val (.int en), .val (.int sur), .val (.int b0), .val (.int (3 : Int32)), .val (.int s76_0), .val (.int s98_0), .val (.int s254_0), .val (.int (2 : Int32)), .val (.int cb)]) (S' := [.int s254_0]) rfl trivial ?_
                    by_cases hc183_29 : s254_0 = (0 : Int32)
                    · refine wp_run ok hK (B := [(183, .ifCond .eq 79, true)]) (by decide +kernel) (ps := [Op.ifCond.holds .eq s254_0 = true]) (pc' := 262) (L' := #[.val ((.ref b)), .val (.int (3 : Int32)), .val (.int en), .val (.int sur), .val (.int b0), .val (.int (3 : Int32)), .val (.int s76_0), .val (.int s98_0), .val (.int s254_0), .val (.int (2 : Int32)), .val (.int cb)]) (S' := []) rfl ⟨(XT.i0_eq_t hc183_29), trivial⟩ ?_
                      refine wp_run ok hK (B := [(262, .iload 8, false), (264, .ifCond .eq 10, true), (274, .iconst (-1), false)]) (by decide +kernel) (ps := [Op.ifCond.holds .eq s254_0 = true]) (pc' := 275) (L' := #[.val ((.ref b)), .val (.int (3 : Int32)), .val (.int en), .val (.int sur), .val (.int b0), .val (.int (3 : Int32)), .val (.int s76_0), .val (.int s98_0), .val (.int s254_0), .val (.int (2 : Int32)), .val (.int cb)]) (S' := [.int (-1 : Int32)]) rfl ⟨(XT.i0_eq_t hc183_29), trivial⟩ ?_
                      refine wp_retI ok (by decide +kernel) (by decide) (by decide) ?_
                      exact ⟨congrArg (fun z => some (Value.int z)) (own_sq3_14 en sur x0 x1 x2 x3 x4 x5 x6 x7 b0 h_b0 hc24 hc32 hc46 hc54 s76_0 h_s76_0 s98_0 h_s98_0 s176_0 h_s176_0 hc183 cb h_cb s254_0 h_s254_0 hc183_29), rfl⟩
                    · refine wp_run ok hK (B := [(183, .ifCond .eq 79, false)]) (by decide +kernel) (ps := [Op.ifCond.holds .eq s254_0 = false]) (pc' := 186) (L' := #[.val ((.ref b)), .val (.int (3 : Int32)), .val (.int en), .val (.int sur), .val (.int b0), .val (.int (3 : Int32)), .val (.int s76_0), .val (.int s98_0), .val (.int s254_0), .val (.int (2 : Int32)), .val (.int cb)]) (S' := []) rfl ⟨(XT.i0_eq_f hc183_29), trivial⟩ ?_
                      refine wp_run ok hK (B := [(186, .iload 9, false), (188, .iload 5, false), (190, .if_icmp .ge 72, false), (193, .aload_n 0, false), (194, .iload_n 1, false), (195, .iload 9, false), (197, .iadd, false)]) (by decide +kernel) (ps := [Op.if_icmp.holds .ge (2 : Int32) (3 : Int32) = false]) (pc' := 198) (L' := #[.val ((.ref b)), .val (.int (3 : Int32)), .val (.int en), .val (.int sur), .val (.int b0), .val (.int (3 : Int32)), .val (.int s76_0), .val (.int s98_0), .val (.int s254_0), .val (.int (2 : Int32)), .val (.int cb)]) (S' := [.int (5 : Int32), (.ref b)]) rfl ⟨(XT.ii_ge_f (by decide)), trivial⟩ ?_
                      refine wp_aB ok A_b (i := 5) (v := .int x5) (by rfl) (by decide) rfl (by decide +kernel) ?_
                      refine wp_run ok hK (B := [(199, .sipush 255, false), (202, .iand, false), (203, .istore 10, false)]) (by decide +kernel) (ps := []) (pc' := 205) (L' := #[.val ((.ref b)), .val (.int (3 : Int32)), .val (.int en), .val (.int sur), .val (.int b0), .val (.int (3 : Int32)), .val (.int s76_0), .val (.int s98_0), .val (.int s254_0), .val (.int (2 : Int32)), .val (.int (x5 &&& (255 : Int32)))]) (S' := []) rfl trivial ?_
                      obtain ⟨cbb, h_cbb⟩ : ∃ z : Int32, z = (x5 &&& (255 : Int32)) := ⟨_, rfl⟩
                      rw [← h_cbb]
                      refine wp_run ok hK (B := [(205, .iload 9, false), (207, .iconst 1, false), (208, .if_icmp .ne 25, true), (233, .iload 10, false), (235, .sipush 128, false)]) (by decide +kernel) (ps := [Op.if_icmp.holds .ne (2 : Int32) (1 : Int32) = true]) (pc' := 238) (L' := #[.val ((.ref b)), .val (.int (3 : Int32)), .val (.int en), .val (.int sur), .val (.int b0), .val (.int (3 : Int32)), .val (.int s76_0), .val (.int s98_0), .val (.int s254_0), .val (.int (2 : Int32)), .val (.int cbb)]) (S' := [.int (128 : Int32), .int cbb]) rfl ⟨(XT.ii_ne_t (by decide)), trivial⟩ ?_
                      have J254_32 : ∀ (s254_0b : Int32) (h_s254_0b : s254_0b = (if cbb < (128 : Int32) then (0 : Int32) else (if (191 : Int32) < cbb then (0 : Int32) else (1 : Int32)))), WP X n0 (Q_sq3 Z b en sur x0 x1 x2 x3 x4 x5 x6 x7 h0) h0 0 0 254 #[.val ((.ref b)), .val (.int (3 : Int32)), .val (.int en), .val (.int sur), .val (.int b0), .val (.int (3 : Int32)), .val (.int s76_0), .val (.int s98_0), .val (.int s254_0), .val (.int (2 : Int32)), .val (.int cbb)] [.int s254_0b] := by
                        intro s254_0b h_s254_0b
                        refine wp_run ok hK (B := [(254, .istore 8, false), (256, .iinc 9 1, false)]) (by decide +kernel) (ps := []) (pc' := 259) (L' := #[.val ((.ref b)), .val (.int (3 : Int32)), .val (.int en), .val (.int sur), .val (.int b0), .val (.int (3 : Int32)), .val (.int s76_0), .val (.int s98_0), .val (.int s254_0b), .val (.int (3 : Int32)), .val (.int cbb)]) (S' := []) rfl trivial ?_
                        refine wp_run ok hK (B := [(259, .goto (-78), false), (181, .iload 8, false)]) (by decide +kernel) (ps := []) (pc' := 183) (L' := #[.val ((.ref b)), .val (.int (3 : Int32)), .val (.int en), .val (.int sur), .val (.int b0), .val (.int (3 : Int32)), .val (.int s76_0), .val (.int s98_0), .val (.int s254_0b), .val (.int (3 : Int32)), .val (.int cbb)]) (S' := [.int s254_0b]) rfl trivial ?_
                        by_cases hc183_33 : s254_0b = (0 : Int32)
                        · refine wp_run ok hK (B := [(183, .ifCond .eq 79, true)]) (by decide +kernel) (ps := [Op.ifCond.holds .eq s254_0b = true]) (pc' := 262) (L' := #[.val ((.ref b)), .val (.int (3 : Int32)), .val (.int en), .val (.int sur), .val (.int b0), .val (.int (3 : Int32)), .val (.int s76_0), .val (.int s98_0), .val (.int s254_0b), .val (.int (3 : Int32)), .val (.int cbb)]) (S' := []) rfl ⟨(XT.i0_eq_t hc183_33), trivial⟩ ?_
                          refine wp_run ok hK (B := [(262, .iload 8, false), (264, .ifCond .eq 10, true), (274, .iconst (-1), false)]) (by decide +kernel) (ps := [Op.ifCond.holds .eq s254_0b = true]) (pc' := 275) (L' := #[.val ((.ref b)), .val (.int (3 : Int32)), .val (.int en), .val (.int sur), .val (.int b0), .val (.int (3 : Int32)), .val (.int s76_0), .val (.int s98_0), .val (.int s254_0b), .val (.int (3 : Int32)), .val (.int cbb)]) (S' := [.int (-1 : Int32)]) rfl ⟨(XT.i0_eq_t hc183_33), trivial⟩ ?_
                          refine wp_retI ok (by decide +kernel) (by decide) (by decide) ?_
                          exact ⟨congrArg (fun z => some (Value.int z)) (own_sq3_15 en sur x0 x1 x2 x3 x4 x5 x6 x7 b0 h_b0 hc24 hc32 hc46 hc54 s76_0 h_s76_0 s98_0 h_s98_0 s176_0 h_s176_0 hc183 cb h_cb s254_0 h_s254_0 hc183_29 cbb h_cbb s254_0b h_s254_0b hc183_33), rfl⟩
                        · refine wp_run ok hK (B := [(183, .ifCond .eq 79, false)]) (by decide +kernel) (ps := [Op.ifCond.holds .eq s254_0b = false]) (pc' := 186) (L' := #[.val ((.ref b)), .val (.int (3 : Int32)), .val (.int en), .val (.int sur), .val (.int b0), .val (.int (3 : Int32)), .val (.int s76_0), .val (.int s98_0), .val (.int s254_0b), .val (.int (3 : Int32)), .val (.int cbb)]) (S' := []) rfl ⟨(XT.i0_eq_f hc183_33), trivial⟩ ?_
                          refine wp_run ok hK (B := [(186, .iload 9, false), (188, .iload 5, false), (190, .if_icmp .ge 72, true), (262, .iload 8, false), (264, .ifCond .eq 10, false), (267, .iload_n 1, false), (268, .iload 5, false), (270, .iadd, false), (271, .goto 4, false)]) (by decide +kernel) (ps := [Op.if_icmp.holds .ge (3 : Int32) (3 : Int32) = true, Op.ifCond.holds .eq s254_0b = false]) (pc' := 275) (L' := #[.val ((.ref b)), .val (.int (3 : Int32)), .val (.int en), .val (.int sur), .val (.int b0), .val (.int (3 : Int32)), .val (.int s76_0), .val (.int s98_0), .val (.int s254_0b), .val (.int (3 : Int32)), .val (.int cbb)]) (S' := [.int (6 : Int32)]) rfl ⟨(XT.ii_ge_t (by decide)), (XT.i0_eq_f hc183_33), trivial⟩ ?_
                          refine wp_retI ok (by decide +kernel) (by decide) (by decide) ?_
                          exact ⟨congrArg (fun z => some (Value.int z)) (own_sq3_16 en sur x0 x1 x2 x3 x4 x5 x6 x7 b0 h_b0 hc24 hc32 hc46 hc54 s76_0 h_s76_0 s98_0 h_s98_0 s176_0 h_s176_0 hc183 cb h_cb s254_0 h_s254_0 hc183_29 cbb h_cbb s254_0b h_s254_0b hc183_33), rfl⟩
                      by_cases c30 : cbb < (128 : Int32)
                      · refine wp_run ok hK (B := [(238, .if_icmp .lt 15, true), (253, .iconst 0, false)]) (by decide +kernel) (ps := [Op.if_icmp.holds .lt cbb (128 : Int32) = true]) (pc' := 254) (L' := #[.val ((.ref b)), .val (.int (3 : Int32)), .val (.int en), .val (.int sur), .val (.int b0), .val (.int (3 : Int32)), .val (.int s76_0), .val (.int s98_0), .val (.int s254_0), .val (.int (2 : Int32)), .val (.int cbb)]) (S' := [.int (0 : Int32)]) rfl ⟨(XT.ii_lt_t c30), trivial⟩ ?_
                        exact J254_32 _ (by rw [if_pos c30])
                      · by_cases c31 : (191 : Int32) < cbb
                        · refine wp_run ok hK (B := [(238, .if_icmp .lt 15, false), (241, .iload 10, false), (243, .sipush 191, false), (246, .if_icmp .gt 7, true), (253, .iconst 0, false)]) (by decide +kernel) (ps := [Op.if_icmp.holds .lt cbb (128 : Int32) = false, Op.if_icmp.holds .gt cbb (191 : Int32) = true]) (pc' := 254) (L' := #[.val ((.ref b)), .val (.int (3 : Int32)), .val (.int en), .val (.int sur), .val (.int b0), .val (.int (3 : Int32)), .val (.int s76_0), .val (.int s98_0), .val (.int s254_0), .val (.int (2 : Int32)), .val (.int cbb)]) (S' := [.int (0 : Int32)]) rfl ⟨(XT.ii_lt_f c30), (XT.ii_gt_t c31), trivial⟩ ?_
                          exact J254_32 _ (by rw [if_neg c30, if_pos c31])
                        · refine wp_run ok hK (B := [(238, .if_icmp .lt 15, false), (241, .iload 10, false), (243, .sipush 191, false), (246, .if_icmp .gt 7, false), (249, .iconst 1, false), (250, .goto 4, false)]) (by decide +kernel) (ps := [Op.if_icmp.holds .lt cbb (128 : Int32) = false, Op.if_icmp.holds .gt cbb (191 : Int32) = false]) (pc' := 254) (L' := #[.val ((.ref b)), .val (.int (3 : Int32)), .val (.int en), .val (.int sur), .val (.int b0), .val (.int (3 : Int32)), .val (.int s76_0), .val (.int s98_0), .val (.int s254_0), .val (.int (2 : Int32)), .val (.int cbb)]) (S' := [.int (1 : Int32)]) rfl ⟨(XT.ii_lt_f c30), (XT.ii_gt_f c31), trivial⟩ ?_
                          exact J254_32 _ (by rw [if_neg c30, if_neg c31])
                  by_cases c26 : cb < s76_0
                  · refine wp_run ok hK (B := [(215, .if_icmp .lt 14, true), (229, .iconst 0, false), (230, .goto 24, false)]) (by decide +kernel) (ps := [Op.if_icmp.holds .lt cb s76_0 = true]) (pc' := 254) (L' := #[.val ((.ref b)), .val (.int (3 : Int32)), .val (.int en), .val (.int sur), .val (.int b0), .val (.int (3 : Int32)), .val (.int s76_0), .val (.int s98_0), .val (.int s176_0), .val (.int (1 : Int32)), .val (.int cb)]) (S' := [.int (0 : Int32)]) rfl ⟨(XT.ii_lt_t c26), trivial⟩ ?_
                    exact J254_28 _ (by rw [if_pos c26])
                  · by_cases c27 : s98_0 < cb
                    · refine wp_run ok hK (B := [(215, .if_icmp .lt 14, false), (218, .iload 10, false), (220, .iload 7, false), (222, .if_icmp .gt 7, true), (229, .iconst 0, false), (230, .goto 24, false)]) (by decide +kernel) (ps := [Op.if_icmp.holds .lt cb s76_0 = false, Op.if_icmp.holds .gt cb s98_0 = true]) (pc' := 254) (L' := #[.val ((.ref b)), .val (.int (3 : Int32)), .val (.int en), .val (.int sur), .val (.int b0), .val (.int (3 : Int32)), .val (.int s76_0), .val (.int s98_0), .val (.int s176_0), .val (.int (1 : Int32)), .val (.int cb)]) (S' := [.int (0 : Int32)]) rfl ⟨(XT.ii_lt_f c26), (XT.ii_gt_t c27), trivial⟩ ?_
                      exact J254_28 _ (by rw [if_neg c26, if_pos c27])
                    · refine wp_run ok hK (B := [(215, .if_icmp .lt 14, false), (218, .iload 10, false), (220, .iload 7, false), (222, .if_icmp .gt 7, false), (225, .iconst 1, false), (226, .goto 28, false)]) (by decide +kernel) (ps := [Op.if_icmp.holds .lt cb s76_0 = false, Op.if_icmp.holds .gt cb s98_0 = false]) (pc' := 254) (L' := #[.val ((.ref b)), .val (.int (3 : Int32)), .val (.int en), .val (.int sur), .val (.int b0), .val (.int (3 : Int32)), .val (.int s76_0), .val (.int s98_0), .val (.int s176_0), .val (.int (1 : Int32)), .val (.int cb)]) (S' := [.int (1 : Int32)]) rfl ⟨(XT.ii_lt_f c26), (XT.ii_gt_f c27), trivial⟩ ?_
                      exact J254_28 _ (by rw [if_neg c26, if_neg c27])
              by_cases c24 : (en - (3 : Int32)) < (3 : Int32)
              · refine wp_run ok hK (B := [(168, .if_icmp .lt 7, true), (175, .iconst 0, false)]) (by decide +kernel) (ps := [Op.if_icmp.holds .lt (en - (3 : Int32)) (3 : Int32) = true]) (pc' := 176) (L' := #[.val ((.ref b)), .val (.int (3 : Int32)), .val (.int en), .val (.int sur), .val (.int b0), .val (.int (3 : Int32)), .val (.int s76_0), .val (.int s98_0), .unset, .unset, .unset]) (S' := [.int (0 : Int32)]) rfl ⟨(XT.ii_lt_t c24), trivial⟩ ?_
                exact J176_25 _ (by rw [if_pos c24])
              · refine wp_run ok hK (B := [(168, .if_icmp .lt 7, false), (171, .iconst 1, false), (172, .goto 4, false)]) (by decide +kernel) (ps := [Op.if_icmp.holds .lt (en - (3 : Int32)) (3 : Int32) = false]) (pc' := 176) (L' := #[.val ((.ref b)), .val (.int (3 : Int32)), .val (.int en), .val (.int sur), .val (.int b0), .val (.int (3 : Int32)), .val (.int s76_0), .val (.int s98_0), .unset, .unset, .unset]) (S' := [.int (1 : Int32)]) rfl ⟨(XT.ii_lt_f c24), trivial⟩ ?_
                exact J176_25 _ (by rw [if_neg c24])
            by_cases c21 : b0 = (237 : Int32)
            · by_cases c22 : sur = (0 : Int32)
              · refine wp_run ok hK (B := [(83, .if_icmp .ne 13, false), (86, .iload_n 3, false), (87, .ifCond .ne 9, false), (90, .sipush 159, false), (93, .goto 5, false)]) (by decide +kernel) (ps := [Op.if_icmp.holds .ne b0 (237 : Int32) = false, Op.ifCond.holds .ne sur = false]) (pc' := 98) (L' := #[.val ((.ref b)), .val (.int (3 : Int32)), .val (.int en), .val (.int sur), .val (.int b0), .val (.int (3 : Int32)), .val (.int s76_0), .val (.int (191 : Int32)), .unset, .unset, .unset]) (S' := [.int (159 : Int32)]) rfl ⟨(XT.ii_ne_f c21), (XT.i0_ne_f c22), trivial⟩ ?_
                exact J98_23 _ (by rw [if_pos c21, if_pos c22])
              · refine wp_run ok hK (B := [(83, .if_icmp .ne 13, false), (86, .iload_n 3, false), (87, .ifCond .ne 9, true), (96, .iload 7, false)]) (by decide +kernel) (ps := [Op.if_icmp.holds .ne b0 (237 : Int32) = false, Op.ifCond.holds .ne sur = true]) (pc' := 98) (L' := #[.val ((.ref b)), .val (.int (3 : Int32)), .val (.int en), .val (.int sur), .val (.int b0), .val (.int (3 : Int32)), .val (.int s76_0), .val (.int (191 : Int32)), .unset, .unset, .unset]) (S' := [.int (191 : Int32)]) rfl ⟨(XT.ii_ne_f c21), (XT.i0_ne_t c22), trivial⟩ ?_
                exact J98_23 _ (by rw [if_pos c21, if_neg c22])
            · refine wp_run ok hK (B := [(83, .if_icmp .ne 13, true), (96, .iload 7, false)]) (by decide +kernel) (ps := [Op.if_icmp.holds .ne b0 (237 : Int32) = true]) (pc' := 98) (L' := #[.val ((.ref b)), .val (.int (3 : Int32)), .val (.int en), .val (.int sur), .val (.int b0), .val (.int (3 : Int32)), .val (.int s76_0), .val (.int (191 : Int32)), .unset, .unset, .unset]) (S' := [.int (191 : Int32)]) rfl ⟨(XT.ii_ne_t c21), trivial⟩ ?_
              exact J98_23 _ (by rw [if_neg c21])
          by_cases c19 : b0 = (224 : Int32)
          · refine wp_run ok hK (B := [(65, .if_icmp .ne 9, false), (68, .sipush 160, false), (71, .goto 5, false)]) (by decide +kernel) (ps := [Op.if_icmp.holds .ne b0 (224 : Int32) = false]) (pc' := 76) (L' := #[.val ((.ref b)), .val (.int (3 : Int32)), .val (.int en), .val (.int sur), .val (.int b0), .val (.int (3 : Int32)), .val (.int (128 : Int32)), .val (.int (191 : Int32)), .unset, .unset, .unset]) (S' := [.int (160 : Int32)]) rfl ⟨(XT.ii_ne_f c19), trivial⟩ ?_
            exact J76_20 _ (by rw [if_pos c19])
          · refine wp_run ok hK (B := [(65, .if_icmp .ne 9, true), (74, .iload 6, false)]) (by decide +kernel) (ps := [Op.if_icmp.holds .ne b0 (224 : Int32) = true]) (pc' := 76) (L' := #[.val ((.ref b)), .val (.int (3 : Int32)), .val (.int en), .val (.int sur), .val (.int b0), .val (.int (3 : Int32)), .val (.int (128 : Int32)), .val (.int (191 : Int32)), .unset, .unset, .unset]) (S' := [.int (128 : Int32)]) rfl ⟨(XT.ii_ne_t c19), trivial⟩ ?_
            exact J76_20 _ (by rw [if_neg c19])
    · refine wp_run ok hK (B := [(32, .if_icmp .gt 9, false)]) (by decide +kernel) (ps := [Op.if_icmp.holds .gt b0 (223 : Int32) = false]) (pc' := 35) (L' := #[.val ((.ref b)), .val (.int (3 : Int32)), .val (.int en), .val (.int sur), .val (.int b0), .unset, .val (.int (128 : Int32)), .val (.int (191 : Int32)), .unset, .unset, .unset]) (S' := []) rfl ⟨(XT.ii_gt_f hc32), trivial⟩ ?_
      refine wp_run ok hK (B := [(35, .iconst 2, false), (36, .istore 5, false), (38, .goto 125, false), (163, .iload_n 2, false), (164, .iload_n 1, false), (165, .isub, false), (166, .iload 5, false)]) (by decide +kernel) (ps := []) (pc' := 168) (L' := #[.val ((.ref b)), .val (.int (3 : Int32)), .val (.int en), .val (.int sur), .val (.int b0), .val (.int (2 : Int32)), .val (.int (128 : Int32)), .val (.int (191 : Int32)), .unset, .unset, .unset]) (S' := [.int (2 : Int32), .int (en - (3 : Int32))]) rfl trivial ?_
      have J176_35 : ∀ (s176_0 : Int32) (h_s176_0 : s176_0 = (if (en - (3 : Int32)) < (2 : Int32) then (0 : Int32) else (1 : Int32))), WP X n0 (Q_sq3 Z b en sur x0 x1 x2 x3 x4 x5 x6 x7 h0) h0 0 0 176 #[.val ((.ref b)), .val (.int (3 : Int32)), .val (.int en), .val (.int sur), .val (.int b0), .val (.int (2 : Int32)), .val (.int (128 : Int32)), .val (.int (191 : Int32)), .unset, .unset, .unset] [.int s176_0] := by
        intro s176_0 h_s176_0
        refine wp_run ok hK (B := [(176, .istore 8, false), (178, .iconst 1, false), (179, .istore 9, false)]) (by decide +kernel) (ps := []) (pc' := 181) (L' := #[.val ((.ref b)), .val (.int (3 : Int32)), .val (.int en), .val (.int sur), .val (.int b0), .val (.int (2 : Int32)), .val (.int (128 : Int32)), .val (.int (191 : Int32)), .val (.int s176_0), .val (.int (1 : Int32)), .unset]) (S' := []) rfl trivial ?_
        refine wp_run ok hK (B := [(181, .iload 8, false)]) (by decide +kernel) (ps := []) (pc' := 183) (L' := #[.val ((.ref b)), .val (.int (3 : Int32)), .val (.int en), .val (.int sur), .val (.int b0), .val (.int (2 : Int32)), .val (.int (128 : Int32)), .val (.int (191 : Int32)), .val (.int s176_0), .val (.int (1 : Int32)), .unset]) (S' := [.int s176_0]) rfl trivial ?_
        by_cases hc183 : s176_0 = (0 : Int32)
        · refine wp_run ok hK (B := [(183, .ifCond .eq 79, true)]) (by decide +kernel) (ps := [Op.ifCond.holds .eq s176_0 = true]) (pc' := 262) (L' := #[.val ((.ref b)), .val (.int (3 : Int32)), .val (.int en), .val (.int sur), .val (.int b0), .val (.int (2 : Int32)), .val (.int (128 : Int32)), .val (.int (191 : Int32)), .val (.int s176_0), .val (.int (1 : Int32)), .unset]) (S' := []) rfl ⟨(XT.i0_eq_t hc183), trivial⟩ ?_
          refine wp_run ok hK (B := [(262, .iload 8, false), (264, .ifCond .eq 10, true), (274, .iconst (-1), false)]) (by decide +kernel) (ps := [Op.ifCond.holds .eq s176_0 = true]) (pc' := 275) (L' := #[.val ((.ref b)), .val (.int (3 : Int32)), .val (.int en), .val (.int sur), .val (.int b0), .val (.int (2 : Int32)), .val (.int (128 : Int32)), .val (.int (191 : Int32)), .val (.int s176_0), .val (.int (1 : Int32)), .unset]) (S' := [.int (-1 : Int32)]) rfl ⟨(XT.i0_eq_t hc183), trivial⟩ ?_
          refine wp_retI ok (by decide +kernel) (by decide) (by decide) ?_
          exact ⟨congrArg (fun z => some (Value.int z)) (own_sq3_17 en sur x0 x1 x2 x3 x4 x5 x6 x7 b0 h_b0 hc24 hc32 s176_0 h_s176_0 hc183), rfl⟩
        · refine wp_run ok hK (B := [(183, .ifCond .eq 79, false)]) (by decide +kernel) (ps := [Op.ifCond.holds .eq s176_0 = false]) (pc' := 186) (L' := #[.val ((.ref b)), .val (.int (3 : Int32)), .val (.int en), .val (.int sur), .val (.int b0), .val (.int (2 : Int32)), .val (.int (128 : Int32)), .val (.int (191 : Int32)), .val (.int s176_0), .val (.int (1 : Int32)), .unset]) (S' := []) rfl ⟨(XT.i0_eq_f hc183), trivial⟩ ?_
          refine wp_run ok hK (B := [(186, .iload 9, false), (188, .iload 5, false), (190, .if_icmp .ge 72, false), (193, .aload_n 0, false), (194, .iload_n 1, false), (195, .iload 9, false), (197, .iadd, false)]) (by decide +kernel) (ps := [Op.if_icmp.holds .ge (1 : Int32) (2 : Int32) = false]) (pc' := 198) (L' := #[.val ((.ref b)), .val (.int (3 : Int32)), .val (.int en), .val (.int sur), .val (.int b0), .val (.int (2 : Int32)), .val (.int (128 : Int32)), .val (.int (191 : Int32)), .val (.int s176_0), .val (.int (1 : Int32)), .unset]) (S' := [.int (4 : Int32), (.ref b)]) rfl ⟨(XT.ii_ge_f (by decide)), trivial⟩ ?_
          refine wp_aB ok A_b (i := 4) (v := .int x4) (by rfl) (by decide) rfl (by decide +kernel) ?_
          refine wp_run ok hK (B := [(199, .sipush 255, false), (202, .iand, false), (203, .istore 10, false)]) (by decide +kernel) (ps := []) (pc' := 205) (L' := #[.val ((.ref b)), .val (.int (3 : Int32)), .val (.int en), .val (.int sur), .val (.int b0), .val (.int (2 : Int32)), .val (.int (128 : Int32)), .val (.int (191 : Int32)), .val (.int s176_0), .val (.int (1 : Int32)), .val (.int (x4 &&& (255 : Int32)))]) (S' := []) rfl trivial ?_
          obtain ⟨cb, h_cb⟩ : ∃ z : Int32, z = (x4 &&& (255 : Int32)) := ⟨_, rfl⟩
          rw [← h_cb]
          refine wp_run ok hK (B := [(205, .iload 9, false), (207, .iconst 1, false), (208, .if_icmp .ne 25, false), (211, .iload 10, false), (213, .iload 6, false)]) (by decide +kernel) (ps := [Op.if_icmp.holds .ne (1 : Int32) (1 : Int32) = false]) (pc' := 215) (L' := #[.val ((.ref b)), .val (.int (3 : Int32)), .val (.int en), .val (.int sur), .val (.int b0), .val (.int (2 : Int32)), .val (.int (128 : Int32)), .val (.int (191 : Int32)), .val (.int s176_0), .val (.int (1 : Int32)), .val (.int cb)]) (S' := [.int (128 : Int32), .int cb]) rfl ⟨(XT.ii_ne_f (by decide)), trivial⟩ ?_
          have J254_38 : ∀ (s254_0 : Int32) (h_s254_0 : s254_0 = (if cb < (128 : Int32) then (0 : Int32) else (if (191 : Int32) < cb then (0 : Int32) else (1 : Int32)))), WP X n0 (Q_sq3 Z b en sur x0 x1 x2 x3 x4 x5 x6 x7 h0) h0 0 0 254 #[.val ((.ref b)), .val (.int (3 : Int32)), .val (.int en), .val (.int sur), .val (.int b0), .val (.int (2 : Int32)), .val (.int (128 : Int32)), .val (.int (191 : Int32)), .val (.int s176_0), .val (.int (1 : Int32)), .val (.int cb)] [.int s254_0] := by
            intro s254_0 h_s254_0
            refine wp_run ok hK (B := [(254, .istore 8, false), (256, .iinc 9 1, false)]) (by decide +kernel) (ps := []) (pc' := 259) (L' := #[.val ((.ref b)), .val (.int (3 : Int32)), .val (.int en), .val (.int sur), .val (.int b0), .val (.int (2 : Int32)), .val (.int (128 : Int32)), .val (.int (191 : Int32)), .val (.int s254_0), .val (.int (2 : Int32)), .val (.int cb)]) (S' := []) rfl trivial ?_
            refine wp_run ok hK (B := [(259, .goto (-78), false), (181, .iload 8, false)]) (by decide +kernel) (ps := []) (pc' := 183) (L' := #[.val ((.ref b)), .val (.int (3 : Int32)), .val (.int en), .val (.int sur), .val (.int b0), .val (.int (2 : Int32)), .val (.int (128 : Int32)), .val (.int (191 : Int32)), .val (.int s254_0), .val (.int (2 : Int32)), .val (.int cb)]) (S' := [.int s254_0]) rfl trivial ?_
            by_cases hc183_39 : s254_0 = (0 : Int32)
            · refine wp_run ok hK (B := [(183, .ifCond .eq 79, true)]) (by decide +kernel) (ps := [Op.ifCond.holds .eq s254_0 = true]) (pc' := 262) (L' := #[.val ((.ref b)), .val (.int (3 : Int32)), .val (.int en), .val (.int sur), .val (.int b0), .val (.int (2 : Int32)), .val (.int (128 : Int32)), .val (.int (191 : Int32)), .val (.int s254_0), .val (.int (2 : Int32)), .val (.int cb)]) (S' := []) rfl ⟨(XT.i0_eq_t hc183_39), trivial⟩ ?_
              refine wp_run ok hK (B := [(262, .iload 8, false), (264, .ifCond .eq 10, true), (274, .iconst (-1), false)]) (by decide +kernel) (ps := [Op.ifCond.holds .eq s254_0 = true]) (pc' := 275) (L' := #[.val ((.ref b)), .val (.int (3 : Int32)), .val (.int en), .val (.int sur), .val (.int b0), .val (.int (2 : Int32)), .val (.int (128 : Int32)), .val (.int (191 : Int32)), .val (.int s254_0), .val (.int (2 : Int32)), .val (.int cb)]) (S' := [.int (-1 : Int32)]) rfl ⟨(XT.i0_eq_t hc183_39), trivial⟩ ?_
              refine wp_retI ok (by decide +kernel) (by decide) (by decide) ?_
              exact ⟨congrArg (fun z => some (Value.int z)) (own_sq3_18 en sur x0 x1 x2 x3 x4 x5 x6 x7 b0 h_b0 hc24 hc32 s176_0 h_s176_0 hc183 cb h_cb s254_0 h_s254_0 hc183_39), rfl⟩
            · refine wp_run ok hK (B := [(183, .ifCond .eq 79, false)]) (by decide +kernel) (ps := [Op.ifCond.holds .eq s254_0 = false]) (pc' := 186) (L' := #[.val ((.ref b)), .val (.int (3 : Int32)), .val (.int en), .val (.int sur), .val (.int b0), .val (.int (2 : Int32)), .val (.int (128 : Int32)), .val (.int (191 : Int32)), .val (.int s254_0), .val (.int (2 : Int32)), .val (.int cb)]) (S' := []) rfl ⟨(XT.i0_eq_f hc183_39), trivial⟩ ?_
              refine wp_run ok hK (B := [(186, .iload 9, false), (188, .iload 5, false), (190, .if_icmp .ge 72, true), (262, .iload 8, false), (264, .ifCond .eq 10, false), (267, .iload_n 1, false), (268, .iload 5, false), (270, .iadd, false), (271, .goto 4, false)]) (by decide +kernel) (ps := [Op.if_icmp.holds .ge (2 : Int32) (2 : Int32) = true, Op.ifCond.holds .eq s254_0 = false]) (pc' := 275) (L' := #[.val ((.ref b)), .val (.int (3 : Int32)), .val (.int en), .val (.int sur), .val (.int b0), .val (.int (2 : Int32)), .val (.int (128 : Int32)), .val (.int (191 : Int32)), .val (.int s254_0), .val (.int (2 : Int32)), .val (.int cb)]) (S' := [.int (5 : Int32)]) rfl ⟨(XT.ii_ge_t (by decide)), (XT.i0_eq_f hc183_39), trivial⟩ ?_
              refine wp_retI ok (by decide +kernel) (by decide) (by decide) ?_
              exact ⟨congrArg (fun z => some (Value.int z)) (own_sq3_19 en sur x0 x1 x2 x3 x4 x5 x6 x7 b0 h_b0 hc24 hc32 s176_0 h_s176_0 hc183 cb h_cb s254_0 h_s254_0 hc183_39), rfl⟩
          by_cases c36 : cb < (128 : Int32)
          · refine wp_run ok hK (B := [(215, .if_icmp .lt 14, true), (229, .iconst 0, false), (230, .goto 24, false)]) (by decide +kernel) (ps := [Op.if_icmp.holds .lt cb (128 : Int32) = true]) (pc' := 254) (L' := #[.val ((.ref b)), .val (.int (3 : Int32)), .val (.int en), .val (.int sur), .val (.int b0), .val (.int (2 : Int32)), .val (.int (128 : Int32)), .val (.int (191 : Int32)), .val (.int s176_0), .val (.int (1 : Int32)), .val (.int cb)]) (S' := [.int (0 : Int32)]) rfl ⟨(XT.ii_lt_t c36), trivial⟩ ?_
            exact J254_38 _ (by rw [if_pos c36])
          · by_cases c37 : (191 : Int32) < cb
            · refine wp_run ok hK (B := [(215, .if_icmp .lt 14, false), (218, .iload 10, false), (220, .iload 7, false), (222, .if_icmp .gt 7, true), (229, .iconst 0, false), (230, .goto 24, false)]) (by decide +kernel) (ps := [Op.if_icmp.holds .lt cb (128 : Int32) = false, Op.if_icmp.holds .gt cb (191 : Int32) = true]) (pc' := 254) (L' := #[.val ((.ref b)), .val (.int (3 : Int32)), .val (.int en), .val (.int sur), .val (.int b0), .val (.int (2 : Int32)), .val (.int (128 : Int32)), .val (.int (191 : Int32)), .val (.int s176_0), .val (.int (1 : Int32)), .val (.int cb)]) (S' := [.int (0 : Int32)]) rfl ⟨(XT.ii_lt_f c36), (XT.ii_gt_t c37), trivial⟩ ?_
              exact J254_38 _ (by rw [if_neg c36, if_pos c37])
            · refine wp_run ok hK (B := [(215, .if_icmp .lt 14, false), (218, .iload 10, false), (220, .iload 7, false), (222, .if_icmp .gt 7, false), (225, .iconst 1, false), (226, .goto 28, false)]) (by decide +kernel) (ps := [Op.if_icmp.holds .lt cb (128 : Int32) = false, Op.if_icmp.holds .gt cb (191 : Int32) = false]) (pc' := 254) (L' := #[.val ((.ref b)), .val (.int (3 : Int32)), .val (.int en), .val (.int sur), .val (.int b0), .val (.int (2 : Int32)), .val (.int (128 : Int32)), .val (.int (191 : Int32)), .val (.int s176_0), .val (.int (1 : Int32)), .val (.int cb)]) (S' := [.int (1 : Int32)]) rfl ⟨(XT.ii_lt_f c36), (XT.ii_gt_f c37), trivial⟩ ?_
              exact J254_38 _ (by rw [if_neg c36, if_neg c37])
      by_cases c34 : (en - (3 : Int32)) < (2 : Int32)
      · refine wp_run ok hK (B := [(168, .if_icmp .lt 7, true), (175, .iconst 0, false)]) (by decide +kernel) (ps := [Op.if_icmp.holds .lt (en - (3 : Int32)) (2 : Int32) = true]) (pc' := 176) (L' := #[.val ((.ref b)), .val (.int (3 : Int32)), .val (.int en), .val (.int sur), .val (.int b0), .val (.int (2 : Int32)), .val (.int (128 : Int32)), .val (.int (191 : Int32)), .unset, .unset, .unset]) (S' := [.int (0 : Int32)]) rfl ⟨(XT.ii_lt_t c34), trivial⟩ ?_
        exact J176_35 _ (by rw [if_pos c34])
      · refine wp_run ok hK (B := [(168, .if_icmp .lt 7, false), (171, .iconst 1, false), (172, .goto 4, false)]) (by decide +kernel) (ps := [Op.if_icmp.holds .lt (en - (3 : Int32)) (2 : Int32) = false]) (pc' := 176) (L' := #[.val ((.ref b)), .val (.int (3 : Int32)), .val (.int en), .val (.int sur), .val (.int b0), .val (.int (2 : Int32)), .val (.int (128 : Int32)), .val (.int (191 : Int32)), .unset, .unset, .unset]) (S' := [.int (1 : Int32)]) rfl ⟨(XT.ii_lt_f c34), trivial⟩ ?_
        exact J176_35 _ (by rw [if_neg c34])
def k_exp : List (Nat × Value) := [(20, .int (1114111 : Int32)), (21, .int (55296 : Int32)), (22, .int (57343 : Int32)), (19, .int (65536 : Int32))]
def Q_exp (Z : State) (w : Int32) (a : Int32) (en : Int32) (sur : Int32) (h0 : Heap) : Post := fun v h => v = some (.int (seqZ a (w &&& (255 : Int32)) ((ush w (8 : Int32)) &&& (255 : Int32)) ((ush w (16 : Int32)) &&& (255 : Int32)) ((ush w (24 : Int32)) &&& (255 : Int32)) (en - a) sur)) ∧ h0 = h
theorem own_exp_1 (w : Int32) (a : Int32) (en : Int32) (sur : Int32) (b0 : Int32) (h_b0 : b0 = (w &&& (255 : Int32))) (b1 : Int32) (h_b1 : b1 = ((ush w (8 : Int32)) &&& (255 : Int32))) (b2 : Int32) (h_b2 : b2 = ((ush w (16 : Int32)) &&& (255 : Int32))) (b3 : Int32) (h_b3 : b3 = ((ush w (24 : Int32)) &&& (255 : Int32))) (v172_8 : Int32) (h_v172_8 : v172_8 = (if (b0 &&& (224 : Int32)) = (192 : Int32) then (2 : Int32) else (if (b0 &&& (240 : Int32)) = (224 : Int32) then (3 : Int32) else (if (b0 &&& (248 : Int32)) = (240 : Int32) then (4 : Int32) else (0 : Int32))))) (v172_9 : Int32) (h_v172_9 : v172_9 = (if (b0 &&& (224 : Int32)) = (192 : Int32) then (((b0 &&& (31 : Int32)) <<< ((6 : Int32) &&& 31)) ||| (b1 &&& (63 : Int32))) else (if (b0 &&& (240 : Int32)) = (224 : Int32) then ((((b0 &&& (15 : Int32)) <<< ((12 : Int32) &&& 31)) ||| ((b1 &&& (63 : Int32)) <<< ((6 : Int32) &&& 31))) ||| (b2 &&& (63 : Int32))) else (if (b0 &&& (248 : Int32)) = (240 : Int32) then (((((b0 &&& (7 : Int32)) <<< ((18 : Int32) &&& 31)) ||| ((b1 &&& (63 : Int32)) <<< ((12 : Int32) &&& 31))) ||| ((b2 &&& (63 : Int32)) <<< ((6 : Int32) &&& 31))) ||| (b3 &&& (63 : Int32))) else (0 : Int32))))) (hc174 : v172_8 = (0 : Int32)) : (-1 : Int32) = (seqZ a (w &&& (255 : Int32)) ((ush w (8 : Int32)) &&& (255 : Int32)) ((ush w (16 : Int32)) &&& (255 : Int32)) ((ush w (24 : Int32)) &&& (255 : Int32)) (en - a) sur) := by
  obtain ⟨l8, l9⟩ := own_len b0 b1 b2 b3 v172_8 v172_9 (by rw [h_b0]; exact own_rng _) h_v172_8 h_v172_9
  clear h_v172_8 h_v172_9
  have r0 := own_rng w
  rw [← h_b0] at r0
  have r1 := own_rng (ush w 8)
  rw [← h_b1] at r1
  have r2 := own_rng (ush w 16)
  rw [← h_b2] at r2
  have r3 := own_rng (ush w 24)
  rw [← h_b3] at r3
  rw [← h_b0, ← h_b1, ← h_b2, ← h_b3]
  have k1 := (own_bits b1 r1.1 r1.2).2.2.2
  have k2 := (own_bits b2 r2.1 r2.2).2.2.2
  have k3 := (own_bits b3 r3.1 r3.2).2.2.2
  clear k1 k2 k3 h_b0 h_b1 h_b2 h_b3
  generalize en - a = dd at *
  refine seqZ_0 ?_
  simp only [own_i, own_l, own_ite, Int32.reduceToInt, ne_eq] at *
  simp only [seqN]
  repeat' (first | omega | split at l8 | split at l9 | split)
theorem own_exp_2 (w : Int32) (a : Int32) (en : Int32) (sur : Int32) (b0 : Int32) (h_b0 : b0 = (w &&& (255 : Int32))) (b1 : Int32) (h_b1 : b1 = ((ush w (8 : Int32)) &&& (255 : Int32))) (b2 : Int32) (h_b2 : b2 = ((ush w (16 : Int32)) &&& (255 : Int32))) (b3 : Int32) (h_b3 : b3 = ((ush w (24 : Int32)) &&& (255 : Int32))) (v172_8 : Int32) (h_v172_8 : v172_8 = (if (b0 &&& (224 : Int32)) = (192 : Int32) then (2 : Int32) else (if (b0 &&& (240 : Int32)) = (224 : Int32) then (3 : Int32) else (if (b0 &&& (248 : Int32)) = (240 : Int32) then (4 : Int32) else (0 : Int32))))) (v172_9 : Int32) (h_v172_9 : v172_9 = (if (b0 &&& (224 : Int32)) = (192 : Int32) then (((b0 &&& (31 : Int32)) <<< ((6 : Int32) &&& 31)) ||| (b1 &&& (63 : Int32))) else (if (b0 &&& (240 : Int32)) = (224 : Int32) then ((((b0 &&& (15 : Int32)) <<< ((12 : Int32) &&& 31)) ||| ((b1 &&& (63 : Int32)) <<< ((6 : Int32) &&& 31))) ||| (b2 &&& (63 : Int32))) else (if (b0 &&& (248 : Int32)) = (240 : Int32) then (((((b0 &&& (7 : Int32)) <<< ((18 : Int32) &&& 31)) ||| ((b1 &&& (63 : Int32)) <<< ((12 : Int32) &&& 31))) ||| ((b2 &&& (63 : Int32)) <<< ((6 : Int32) &&& 31))) ||| (b3 &&& (63 : Int32))) else (0 : Int32))))) (hc174 : ¬ (v172_8 = (0 : Int32))) (hc184 : (en - a) < v172_8) : (-1 : Int32) = (seqZ a (w &&& (255 : Int32)) ((ush w (8 : Int32)) &&& (255 : Int32)) ((ush w (16 : Int32)) &&& (255 : Int32)) ((ush w (24 : Int32)) &&& (255 : Int32)) (en - a) sur) := by
  obtain ⟨l8, l9⟩ := own_len b0 b1 b2 b3 v172_8 v172_9 (by rw [h_b0]; exact own_rng _) h_v172_8 h_v172_9
  clear h_v172_8 h_v172_9
  have r0 := own_rng w
  rw [← h_b0] at r0
  have r1 := own_rng (ush w 8)
  rw [← h_b1] at r1
  have r2 := own_rng (ush w 16)
  rw [← h_b2] at r2
  have r3 := own_rng (ush w 24)
  rw [← h_b3] at r3
  rw [← h_b0, ← h_b1, ← h_b2, ← h_b3]
  have k1 := (own_bits b1 r1.1 r1.2).2.2.2
  have k2 := (own_bits b2 r2.1 r2.2).2.2.2
  have k3 := (own_bits b3 r3.1 r3.2).2.2.2
  clear k1 k2 k3 h_b0 h_b1 h_b2 h_b3
  generalize en - a = dd at *
  refine seqZ_0 ?_
  simp only [own_i, own_l, own_ite, Int32.reduceToInt, ne_eq] at *
  simp only [seqN]
  repeat' (first | omega | split at l8 | split at l9 | split)
theorem own_exp_3 (w : Int32) (a : Int32) (en : Int32) (sur : Int32) (b0 : Int32) (h_b0 : b0 = (w &&& (255 : Int32))) (b1 : Int32) (h_b1 : b1 = ((ush w (8 : Int32)) &&& (255 : Int32))) (b2 : Int32) (h_b2 : b2 = ((ush w (16 : Int32)) &&& (255 : Int32))) (b3 : Int32) (h_b3 : b3 = ((ush w (24 : Int32)) &&& (255 : Int32))) (v172_8 : Int32) (h_v172_8 : v172_8 = (if (b0 &&& (224 : Int32)) = (192 : Int32) then (2 : Int32) else (if (b0 &&& (240 : Int32)) = (224 : Int32) then (3 : Int32) else (if (b0 &&& (248 : Int32)) = (240 : Int32) then (4 : Int32) else (0 : Int32))))) (v172_9 : Int32) (h_v172_9 : v172_9 = (if (b0 &&& (224 : Int32)) = (192 : Int32) then (((b0 &&& (31 : Int32)) <<< ((6 : Int32) &&& 31)) ||| (b1 &&& (63 : Int32))) else (if (b0 &&& (240 : Int32)) = (224 : Int32) then ((((b0 &&& (15 : Int32)) <<< ((12 : Int32) &&& 31)) ||| ((b1 &&& (63 : Int32)) <<< ((6 : Int32) &&& 31))) ||| (b2 &&& (63 : Int32))) else (if (b0 &&& (248 : Int32)) = (240 : Int32) then (((((b0 &&& (7 : Int32)) <<< ((18 : Int32) &&& 31)) ||| ((b1 &&& (63 : Int32)) <<< ((12 : Int32) &&& 31))) ||| ((b2 &&& (63 : Int32)) <<< ((6 : Int32) &&& 31))) ||| (b3 &&& (63 : Int32))) else (0 : Int32))))) (hc174 : ¬ (v172_8 = (0 : Int32))) (hc184 : ¬ ((en - a) < v172_8)) (hc198 : (b1 &&& (192 : Int32)) = (128 : Int32)) (hc206 : v172_8 < (3 : Int32)) : v172_8 < (4 : Int32) := by
  rw [Int32.lt_iff_toInt_lt] at *; simp only [Int32.reduceToInt] at *; omega
theorem own_exp_4 (w : Int32) (a : Int32) (en : Int32) (sur : Int32) (b0 : Int32) (h_b0 : b0 = (w &&& (255 : Int32))) (b1 : Int32) (h_b1 : b1 = ((ush w (8 : Int32)) &&& (255 : Int32))) (b2 : Int32) (h_b2 : b2 = ((ush w (16 : Int32)) &&& (255 : Int32))) (b3 : Int32) (h_b3 : b3 = ((ush w (24 : Int32)) &&& (255 : Int32))) (v172_8 : Int32) (h_v172_8 : v172_8 = (if (b0 &&& (224 : Int32)) = (192 : Int32) then (2 : Int32) else (if (b0 &&& (240 : Int32)) = (224 : Int32) then (3 : Int32) else (if (b0 &&& (248 : Int32)) = (240 : Int32) then (4 : Int32) else (0 : Int32))))) (v172_9 : Int32) (h_v172_9 : v172_9 = (if (b0 &&& (224 : Int32)) = (192 : Int32) then (((b0 &&& (31 : Int32)) <<< ((6 : Int32) &&& 31)) ||| (b1 &&& (63 : Int32))) else (if (b0 &&& (240 : Int32)) = (224 : Int32) then ((((b0 &&& (15 : Int32)) <<< ((12 : Int32) &&& 31)) ||| ((b1 &&& (63 : Int32)) <<< ((6 : Int32) &&& 31))) ||| (b2 &&& (63 : Int32))) else (if (b0 &&& (248 : Int32)) = (240 : Int32) then (((((b0 &&& (7 : Int32)) <<< ((18 : Int32) &&& 31)) ||| ((b1 &&& (63 : Int32)) <<< ((12 : Int32) &&& 31))) ||| ((b2 &&& (63 : Int32)) <<< ((6 : Int32) &&& 31))) ||| (b3 &&& (63 : Int32))) else (0 : Int32))))) (hc174 : ¬ (v172_8 = (0 : Int32))) (hc184 : ¬ ((en - a) < v172_8)) (hc198 : (b1 &&& (192 : Int32)) = (128 : Int32)) (hc206 : v172_8 < (3 : Int32)) (s269_0 : Int32) (h_s269_0 : s269_0 = (if v172_8 = (2 : Int32) then (128 : Int32) else (if v172_8 = (3 : Int32) then (2048 : Int32) else (65536 : Int32)))) (hc275 : v172_9 < s269_0) : (-1 : Int32) = (seqZ a (w &&& (255 : Int32)) ((ush w (8 : Int32)) &&& (255 : Int32)) ((ush w (16 : Int32)) &&& (255 : Int32)) ((ush w (24 : Int32)) &&& (255 : Int32)) (en - a) sur) := by
  obtain ⟨l8, l9⟩ := own_len b0 b1 b2 b3 v172_8 v172_9 (by rw [h_b0]; exact own_rng _) h_v172_8 h_v172_9
  clear h_v172_8 h_v172_9
  have r0 := own_rng w
  rw [← h_b0] at r0
  have r1 := own_rng (ush w 8)
  rw [← h_b1] at r1
  have r2 := own_rng (ush w 16)
  rw [← h_b2] at r2
  have r3 := own_rng (ush w 24)
  rw [← h_b3] at r3
  rw [← h_b0, ← h_b1, ← h_b2, ← h_b3]
  have k1 := (own_bits b1 r1.1 r1.2).2.2.2
  have k2 := (own_bits b2 r2.1 r2.2).2.2.2
  have k3 := (own_bits b3 r3.1 r3.2).2.2.2
  rw [k1] at hc198
  clear k1 k2 k3 h_b0 h_b1 h_b2 h_b3
  generalize en - a = dd at *
  refine seqZ_0 ?_
  simp only [own_i, own_l, own_ite, Int32.reduceToInt, ne_eq] at *
  simp only [seqN]
  repeat' (first | omega | split at l8 | split at l9 | split at h_s269_0 | split)
theorem own_exp_5 (w : Int32) (a : Int32) (en : Int32) (sur : Int32) (b0 : Int32) (h_b0 : b0 = (w &&& (255 : Int32))) (b1 : Int32) (h_b1 : b1 = ((ush w (8 : Int32)) &&& (255 : Int32))) (b2 : Int32) (h_b2 : b2 = ((ush w (16 : Int32)) &&& (255 : Int32))) (b3 : Int32) (h_b3 : b3 = ((ush w (24 : Int32)) &&& (255 : Int32))) (v172_8 : Int32) (h_v172_8 : v172_8 = (if (b0 &&& (224 : Int32)) = (192 : Int32) then (2 : Int32) else (if (b0 &&& (240 : Int32)) = (224 : Int32) then (3 : Int32) else (if (b0 &&& (248 : Int32)) = (240 : Int32) then (4 : Int32) else (0 : Int32))))) (v172_9 : Int32) (h_v172_9 : v172_9 = (if (b0 &&& (224 : Int32)) = (192 : Int32) then (((b0 &&& (31 : Int32)) <<< ((6 : Int32) &&& 31)) ||| (b1 &&& (63 : Int32))) else (if (b0 &&& (240 : Int32)) = (224 : Int32) then ((((b0 &&& (15 : Int32)) <<< ((12 : Int32) &&& 31)) ||| ((b1 &&& (63 : Int32)) <<< ((6 : Int32) &&& 31))) ||| (b2 &&& (63 : Int32))) else (if (b0 &&& (248 : Int32)) = (240 : Int32) then (((((b0 &&& (7 : Int32)) <<< ((18 : Int32) &&& 31)) ||| ((b1 &&& (63 : Int32)) <<< ((12 : Int32) &&& 31))) ||| ((b2 &&& (63 : Int32)) <<< ((6 : Int32) &&& 31))) ||| (b3 &&& (63 : Int32))) else (0 : Int32))))) (hc174 : ¬ (v172_8 = (0 : Int32))) (hc184 : ¬ ((en - a) < v172_8)) (hc198 : (b1 &&& (192 : Int32)) = (128 : Int32)) (hc206 : v172_8 < (3 : Int32)) (s269_0 : Int32) (h_s269_0 : s269_0 = (if v172_8 = (2 : Int32) then (128 : Int32) else (if v172_8 = (3 : Int32) then (2048 : Int32) else (65536 : Int32)))) (hc275 : ¬ (v172_9 < s269_0)) (hc282 : (1114111 : Int32) < v172_9) : (-1 : Int32) = (seqZ a (w &&& (255 : Int32)) ((ush w (8 : Int32)) &&& (255 : Int32)) ((ush w (16 : Int32)) &&& (255 : Int32)) ((ush w (24 : Int32)) &&& (255 : Int32)) (en - a) sur) := by
  obtain ⟨l8, l9⟩ := own_len b0 b1 b2 b3 v172_8 v172_9 (by rw [h_b0]; exact own_rng _) h_v172_8 h_v172_9
  clear h_v172_8 h_v172_9
  have r0 := own_rng w
  rw [← h_b0] at r0
  have r1 := own_rng (ush w 8)
  rw [← h_b1] at r1
  have r2 := own_rng (ush w 16)
  rw [← h_b2] at r2
  have r3 := own_rng (ush w 24)
  rw [← h_b3] at r3
  rw [← h_b0, ← h_b1, ← h_b2, ← h_b3]
  have k1 := (own_bits b1 r1.1 r1.2).2.2.2
  have k2 := (own_bits b2 r2.1 r2.2).2.2.2
  have k3 := (own_bits b3 r3.1 r3.2).2.2.2
  rw [k1] at hc198
  clear k1 k2 k3 h_b0 h_b1 h_b2 h_b3
  generalize en - a = dd at *
  refine seqZ_0 ?_
  simp only [own_i, own_l, own_ite, Int32.reduceToInt, ne_eq] at *
  simp only [seqN]
  repeat' (first | omega | split at l8 | split at l9 | split at h_s269_0 | split)
theorem own_exp_6 (w : Int32) (a : Int32) (en : Int32) (sur : Int32) (b0 : Int32) (h_b0 : b0 = (w &&& (255 : Int32))) (b1 : Int32) (h_b1 : b1 = ((ush w (8 : Int32)) &&& (255 : Int32))) (b2 : Int32) (h_b2 : b2 = ((ush w (16 : Int32)) &&& (255 : Int32))) (b3 : Int32) (h_b3 : b3 = ((ush w (24 : Int32)) &&& (255 : Int32))) (v172_8 : Int32) (h_v172_8 : v172_8 = (if (b0 &&& (224 : Int32)) = (192 : Int32) then (2 : Int32) else (if (b0 &&& (240 : Int32)) = (224 : Int32) then (3 : Int32) else (if (b0 &&& (248 : Int32)) = (240 : Int32) then (4 : Int32) else (0 : Int32))))) (v172_9 : Int32) (h_v172_9 : v172_9 = (if (b0 &&& (224 : Int32)) = (192 : Int32) then (((b0 &&& (31 : Int32)) <<< ((6 : Int32) &&& 31)) ||| (b1 &&& (63 : Int32))) else (if (b0 &&& (240 : Int32)) = (224 : Int32) then ((((b0 &&& (15 : Int32)) <<< ((12 : Int32) &&& 31)) ||| ((b1 &&& (63 : Int32)) <<< ((6 : Int32) &&& 31))) ||| (b2 &&& (63 : Int32))) else (if (b0 &&& (248 : Int32)) = (240 : Int32) then (((((b0 &&& (7 : Int32)) <<< ((18 : Int32) &&& 31)) ||| ((b1 &&& (63 : Int32)) <<< ((12 : Int32) &&& 31))) ||| ((b2 &&& (63 : Int32)) <<< ((6 : Int32) &&& 31))) ||| (b3 &&& (63 : Int32))) else (0 : Int32))))) (hc174 : ¬ (v172_8 = (0 : Int32))) (hc184 : ¬ ((en - a) < v172_8)) (hc198 : (b1 &&& (192 : Int32)) = (128 : Int32)) (hc206 : v172_8 < (3 : Int32)) (s269_0 : Int32) (h_s269_0 : s269_0 = (if v172_8 = (2 : Int32) then (128 : Int32) else (if v172_8 = (3 : Int32) then (2048 : Int32) else (65536 : Int32)))) (hc275 : ¬ (v172_9 < s269_0)) (hc282 : ¬ ((1114111 : Int32) < v172_9)) (hc288 : sur = (0 : Int32)) (hc295 : v172_9 < (55296 : Int32)) : (a + v172_8) = (seqZ a (w &&& (255 : Int32)) ((ush w (8 : Int32)) &&& (255 : Int32)) ((ush w (16 : Int32)) &&& (255 : Int32)) ((ush w (24 : Int32)) &&& (255 : Int32)) (en - a) sur) := by
  obtain ⟨l8, l9⟩ := own_len b0 b1 b2 b3 v172_8 v172_9 (by rw [h_b0]; exact own_rng _) h_v172_8 h_v172_9
  clear h_v172_8 h_v172_9
  have r0 := own_rng w
  rw [← h_b0] at r0
  have r1 := own_rng (ush w 8)
  rw [← h_b1] at r1
  have r2 := own_rng (ush w 16)
  rw [← h_b2] at r2
  have r3 := own_rng (ush w 24)
  rw [← h_b3] at r3
  rw [← h_b0, ← h_b1, ← h_b2, ← h_b3]
  have k1 := (own_bits b1 r1.1 r1.2).2.2.2
  have k2 := (own_bits b2 r2.1 r2.2).2.2.2
  have k3 := (own_bits b3 r3.1 r3.2).2.2.2
  rw [k1] at hc198
  clear k1 k2 k3 h_b0 h_b1 h_b2 h_b3
  generalize en - a = dd at *
  have q : v172_8.toInt = 2 ∨ v172_8.toInt = 3 ∨ v172_8.toInt = 4 := by
    rw [own_i] at hc174
    simp only [Int32.reduceToInt] at hc174
    repeat' (first | omega | split at l8)
  rcases q with q | q | q
  · have e : v172_8 = 2 := by rw [own_i, q]; rfl
    rw [e]
    refine seqZ_2 ?_
    clear e
    simp only [own_i, own_l, own_ite, Int32.reduceToInt, ne_eq] at *
    simp only [seqN]
    repeat' (first | omega | split at l8 | split at l9 | split at h_s269_0 | split)
  · have e : v172_8 = 3 := by rw [own_i, q]; rfl
    rw [e]
    refine seqZ_3 ?_
    clear e
    simp only [own_i, own_l, own_ite, Int32.reduceToInt, ne_eq] at *
    simp only [seqN]
    repeat' (first | omega | split at l8 | split at l9 | split at h_s269_0 | split)
  · have e : v172_8 = 4 := by rw [own_i, q]; rfl
    rw [e]
    refine seqZ_4 ?_
    clear e
    simp only [own_i, own_l, own_ite, Int32.reduceToInt, ne_eq] at *
    simp only [seqN]
    repeat' (first | omega | split at l8 | split at l9 | split at h_s269_0 | split)
theorem own_exp_7 (w : Int32) (a : Int32) (en : Int32) (sur : Int32) (b0 : Int32) (h_b0 : b0 = (w &&& (255 : Int32))) (b1 : Int32) (h_b1 : b1 = ((ush w (8 : Int32)) &&& (255 : Int32))) (b2 : Int32) (h_b2 : b2 = ((ush w (16 : Int32)) &&& (255 : Int32))) (b3 : Int32) (h_b3 : b3 = ((ush w (24 : Int32)) &&& (255 : Int32))) (v172_8 : Int32) (h_v172_8 : v172_8 = (if (b0 &&& (224 : Int32)) = (192 : Int32) then (2 : Int32) else (if (b0 &&& (240 : Int32)) = (224 : Int32) then (3 : Int32) else (if (b0 &&& (248 : Int32)) = (240 : Int32) then (4 : Int32) else (0 : Int32))))) (v172_9 : Int32) (h_v172_9 : v172_9 = (if (b0 &&& (224 : Int32)) = (192 : Int32) then (((b0 &&& (31 : Int32)) <<< ((6 : Int32) &&& 31)) ||| (b1 &&& (63 : Int32))) else (if (b0 &&& (240 : Int32)) = (224 : Int32) then ((((b0 &&& (15 : Int32)) <<< ((12 : Int32) &&& 31)) ||| ((b1 &&& (63 : Int32)) <<< ((6 : Int32) &&& 31))) ||| (b2 &&& (63 : Int32))) else (if (b0 &&& (248 : Int32)) = (240 : Int32) then (((((b0 &&& (7 : Int32)) <<< ((18 : Int32) &&& 31)) ||| ((b1 &&& (63 : Int32)) <<< ((12 : Int32) &&& 31))) ||| ((b2 &&& (63 : Int32)) <<< ((6 : Int32) &&& 31))) ||| (b3 &&& (63 : Int32))) else (0 : Int32))))) (hc174 : ¬ (v172_8 = (0 : Int32))) (hc184 : ¬ ((en - a) < v172_8)) (hc198 : (b1 &&& (192 : Int32)) = (128 : Int32)) (hc206 : v172_8 < (3 : Int32)) (s269_0 : Int32) (h_s269_0 : s269_0 = (if v172_8 = (2 : Int32) then (128 : Int32) else (if v172_8 = (3 : Int32) then (2048 : Int32) else (65536 : Int32)))) (hc275 : ¬ (v172_9 < s269_0)) (hc282 : ¬ ((1114111 : Int32) < v172_9)) (hc288 : sur = (0 : Int32)) (hc295 : ¬ (v172_9 < (55296 : Int32))) (hc302 : (57343 : Int32) < v172_9) : (a + v172_8) = (seqZ a (w &&& (255 : Int32)) ((ush w (8 : Int32)) &&& (255 : Int32)) ((ush w (16 : Int32)) &&& (255 : Int32)) ((ush w (24 : Int32)) &&& (255 : Int32)) (en - a) sur) := by
  obtain ⟨l8, l9⟩ := own_len b0 b1 b2 b3 v172_8 v172_9 (by rw [h_b0]; exact own_rng _) h_v172_8 h_v172_9
  clear h_v172_8 h_v172_9
  have r0 := own_rng w
  rw [← h_b0] at r0
  have r1 := own_rng (ush w 8)
  rw [← h_b1] at r1
  have r2 := own_rng (ush w 16)
  rw [← h_b2] at r2
  have r3 := own_rng (ush w 24)
  rw [← h_b3] at r3
  rw [← h_b0, ← h_b1, ← h_b2, ← h_b3]
  have k1 := (own_bits b1 r1.1 r1.2).2.2.2
  have k2 := (own_bits b2 r2.1 r2.2).2.2.2
  have k3 := (own_bits b3 r3.1 r3.2).2.2.2
  rw [k1] at hc198
  clear k1 k2 k3 h_b0 h_b1 h_b2 h_b3
  generalize en - a = dd at *
  have q : v172_8.toInt = 2 ∨ v172_8.toInt = 3 ∨ v172_8.toInt = 4 := by
    rw [own_i] at hc174
    simp only [Int32.reduceToInt] at hc174
    repeat' (first | omega | split at l8)
  rcases q with q | q | q
  · have e : v172_8 = 2 := by rw [own_i, q]; rfl
    rw [e]
    refine seqZ_2 ?_
    clear e
    simp only [own_i, own_l, own_ite, Int32.reduceToInt, ne_eq] at *
    simp only [seqN]
    repeat' (first | omega | split at l8 | split at l9 | split at h_s269_0 | split)
  · have e : v172_8 = 3 := by rw [own_i, q]; rfl
    rw [e]
    refine seqZ_3 ?_
    clear e
    simp only [own_i, own_l, own_ite, Int32.reduceToInt, ne_eq] at *
    simp only [seqN]
    repeat' (first | omega | split at l8 | split at l9 | split at h_s269_0 | split)
  · have e : v172_8 = 4 := by rw [own_i, q]; rfl
    rw [e]
    refine seqZ_4 ?_
    clear e
    simp only [own_i, own_l, own_ite, Int32.reduceToInt, ne_eq] at *
    simp only [seqN]
    repeat' (first | omega | split at l8 | split at l9 | split at h_s269_0 | split)
theorem own_exp_8 (w : Int32) (a : Int32) (en : Int32) (sur : Int32) (b0 : Int32) (h_b0 : b0 = (w &&& (255 : Int32))) (b1 : Int32) (h_b1 : b1 = ((ush w (8 : Int32)) &&& (255 : Int32))) (b2 : Int32) (h_b2 : b2 = ((ush w (16 : Int32)) &&& (255 : Int32))) (b3 : Int32) (h_b3 : b3 = ((ush w (24 : Int32)) &&& (255 : Int32))) (v172_8 : Int32) (h_v172_8 : v172_8 = (if (b0 &&& (224 : Int32)) = (192 : Int32) then (2 : Int32) else (if (b0 &&& (240 : Int32)) = (224 : Int32) then (3 : Int32) else (if (b0 &&& (248 : Int32)) = (240 : Int32) then (4 : Int32) else (0 : Int32))))) (v172_9 : Int32) (h_v172_9 : v172_9 = (if (b0 &&& (224 : Int32)) = (192 : Int32) then (((b0 &&& (31 : Int32)) <<< ((6 : Int32) &&& 31)) ||| (b1 &&& (63 : Int32))) else (if (b0 &&& (240 : Int32)) = (224 : Int32) then ((((b0 &&& (15 : Int32)) <<< ((12 : Int32) &&& 31)) ||| ((b1 &&& (63 : Int32)) <<< ((6 : Int32) &&& 31))) ||| (b2 &&& (63 : Int32))) else (if (b0 &&& (248 : Int32)) = (240 : Int32) then (((((b0 &&& (7 : Int32)) <<< ((18 : Int32) &&& 31)) ||| ((b1 &&& (63 : Int32)) <<< ((12 : Int32) &&& 31))) ||| ((b2 &&& (63 : Int32)) <<< ((6 : Int32) &&& 31))) ||| (b3 &&& (63 : Int32))) else (0 : Int32))))) (hc174 : ¬ (v172_8 = (0 : Int32))) (hc184 : ¬ ((en - a) < v172_8)) (hc198 : (b1 &&& (192 : Int32)) = (128 : Int32)) (hc206 : v172_8 < (3 : Int32)) (s269_0 : Int32) (h_s269_0 : s269_0 = (if v172_8 = (2 : Int32) then (128 : Int32) else (if v172_8 = (3 : Int32) then (2048 : Int32) else (65536 : Int32)))) (hc275 : ¬ (v172_9 < s269_0)) (hc282 : ¬ ((1114111 : Int32) < v172_9)) (hc288 : sur = (0 : Int32)) (hc295 : ¬ (v172_9 < (55296 : Int32))) (hc302 : ¬ ((57343 : Int32) < v172_9)) : (-1 : Int32) = (seqZ a (w &&& (255 : Int32)) ((ush w (8 : Int32)) &&& (255 : Int32)) ((ush w (16 : Int32)) &&& (255 : Int32)) ((ush w (24 : Int32)) &&& (255 : Int32)) (en - a) sur) := by
  obtain ⟨l8, l9⟩ := own_len b0 b1 b2 b3 v172_8 v172_9 (by rw [h_b0]; exact own_rng _) h_v172_8 h_v172_9
  clear h_v172_8 h_v172_9
  have r0 := own_rng w
  rw [← h_b0] at r0
  have r1 := own_rng (ush w 8)
  rw [← h_b1] at r1
  have r2 := own_rng (ush w 16)
  rw [← h_b2] at r2
  have r3 := own_rng (ush w 24)
  rw [← h_b3] at r3
  rw [← h_b0, ← h_b1, ← h_b2, ← h_b3]
  have k1 := (own_bits b1 r1.1 r1.2).2.2.2
  have k2 := (own_bits b2 r2.1 r2.2).2.2.2
  have k3 := (own_bits b3 r3.1 r3.2).2.2.2
  rw [k1] at hc198
  clear k1 k2 k3 h_b0 h_b1 h_b2 h_b3
  generalize en - a = dd at *
  refine seqZ_0 ?_
  simp only [own_i, own_l, own_ite, Int32.reduceToInt, ne_eq] at *
  simp only [seqN]
  repeat' (first | omega | split at l8 | split at l9 | split at h_s269_0 | split)
theorem own_exp_9 (w : Int32) (a : Int32) (en : Int32) (sur : Int32) (b0 : Int32) (h_b0 : b0 = (w &&& (255 : Int32))) (b1 : Int32) (h_b1 : b1 = ((ush w (8 : Int32)) &&& (255 : Int32))) (b2 : Int32) (h_b2 : b2 = ((ush w (16 : Int32)) &&& (255 : Int32))) (b3 : Int32) (h_b3 : b3 = ((ush w (24 : Int32)) &&& (255 : Int32))) (v172_8 : Int32) (h_v172_8 : v172_8 = (if (b0 &&& (224 : Int32)) = (192 : Int32) then (2 : Int32) else (if (b0 &&& (240 : Int32)) = (224 : Int32) then (3 : Int32) else (if (b0 &&& (248 : Int32)) = (240 : Int32) then (4 : Int32) else (0 : Int32))))) (v172_9 : Int32) (h_v172_9 : v172_9 = (if (b0 &&& (224 : Int32)) = (192 : Int32) then (((b0 &&& (31 : Int32)) <<< ((6 : Int32) &&& 31)) ||| (b1 &&& (63 : Int32))) else (if (b0 &&& (240 : Int32)) = (224 : Int32) then ((((b0 &&& (15 : Int32)) <<< ((12 : Int32) &&& 31)) ||| ((b1 &&& (63 : Int32)) <<< ((6 : Int32) &&& 31))) ||| (b2 &&& (63 : Int32))) else (if (b0 &&& (248 : Int32)) = (240 : Int32) then (((((b0 &&& (7 : Int32)) <<< ((18 : Int32) &&& 31)) ||| ((b1 &&& (63 : Int32)) <<< ((12 : Int32) &&& 31))) ||| ((b2 &&& (63 : Int32)) <<< ((6 : Int32) &&& 31))) ||| (b3 &&& (63 : Int32))) else (0 : Int32))))) (hc174 : ¬ (v172_8 = (0 : Int32))) (hc184 : ¬ ((en - a) < v172_8)) (hc198 : (b1 &&& (192 : Int32)) = (128 : Int32)) (hc206 : v172_8 < (3 : Int32)) (s269_0 : Int32) (h_s269_0 : s269_0 = (if v172_8 = (2 : Int32) then (128 : Int32) else (if v172_8 = (3 : Int32) then (2048 : Int32) else (65536 : Int32)))) (hc275 : ¬ (v172_9 < s269_0)) (hc282 : ¬ ((1114111 : Int32) < v172_9)) (hc288 : ¬ (sur = (0 : Int32))) : (a + v172_8) = (seqZ a (w &&& (255 : Int32)) ((ush w (8 : Int32)) &&& (255 : Int32)) ((ush w (16 : Int32)) &&& (255 : Int32)) ((ush w (24 : Int32)) &&& (255 : Int32)) (en - a) sur) := by
  obtain ⟨l8, l9⟩ := own_len b0 b1 b2 b3 v172_8 v172_9 (by rw [h_b0]; exact own_rng _) h_v172_8 h_v172_9
  clear h_v172_8 h_v172_9
  have r0 := own_rng w
  rw [← h_b0] at r0
  have r1 := own_rng (ush w 8)
  rw [← h_b1] at r1
  have r2 := own_rng (ush w 16)
  rw [← h_b2] at r2
  have r3 := own_rng (ush w 24)
  rw [← h_b3] at r3
  rw [← h_b0, ← h_b1, ← h_b2, ← h_b3]
  have k1 := (own_bits b1 r1.1 r1.2).2.2.2
  have k2 := (own_bits b2 r2.1 r2.2).2.2.2
  have k3 := (own_bits b3 r3.1 r3.2).2.2.2
  rw [k1] at hc198
  clear k1 k2 k3 h_b0 h_b1 h_b2 h_b3
  generalize en - a = dd at *
  have q : v172_8.toInt = 2 ∨ v172_8.toInt = 3 ∨ v172_8.toInt = 4 := by
    rw [own_i] at hc174
    simp only [Int32.reduceToInt] at hc174
    repeat' (first | omega | split at l8)
  rcases q with q | q | q
  · have e : v172_8 = 2 := by rw [own_i, q]; rfl
    rw [e]
    refine seqZ_2 ?_
    clear e
    simp only [own_i, own_l, own_ite, Int32.reduceToInt, ne_eq] at *
    simp only [seqN]
    repeat' (first | omega | split at l8 | split at l9 | split at h_s269_0 | split)
  · have e : v172_8 = 3 := by rw [own_i, q]; rfl
    rw [e]
    refine seqZ_3 ?_
    clear e
    simp only [own_i, own_l, own_ite, Int32.reduceToInt, ne_eq] at *
    simp only [seqN]
    repeat' (first | omega | split at l8 | split at l9 | split at h_s269_0 | split)
  · have e : v172_8 = 4 := by rw [own_i, q]; rfl
    rw [e]
    refine seqZ_4 ?_
    clear e
    simp only [own_i, own_l, own_ite, Int32.reduceToInt, ne_eq] at *
    simp only [seqN]
    repeat' (first | omega | split at l8 | split at l9 | split at h_s269_0 | split)
theorem own_exp_10 (w : Int32) (a : Int32) (en : Int32) (sur : Int32) (b0 : Int32) (h_b0 : b0 = (w &&& (255 : Int32))) (b1 : Int32) (h_b1 : b1 = ((ush w (8 : Int32)) &&& (255 : Int32))) (b2 : Int32) (h_b2 : b2 = ((ush w (16 : Int32)) &&& (255 : Int32))) (b3 : Int32) (h_b3 : b3 = ((ush w (24 : Int32)) &&& (255 : Int32))) (v172_8 : Int32) (h_v172_8 : v172_8 = (if (b0 &&& (224 : Int32)) = (192 : Int32) then (2 : Int32) else (if (b0 &&& (240 : Int32)) = (224 : Int32) then (3 : Int32) else (if (b0 &&& (248 : Int32)) = (240 : Int32) then (4 : Int32) else (0 : Int32))))) (v172_9 : Int32) (h_v172_9 : v172_9 = (if (b0 &&& (224 : Int32)) = (192 : Int32) then (((b0 &&& (31 : Int32)) <<< ((6 : Int32) &&& 31)) ||| (b1 &&& (63 : Int32))) else (if (b0 &&& (240 : Int32)) = (224 : Int32) then ((((b0 &&& (15 : Int32)) <<< ((12 : Int32) &&& 31)) ||| ((b1 &&& (63 : Int32)) <<< ((6 : Int32) &&& 31))) ||| (b2 &&& (63 : Int32))) else (if (b0 &&& (248 : Int32)) = (240 : Int32) then (((((b0 &&& (7 : Int32)) <<< ((18 : Int32) &&& 31)) ||| ((b1 &&& (63 : Int32)) <<< ((12 : Int32) &&& 31))) ||| ((b2 &&& (63 : Int32)) <<< ((6 : Int32) &&& 31))) ||| (b3 &&& (63 : Int32))) else (0 : Int32))))) (hc174 : ¬ (v172_8 = (0 : Int32))) (hc184 : ¬ ((en - a) < v172_8)) (hc198 : (b1 &&& (192 : Int32)) = (128 : Int32)) (hc206 : ¬ (v172_8 < (3 : Int32))) (hc218 : (b2 &&& (192 : Int32)) = (128 : Int32)) (hc226 : v172_8 < (4 : Int32)) (s269_0 : Int32) (h_s269_0 : s269_0 = (if v172_8 = (2 : Int32) then (128 : Int32) else (if v172_8 = (3 : Int32) then (2048 : Int32) else (65536 : Int32)))) (hc275 : v172_9 < s269_0) : (-1 : Int32) = (seqZ a (w &&& (255 : Int32)) ((ush w (8 : Int32)) &&& (255 : Int32)) ((ush w (16 : Int32)) &&& (255 : Int32)) ((ush w (24 : Int32)) &&& (255 : Int32)) (en - a) sur) := by
  obtain ⟨l8, l9⟩ := own_len b0 b1 b2 b3 v172_8 v172_9 (by rw [h_b0]; exact own_rng _) h_v172_8 h_v172_9
  clear h_v172_8 h_v172_9
  have r0 := own_rng w
  rw [← h_b0] at r0
  have r1 := own_rng (ush w 8)
  rw [← h_b1] at r1
  have r2 := own_rng (ush w 16)
  rw [← h_b2] at r2
  have r3 := own_rng (ush w 24)
  rw [← h_b3] at r3
  rw [← h_b0, ← h_b1, ← h_b2, ← h_b3]
  have k1 := (own_bits b1 r1.1 r1.2).2.2.2
  have k2 := (own_bits b2 r2.1 r2.2).2.2.2
  have k3 := (own_bits b3 r3.1 r3.2).2.2.2
  rw [k1] at hc198
  rw [k2] at hc218
  clear k1 k2 k3 h_b0 h_b1 h_b2 h_b3
  generalize en - a = dd at *
  refine seqZ_0 ?_
  simp only [own_i, own_l, own_ite, Int32.reduceToInt, ne_eq] at *
  simp only [seqN]
  repeat' (first | omega | split at l8 | split at l9 | split at h_s269_0 | split)
theorem own_exp_11 (w : Int32) (a : Int32) (en : Int32) (sur : Int32) (b0 : Int32) (h_b0 : b0 = (w &&& (255 : Int32))) (b1 : Int32) (h_b1 : b1 = ((ush w (8 : Int32)) &&& (255 : Int32))) (b2 : Int32) (h_b2 : b2 = ((ush w (16 : Int32)) &&& (255 : Int32))) (b3 : Int32) (h_b3 : b3 = ((ush w (24 : Int32)) &&& (255 : Int32))) (v172_8 : Int32) (h_v172_8 : v172_8 = (if (b0 &&& (224 : Int32)) = (192 : Int32) then (2 : Int32) else (if (b0 &&& (240 : Int32)) = (224 : Int32) then (3 : Int32) else (if (b0 &&& (248 : Int32)) = (240 : Int32) then (4 : Int32) else (0 : Int32))))) (v172_9 : Int32) (h_v172_9 : v172_9 = (if (b0 &&& (224 : Int32)) = (192 : Int32) then (((b0 &&& (31 : Int32)) <<< ((6 : Int32) &&& 31)) ||| (b1 &&& (63 : Int32))) else (if (b0 &&& (240 : Int32)) = (224 : Int32) then ((((b0 &&& (15 : Int32)) <<< ((12 : Int32) &&& 31)) ||| ((b1 &&& (63 : Int32)) <<< ((6 : Int32) &&& 31))) ||| (b2 &&& (63 : Int32))) else (if (b0 &&& (248 : Int32)) = (240 : Int32) then (((((b0 &&& (7 : Int32)) <<< ((18 : Int32) &&& 31)) ||| ((b1 &&& (63 : Int32)) <<< ((12 : Int32) &&& 31))) ||| ((b2 &&& (63 : Int32)) <<< ((6 : Int32) &&& 31))) ||| (b3 &&& (63 : Int32))) else (0 : Int32))))) (hc174 : ¬ (v172_8 = (0 : Int32))) (hc184 : ¬ ((en - a) < v172_8)) (hc198 : (b1 &&& (192 : Int32)) = (128 : Int32)) (hc206 : ¬ (v172_8 < (3 : Int32))) (hc218 : (b2 &&& (192 : Int32)) = (128 : Int32)) (hc226 : v172_8 < (4 : Int32)) (s269_0 : Int32) (h_s269_0 : s269_0 = (if v172_8 = (2 : Int32) then (128 : Int32) else (if v172_8 = (3 : Int32) then (2048 : Int32) else (65536 : Int32)))) (hc275 : ¬ (v172_9 < s269_0)) (hc282 : (1114111 : Int32) < v172_9) : (-1 : Int32) = (seqZ a (w &&& (255 : Int32)) ((ush w (8 : Int32)) &&& (255 : Int32)) ((ush w (16 : Int32)) &&& (255 : Int32)) ((ush w (24 : Int32)) &&& (255 : Int32)) (en - a) sur) := by
  obtain ⟨l8, l9⟩ := own_len b0 b1 b2 b3 v172_8 v172_9 (by rw [h_b0]; exact own_rng _) h_v172_8 h_v172_9
  clear h_v172_8 h_v172_9
  have r0 := own_rng w
  rw [← h_b0] at r0
  have r1 := own_rng (ush w 8)
  rw [← h_b1] at r1
  have r2 := own_rng (ush w 16)
  rw [← h_b2] at r2
  have r3 := own_rng (ush w 24)
  rw [← h_b3] at r3
  rw [← h_b0, ← h_b1, ← h_b2, ← h_b3]
  have k1 := (own_bits b1 r1.1 r1.2).2.2.2
  have k2 := (own_bits b2 r2.1 r2.2).2.2.2
  have k3 := (own_bits b3 r3.1 r3.2).2.2.2
  rw [k1] at hc198
  rw [k2] at hc218
  clear k1 k2 k3 h_b0 h_b1 h_b2 h_b3
  generalize en - a = dd at *
  refine seqZ_0 ?_
  simp only [own_i, own_l, own_ite, Int32.reduceToInt, ne_eq] at *
  simp only [seqN]
  repeat' (first | omega | split at l8 | split at l9 | split at h_s269_0 | split)
theorem own_exp_12 (w : Int32) (a : Int32) (en : Int32) (sur : Int32) (b0 : Int32) (h_b0 : b0 = (w &&& (255 : Int32))) (b1 : Int32) (h_b1 : b1 = ((ush w (8 : Int32)) &&& (255 : Int32))) (b2 : Int32) (h_b2 : b2 = ((ush w (16 : Int32)) &&& (255 : Int32))) (b3 : Int32) (h_b3 : b3 = ((ush w (24 : Int32)) &&& (255 : Int32))) (v172_8 : Int32) (h_v172_8 : v172_8 = (if (b0 &&& (224 : Int32)) = (192 : Int32) then (2 : Int32) else (if (b0 &&& (240 : Int32)) = (224 : Int32) then (3 : Int32) else (if (b0 &&& (248 : Int32)) = (240 : Int32) then (4 : Int32) else (0 : Int32))))) (v172_9 : Int32) (h_v172_9 : v172_9 = (if (b0 &&& (224 : Int32)) = (192 : Int32) then (((b0 &&& (31 : Int32)) <<< ((6 : Int32) &&& 31)) ||| (b1 &&& (63 : Int32))) else (if (b0 &&& (240 : Int32)) = (224 : Int32) then ((((b0 &&& (15 : Int32)) <<< ((12 : Int32) &&& 31)) ||| ((b1 &&& (63 : Int32)) <<< ((6 : Int32) &&& 31))) ||| (b2 &&& (63 : Int32))) else (if (b0 &&& (248 : Int32)) = (240 : Int32) then (((((b0 &&& (7 : Int32)) <<< ((18 : Int32) &&& 31)) ||| ((b1 &&& (63 : Int32)) <<< ((12 : Int32) &&& 31))) ||| ((b2 &&& (63 : Int32)) <<< ((6 : Int32) &&& 31))) ||| (b3 &&& (63 : Int32))) else (0 : Int32))))) (hc174 : ¬ (v172_8 = (0 : Int32))) (hc184 : ¬ ((en - a) < v172_8)) (hc198 : (b1 &&& (192 : Int32)) = (128 : Int32)) (hc206 : ¬ (v172_8 < (3 : Int32))) (hc218 : (b2 &&& (192 : Int32)) = (128 : Int32)) (hc226 : v172_8 < (4 : Int32)) (s269_0 : Int32) (h_s269_0 : s269_0 = (if v172_8 = (2 : Int32) then (128 : Int32) else (if v172_8 = (3 : Int32) then (2048 : Int32) else (65536 : Int32)))) (hc275 : ¬ (v172_9 < s269_0)) (hc282 : ¬ ((1114111 : Int32) < v172_9)) (hc288 : sur = (0 : Int32)) (hc295 : v172_9 < (55296 : Int32)) : (a + v172_8) = (seqZ a (w &&& (255 : Int32)) ((ush w (8 : Int32)) &&& (255 : Int32)) ((ush w (16 : Int32)) &&& (255 : Int32)) ((ush w (24 : Int32)) &&& (255 : Int32)) (en - a) sur) := by
  obtain ⟨l8, l9⟩ := own_len b0 b1 b2 b3 v172_8 v172_9 (by rw [h_b0]; exact own_rng _) h_v172_8 h_v172_9
  clear h_v172_8 h_v172_9
  have r0 := own_rng w
  rw [← h_b0] at r0
  have r1 := own_rng (ush w 8)
  rw [← h_b1] at r1
  have r2 := own_rng (ush w 16)
  rw [← h_b2] at r2
  have r3 := own_rng (ush w 24)
  rw [← h_b3] at r3
  rw [← h_b0, ← h_b1, ← h_b2, ← h_b3]
  have k1 := (own_bits b1 r1.1 r1.2).2.2.2
  have k2 := (own_bits b2 r2.1 r2.2).2.2.2
  have k3 := (own_bits b3 r3.1 r3.2).2.2.2
  rw [k1] at hc198
  rw [k2] at hc218
  clear k1 k2 k3 h_b0 h_b1 h_b2 h_b3
  generalize en - a = dd at *
  have q : v172_8.toInt = 2 ∨ v172_8.toInt = 3 ∨ v172_8.toInt = 4 := by
    rw [own_i] at hc174
    simp only [Int32.reduceToInt] at hc174
    repeat' (first | omega | split at l8)
  rcases q with q | q | q
  · have e : v172_8 = 2 := by rw [own_i, q]; rfl
    rw [e]
    refine seqZ_2 ?_
    clear e
    simp only [own_i, own_l, own_ite, Int32.reduceToInt, ne_eq] at *
    simp only [seqN]
    repeat' (first | omega | split at l8 | split at l9 | split at h_s269_0 | split)
  · have e : v172_8 = 3 := by rw [own_i, q]; rfl
    rw [e]
    refine seqZ_3 ?_
    clear e
    simp only [own_i, own_l, own_ite, Int32.reduceToInt, ne_eq] at *
    simp only [seqN]
    repeat' (first | omega | split at l8 | split at l9 | split at h_s269_0 | split)
  · have e : v172_8 = 4 := by rw [own_i, q]; rfl
    rw [e]
    refine seqZ_4 ?_
    clear e
    simp only [own_i, own_l, own_ite, Int32.reduceToInt, ne_eq] at *
    simp only [seqN]
    repeat' (first | omega | split at l8 | split at l9 | split at h_s269_0 | split)
theorem own_exp_13 (w : Int32) (a : Int32) (en : Int32) (sur : Int32) (b0 : Int32) (h_b0 : b0 = (w &&& (255 : Int32))) (b1 : Int32) (h_b1 : b1 = ((ush w (8 : Int32)) &&& (255 : Int32))) (b2 : Int32) (h_b2 : b2 = ((ush w (16 : Int32)) &&& (255 : Int32))) (b3 : Int32) (h_b3 : b3 = ((ush w (24 : Int32)) &&& (255 : Int32))) (v172_8 : Int32) (h_v172_8 : v172_8 = (if (b0 &&& (224 : Int32)) = (192 : Int32) then (2 : Int32) else (if (b0 &&& (240 : Int32)) = (224 : Int32) then (3 : Int32) else (if (b0 &&& (248 : Int32)) = (240 : Int32) then (4 : Int32) else (0 : Int32))))) (v172_9 : Int32) (h_v172_9 : v172_9 = (if (b0 &&& (224 : Int32)) = (192 : Int32) then (((b0 &&& (31 : Int32)) <<< ((6 : Int32) &&& 31)) ||| (b1 &&& (63 : Int32))) else (if (b0 &&& (240 : Int32)) = (224 : Int32) then ((((b0 &&& (15 : Int32)) <<< ((12 : Int32) &&& 31)) ||| ((b1 &&& (63 : Int32)) <<< ((6 : Int32) &&& 31))) ||| (b2 &&& (63 : Int32))) else (if (b0 &&& (248 : Int32)) = (240 : Int32) then (((((b0 &&& (7 : Int32)) <<< ((18 : Int32) &&& 31)) ||| ((b1 &&& (63 : Int32)) <<< ((12 : Int32) &&& 31))) ||| ((b2 &&& (63 : Int32)) <<< ((6 : Int32) &&& 31))) ||| (b3 &&& (63 : Int32))) else (0 : Int32))))) (hc174 : ¬ (v172_8 = (0 : Int32))) (hc184 : ¬ ((en - a) < v172_8)) (hc198 : (b1 &&& (192 : Int32)) = (128 : Int32)) (hc206 : ¬ (v172_8 < (3 : Int32))) (hc218 : (b2 &&& (192 : Int32)) = (128 : Int32)) (hc226 : v172_8 < (4 : Int32)) (s269_0 : Int32) (h_s269_0 : s269_0 = (if v172_8 = (2 : Int32) then (128 : Int32) else (if v172_8 = (3 : Int32) then (2048 : Int32) else (65536 : Int32)))) (hc275 : ¬ (v172_9 < s269_0)) (hc282 : ¬ ((1114111 : Int32) < v172_9)) (hc288 : sur = (0 : Int32)) (hc295 : ¬ (v172_9 < (55296 : Int32))) (hc302 : (57343 : Int32) < v172_9) : (a + v172_8) = (seqZ a (w &&& (255 : Int32)) ((ush w (8 : Int32)) &&& (255 : Int32)) ((ush w (16 : Int32)) &&& (255 : Int32)) ((ush w (24 : Int32)) &&& (255 : Int32)) (en - a) sur) := by
  obtain ⟨l8, l9⟩ := own_len b0 b1 b2 b3 v172_8 v172_9 (by rw [h_b0]; exact own_rng _) h_v172_8 h_v172_9
  clear h_v172_8 h_v172_9
  have r0 := own_rng w
  rw [← h_b0] at r0
  have r1 := own_rng (ush w 8)
  rw [← h_b1] at r1
  have r2 := own_rng (ush w 16)
  rw [← h_b2] at r2
  have r3 := own_rng (ush w 24)
  rw [← h_b3] at r3
  rw [← h_b0, ← h_b1, ← h_b2, ← h_b3]
  have k1 := (own_bits b1 r1.1 r1.2).2.2.2
  have k2 := (own_bits b2 r2.1 r2.2).2.2.2
  have k3 := (own_bits b3 r3.1 r3.2).2.2.2
  rw [k1] at hc198
  rw [k2] at hc218
  clear k1 k2 k3 h_b0 h_b1 h_b2 h_b3
  generalize en - a = dd at *
  have q : v172_8.toInt = 2 ∨ v172_8.toInt = 3 ∨ v172_8.toInt = 4 := by
    rw [own_i] at hc174
    simp only [Int32.reduceToInt] at hc174
    repeat' (first | omega | split at l8)
  rcases q with q | q | q
  · have e : v172_8 = 2 := by rw [own_i, q]; rfl
    rw [e]
    refine seqZ_2 ?_
    clear e
    simp only [own_i, own_l, own_ite, Int32.reduceToInt, ne_eq] at *
    simp only [seqN]
    repeat' (first | omega | split at l8 | split at l9 | split at h_s269_0 | split)
  · have e : v172_8 = 3 := by rw [own_i, q]; rfl
    rw [e]
    refine seqZ_3 ?_
    clear e
    simp only [own_i, own_l, own_ite, Int32.reduceToInt, ne_eq] at *
    simp only [seqN]
    repeat' (first | omega | split at l8 | split at l9 | split at h_s269_0 | split)
  · have e : v172_8 = 4 := by rw [own_i, q]; rfl
    rw [e]
    refine seqZ_4 ?_
    clear e
    simp only [own_i, own_l, own_ite, Int32.reduceToInt, ne_eq] at *
    simp only [seqN]
    repeat' (first | omega | split at l8 | split at l9 | split at h_s269_0 | split)
theorem own_exp_14 (w : Int32) (a : Int32) (en : Int32) (sur : Int32) (b0 : Int32) (h_b0 : b0 = (w &&& (255 : Int32))) (b1 : Int32) (h_b1 : b1 = ((ush w (8 : Int32)) &&& (255 : Int32))) (b2 : Int32) (h_b2 : b2 = ((ush w (16 : Int32)) &&& (255 : Int32))) (b3 : Int32) (h_b3 : b3 = ((ush w (24 : Int32)) &&& (255 : Int32))) (v172_8 : Int32) (h_v172_8 : v172_8 = (if (b0 &&& (224 : Int32)) = (192 : Int32) then (2 : Int32) else (if (b0 &&& (240 : Int32)) = (224 : Int32) then (3 : Int32) else (if (b0 &&& (248 : Int32)) = (240 : Int32) then (4 : Int32) else (0 : Int32))))) (v172_9 : Int32) (h_v172_9 : v172_9 = (if (b0 &&& (224 : Int32)) = (192 : Int32) then (((b0 &&& (31 : Int32)) <<< ((6 : Int32) &&& 31)) ||| (b1 &&& (63 : Int32))) else (if (b0 &&& (240 : Int32)) = (224 : Int32) then ((((b0 &&& (15 : Int32)) <<< ((12 : Int32) &&& 31)) ||| ((b1 &&& (63 : Int32)) <<< ((6 : Int32) &&& 31))) ||| (b2 &&& (63 : Int32))) else (if (b0 &&& (248 : Int32)) = (240 : Int32) then (((((b0 &&& (7 : Int32)) <<< ((18 : Int32) &&& 31)) ||| ((b1 &&& (63 : Int32)) <<< ((12 : Int32) &&& 31))) ||| ((b2 &&& (63 : Int32)) <<< ((6 : Int32) &&& 31))) ||| (b3 &&& (63 : Int32))) else (0 : Int32))))) (hc174 : ¬ (v172_8 = (0 : Int32))) (hc184 : ¬ ((en - a) < v172_8)) (hc198 : (b1 &&& (192 : Int32)) = (128 : Int32)) (hc206 : ¬ (v172_8 < (3 : Int32))) (hc218 : (b2 &&& (192 : Int32)) = (128 : Int32)) (hc226 : v172_8 < (4 : Int32)) (s269_0 : Int32) (h_s269_0 : s269_0 = (if v172_8 = (2 : Int32) then (128 : Int32) else (if v172_8 = (3 : Int32) then (2048 : Int32) else (65536 : Int32)))) (hc275 : ¬ (v172_9 < s269_0)) (hc282 : ¬ ((1114111 : Int32) < v172_9)) (hc288 : sur = (0 : Int32)) (hc295 : ¬ (v172_9 < (55296 : Int32))) (hc302 : ¬ ((57343 : Int32) < v172_9)) : (-1 : Int32) = (seqZ a (w &&& (255 : Int32)) ((ush w (8 : Int32)) &&& (255 : Int32)) ((ush w (16 : Int32)) &&& (255 : Int32)) ((ush w (24 : Int32)) &&& (255 : Int32)) (en - a) sur) := by
  obtain ⟨l8, l9⟩ := own_len b0 b1 b2 b3 v172_8 v172_9 (by rw [h_b0]; exact own_rng _) h_v172_8 h_v172_9
  clear h_v172_8 h_v172_9
  have r0 := own_rng w
  rw [← h_b0] at r0
  have r1 := own_rng (ush w 8)
  rw [← h_b1] at r1
  have r2 := own_rng (ush w 16)
  rw [← h_b2] at r2
  have r3 := own_rng (ush w 24)
  rw [← h_b3] at r3
  rw [← h_b0, ← h_b1, ← h_b2, ← h_b3]
  have k1 := (own_bits b1 r1.1 r1.2).2.2.2
  have k2 := (own_bits b2 r2.1 r2.2).2.2.2
  have k3 := (own_bits b3 r3.1 r3.2).2.2.2
  rw [k1] at hc198
  rw [k2] at hc218
  clear k1 k2 k3 h_b0 h_b1 h_b2 h_b3
  generalize en - a = dd at *
  refine seqZ_0 ?_
  simp only [own_i, own_l, own_ite, Int32.reduceToInt, ne_eq] at *
  simp only [seqN]
  repeat' (first | omega | split at l8 | split at l9 | split at h_s269_0 | split)
theorem own_exp_15 (w : Int32) (a : Int32) (en : Int32) (sur : Int32) (b0 : Int32) (h_b0 : b0 = (w &&& (255 : Int32))) (b1 : Int32) (h_b1 : b1 = ((ush w (8 : Int32)) &&& (255 : Int32))) (b2 : Int32) (h_b2 : b2 = ((ush w (16 : Int32)) &&& (255 : Int32))) (b3 : Int32) (h_b3 : b3 = ((ush w (24 : Int32)) &&& (255 : Int32))) (v172_8 : Int32) (h_v172_8 : v172_8 = (if (b0 &&& (224 : Int32)) = (192 : Int32) then (2 : Int32) else (if (b0 &&& (240 : Int32)) = (224 : Int32) then (3 : Int32) else (if (b0 &&& (248 : Int32)) = (240 : Int32) then (4 : Int32) else (0 : Int32))))) (v172_9 : Int32) (h_v172_9 : v172_9 = (if (b0 &&& (224 : Int32)) = (192 : Int32) then (((b0 &&& (31 : Int32)) <<< ((6 : Int32) &&& 31)) ||| (b1 &&& (63 : Int32))) else (if (b0 &&& (240 : Int32)) = (224 : Int32) then ((((b0 &&& (15 : Int32)) <<< ((12 : Int32) &&& 31)) ||| ((b1 &&& (63 : Int32)) <<< ((6 : Int32) &&& 31))) ||| (b2 &&& (63 : Int32))) else (if (b0 &&& (248 : Int32)) = (240 : Int32) then (((((b0 &&& (7 : Int32)) <<< ((18 : Int32) &&& 31)) ||| ((b1 &&& (63 : Int32)) <<< ((12 : Int32) &&& 31))) ||| ((b2 &&& (63 : Int32)) <<< ((6 : Int32) &&& 31))) ||| (b3 &&& (63 : Int32))) else (0 : Int32))))) (hc174 : ¬ (v172_8 = (0 : Int32))) (hc184 : ¬ ((en - a) < v172_8)) (hc198 : (b1 &&& (192 : Int32)) = (128 : Int32)) (hc206 : ¬ (v172_8 < (3 : Int32))) (hc218 : (b2 &&& (192 : Int32)) = (128 : Int32)) (hc226 : v172_8 < (4 : Int32)) (s269_0 : Int32) (h_s269_0 : s269_0 = (if v172_8 = (2 : Int32) then (128 : Int32) else (if v172_8 = (3 : Int32) then (2048 : Int32) else (65536 : Int32)))) (hc275 : ¬ (v172_9 < s269_0)) (hc282 : ¬ ((1114111 : Int32) < v172_9)) (hc288 : ¬ (sur = (0 : Int32))) : (a + v172_8) = (seqZ a (w &&& (255 : Int32)) ((ush w (8 : Int32)) &&& (255 : Int32)) ((ush w (16 : Int32)) &&& (255 : Int32)) ((ush w (24 : Int32)) &&& (255 : Int32)) (en - a) sur) := by
  obtain ⟨l8, l9⟩ := own_len b0 b1 b2 b3 v172_8 v172_9 (by rw [h_b0]; exact own_rng _) h_v172_8 h_v172_9
  clear h_v172_8 h_v172_9
  have r0 := own_rng w
  rw [← h_b0] at r0
  have r1 := own_rng (ush w 8)
  rw [← h_b1] at r1
  have r2 := own_rng (ush w 16)
  rw [← h_b2] at r2
  have r3 := own_rng (ush w 24)
  rw [← h_b3] at r3
  rw [← h_b0, ← h_b1, ← h_b2, ← h_b3]
  have k1 := (own_bits b1 r1.1 r1.2).2.2.2
  have k2 := (own_bits b2 r2.1 r2.2).2.2.2
  have k3 := (own_bits b3 r3.1 r3.2).2.2.2
  rw [k1] at hc198
  rw [k2] at hc218
  clear k1 k2 k3 h_b0 h_b1 h_b2 h_b3
  generalize en - a = dd at *
  have q : v172_8.toInt = 2 ∨ v172_8.toInt = 3 ∨ v172_8.toInt = 4 := by
    rw [own_i] at hc174
    simp only [Int32.reduceToInt] at hc174
    repeat' (first | omega | split at l8)
  rcases q with q | q | q
  · have e : v172_8 = 2 := by rw [own_i, q]; rfl
    rw [e]
    refine seqZ_2 ?_
    clear e
    simp only [own_i, own_l, own_ite, Int32.reduceToInt, ne_eq] at *
    simp only [seqN]
    repeat' (first | omega | split at l8 | split at l9 | split at h_s269_0 | split)
  · have e : v172_8 = 3 := by rw [own_i, q]; rfl
    rw [e]
    refine seqZ_3 ?_
    clear e
    simp only [own_i, own_l, own_ite, Int32.reduceToInt, ne_eq] at *
    simp only [seqN]
    repeat' (first | omega | split at l8 | split at l9 | split at h_s269_0 | split)
  · have e : v172_8 = 4 := by rw [own_i, q]; rfl
    rw [e]
    refine seqZ_4 ?_
    clear e
    simp only [own_i, own_l, own_ite, Int32.reduceToInt, ne_eq] at *
    simp only [seqN]
    repeat' (first | omega | split at l8 | split at l9 | split at h_s269_0 | split)
theorem own_exp_16 (w : Int32) (a : Int32) (en : Int32) (sur : Int32) (b0 : Int32) (h_b0 : b0 = (w &&& (255 : Int32))) (b1 : Int32) (h_b1 : b1 = ((ush w (8 : Int32)) &&& (255 : Int32))) (b2 : Int32) (h_b2 : b2 = ((ush w (16 : Int32)) &&& (255 : Int32))) (b3 : Int32) (h_b3 : b3 = ((ush w (24 : Int32)) &&& (255 : Int32))) (v172_8 : Int32) (h_v172_8 : v172_8 = (if (b0 &&& (224 : Int32)) = (192 : Int32) then (2 : Int32) else (if (b0 &&& (240 : Int32)) = (224 : Int32) then (3 : Int32) else (if (b0 &&& (248 : Int32)) = (240 : Int32) then (4 : Int32) else (0 : Int32))))) (v172_9 : Int32) (h_v172_9 : v172_9 = (if (b0 &&& (224 : Int32)) = (192 : Int32) then (((b0 &&& (31 : Int32)) <<< ((6 : Int32) &&& 31)) ||| (b1 &&& (63 : Int32))) else (if (b0 &&& (240 : Int32)) = (224 : Int32) then ((((b0 &&& (15 : Int32)) <<< ((12 : Int32) &&& 31)) ||| ((b1 &&& (63 : Int32)) <<< ((6 : Int32) &&& 31))) ||| (b2 &&& (63 : Int32))) else (if (b0 &&& (248 : Int32)) = (240 : Int32) then (((((b0 &&& (7 : Int32)) <<< ((18 : Int32) &&& 31)) ||| ((b1 &&& (63 : Int32)) <<< ((12 : Int32) &&& 31))) ||| ((b2 &&& (63 : Int32)) <<< ((6 : Int32) &&& 31))) ||| (b3 &&& (63 : Int32))) else (0 : Int32))))) (hc174 : ¬ (v172_8 = (0 : Int32))) (hc184 : ¬ ((en - a) < v172_8)) (hc198 : (b1 &&& (192 : Int32)) = (128 : Int32)) (hc206 : ¬ (v172_8 < (3 : Int32))) (hc218 : (b2 &&& (192 : Int32)) = (128 : Int32)) (hc226 : ¬ (v172_8 < (4 : Int32))) (hc238 : (b3 &&& (192 : Int32)) = (128 : Int32)) (s269_0 : Int32) (h_s269_0 : s269_0 = (if v172_8 = (2 : Int32) then (128 : Int32) else (if v172_8 = (3 : Int32) then (2048 : Int32) else (65536 : Int32)))) (hc275 : v172_9 < s269_0) : (-1 : Int32) = (seqZ a (w &&& (255 : Int32)) ((ush w (8 : Int32)) &&& (255 : Int32)) ((ush w (16 : Int32)) &&& (255 : Int32)) ((ush w (24 : Int32)) &&& (255 : Int32)) (en - a) sur) := by
  obtain ⟨l8, l9⟩ := own_len b0 b1 b2 b3 v172_8 v172_9 (by rw [h_b0]; exact own_rng _) h_v172_8 h_v172_9
  clear h_v172_8 h_v172_9
  have r0 := own_rng w
  rw [← h_b0] at r0
  have r1 := own_rng (ush w 8)
  rw [← h_b1] at r1
  have r2 := own_rng (ush w 16)
  rw [← h_b2] at r2
  have r3 := own_rng (ush w 24)
  rw [← h_b3] at r3
  rw [← h_b0, ← h_b1, ← h_b2, ← h_b3]
  have k1 := (own_bits b1 r1.1 r1.2).2.2.2
  have k2 := (own_bits b2 r2.1 r2.2).2.2.2
  have k3 := (own_bits b3 r3.1 r3.2).2.2.2
  rw [k1] at hc198
  rw [k2] at hc218
  rw [k3] at hc238
  clear k1 k2 k3 h_b0 h_b1 h_b2 h_b3
  generalize en - a = dd at *
  refine seqZ_0 ?_
  simp only [own_i, own_l, own_ite, Int32.reduceToInt, ne_eq] at *
  simp only [seqN]
  repeat' (first | omega | split at l8 | split at l9 | split at h_s269_0 | split)
theorem own_exp_17 (w : Int32) (a : Int32) (en : Int32) (sur : Int32) (b0 : Int32) (h_b0 : b0 = (w &&& (255 : Int32))) (b1 : Int32) (h_b1 : b1 = ((ush w (8 : Int32)) &&& (255 : Int32))) (b2 : Int32) (h_b2 : b2 = ((ush w (16 : Int32)) &&& (255 : Int32))) (b3 : Int32) (h_b3 : b3 = ((ush w (24 : Int32)) &&& (255 : Int32))) (v172_8 : Int32) (h_v172_8 : v172_8 = (if (b0 &&& (224 : Int32)) = (192 : Int32) then (2 : Int32) else (if (b0 &&& (240 : Int32)) = (224 : Int32) then (3 : Int32) else (if (b0 &&& (248 : Int32)) = (240 : Int32) then (4 : Int32) else (0 : Int32))))) (v172_9 : Int32) (h_v172_9 : v172_9 = (if (b0 &&& (224 : Int32)) = (192 : Int32) then (((b0 &&& (31 : Int32)) <<< ((6 : Int32) &&& 31)) ||| (b1 &&& (63 : Int32))) else (if (b0 &&& (240 : Int32)) = (224 : Int32) then ((((b0 &&& (15 : Int32)) <<< ((12 : Int32) &&& 31)) ||| ((b1 &&& (63 : Int32)) <<< ((6 : Int32) &&& 31))) ||| (b2 &&& (63 : Int32))) else (if (b0 &&& (248 : Int32)) = (240 : Int32) then (((((b0 &&& (7 : Int32)) <<< ((18 : Int32) &&& 31)) ||| ((b1 &&& (63 : Int32)) <<< ((12 : Int32) &&& 31))) ||| ((b2 &&& (63 : Int32)) <<< ((6 : Int32) &&& 31))) ||| (b3 &&& (63 : Int32))) else (0 : Int32))))) (hc174 : ¬ (v172_8 = (0 : Int32))) (hc184 : ¬ ((en - a) < v172_8)) (hc198 : (b1 &&& (192 : Int32)) = (128 : Int32)) (hc206 : ¬ (v172_8 < (3 : Int32))) (hc218 : (b2 &&& (192 : Int32)) = (128 : Int32)) (hc226 : ¬ (v172_8 < (4 : Int32))) (hc238 : (b3 &&& (192 : Int32)) = (128 : Int32)) (s269_0 : Int32) (h_s269_0 : s269_0 = (if v172_8 = (2 : Int32) then (128 : Int32) else (if v172_8 = (3 : Int32) then (2048 : Int32) else (65536 : Int32)))) (hc275 : ¬ (v172_9 < s269_0)) (hc282 : (1114111 : Int32) < v172_9) : (-1 : Int32) = (seqZ a (w &&& (255 : Int32)) ((ush w (8 : Int32)) &&& (255 : Int32)) ((ush w (16 : Int32)) &&& (255 : Int32)) ((ush w (24 : Int32)) &&& (255 : Int32)) (en - a) sur) := by
  obtain ⟨l8, l9⟩ := own_len b0 b1 b2 b3 v172_8 v172_9 (by rw [h_b0]; exact own_rng _) h_v172_8 h_v172_9
  clear h_v172_8 h_v172_9
  have r0 := own_rng w
  rw [← h_b0] at r0
  have r1 := own_rng (ush w 8)
  rw [← h_b1] at r1
  have r2 := own_rng (ush w 16)
  rw [← h_b2] at r2
  have r3 := own_rng (ush w 24)
  rw [← h_b3] at r3
  rw [← h_b0, ← h_b1, ← h_b2, ← h_b3]
  have k1 := (own_bits b1 r1.1 r1.2).2.2.2
  have k2 := (own_bits b2 r2.1 r2.2).2.2.2
  have k3 := (own_bits b3 r3.1 r3.2).2.2.2
  rw [k1] at hc198
  rw [k2] at hc218
  rw [k3] at hc238
  clear k1 k2 k3 h_b0 h_b1 h_b2 h_b3
  generalize en - a = dd at *
  refine seqZ_0 ?_
  simp only [own_i, own_l, own_ite, Int32.reduceToInt, ne_eq] at *
  simp only [seqN]
  repeat' (first | omega | split at l8 | split at l9 | split at h_s269_0 | split)
theorem own_exp_18 (w : Int32) (a : Int32) (en : Int32) (sur : Int32) (b0 : Int32) (h_b0 : b0 = (w &&& (255 : Int32))) (b1 : Int32) (h_b1 : b1 = ((ush w (8 : Int32)) &&& (255 : Int32))) (b2 : Int32) (h_b2 : b2 = ((ush w (16 : Int32)) &&& (255 : Int32))) (b3 : Int32) (h_b3 : b3 = ((ush w (24 : Int32)) &&& (255 : Int32))) (v172_8 : Int32) (h_v172_8 : v172_8 = (if (b0 &&& (224 : Int32)) = (192 : Int32) then (2 : Int32) else (if (b0 &&& (240 : Int32)) = (224 : Int32) then (3 : Int32) else (if (b0 &&& (248 : Int32)) = (240 : Int32) then (4 : Int32) else (0 : Int32))))) (v172_9 : Int32) (h_v172_9 : v172_9 = (if (b0 &&& (224 : Int32)) = (192 : Int32) then (((b0 &&& (31 : Int32)) <<< ((6 : Int32) &&& 31)) ||| (b1 &&& (63 : Int32))) else (if (b0 &&& (240 : Int32)) = (224 : Int32) then ((((b0 &&& (15 : Int32)) <<< ((12 : Int32) &&& 31)) ||| ((b1 &&& (63 : Int32)) <<< ((6 : Int32) &&& 31))) ||| (b2 &&& (63 : Int32))) else (if (b0 &&& (248 : Int32)) = (240 : Int32) then (((((b0 &&& (7 : Int32)) <<< ((18 : Int32) &&& 31)) ||| ((b1 &&& (63 : Int32)) <<< ((12 : Int32) &&& 31))) ||| ((b2 &&& (63 : Int32)) <<< ((6 : Int32) &&& 31))) ||| (b3 &&& (63 : Int32))) else (0 : Int32))))) (hc174 : ¬ (v172_8 = (0 : Int32))) (hc184 : ¬ ((en - a) < v172_8)) (hc198 : (b1 &&& (192 : Int32)) = (128 : Int32)) (hc206 : ¬ (v172_8 < (3 : Int32))) (hc218 : (b2 &&& (192 : Int32)) = (128 : Int32)) (hc226 : ¬ (v172_8 < (4 : Int32))) (hc238 : (b3 &&& (192 : Int32)) = (128 : Int32)) (s269_0 : Int32) (h_s269_0 : s269_0 = (if v172_8 = (2 : Int32) then (128 : Int32) else (if v172_8 = (3 : Int32) then (2048 : Int32) else (65536 : Int32)))) (hc275 : ¬ (v172_9 < s269_0)) (hc282 : ¬ ((1114111 : Int32) < v172_9)) (hc288 : sur = (0 : Int32)) (hc295 : v172_9 < (55296 : Int32)) : (a + v172_8) = (seqZ a (w &&& (255 : Int32)) ((ush w (8 : Int32)) &&& (255 : Int32)) ((ush w (16 : Int32)) &&& (255 : Int32)) ((ush w (24 : Int32)) &&& (255 : Int32)) (en - a) sur) := by
  obtain ⟨l8, l9⟩ := own_len b0 b1 b2 b3 v172_8 v172_9 (by rw [h_b0]; exact own_rng _) h_v172_8 h_v172_9
  clear h_v172_8 h_v172_9
  have r0 := own_rng w
  rw [← h_b0] at r0
  have r1 := own_rng (ush w 8)
  rw [← h_b1] at r1
  have r2 := own_rng (ush w 16)
  rw [← h_b2] at r2
  have r3 := own_rng (ush w 24)
  rw [← h_b3] at r3
  rw [← h_b0, ← h_b1, ← h_b2, ← h_b3]
  have k1 := (own_bits b1 r1.1 r1.2).2.2.2
  have k2 := (own_bits b2 r2.1 r2.2).2.2.2
  have k3 := (own_bits b3 r3.1 r3.2).2.2.2
  rw [k1] at hc198
  rw [k2] at hc218
  rw [k3] at hc238
  clear k1 k2 k3 h_b0 h_b1 h_b2 h_b3
  generalize en - a = dd at *
  have q : v172_8.toInt = 2 ∨ v172_8.toInt = 3 ∨ v172_8.toInt = 4 := by
    rw [own_i] at hc174
    simp only [Int32.reduceToInt] at hc174
    repeat' (first | omega | split at l8)
  rcases q with q | q | q
  · have e : v172_8 = 2 := by rw [own_i, q]; rfl
    rw [e]
    refine seqZ_2 ?_
    clear e
    simp only [own_i, own_l, own_ite, Int32.reduceToInt, ne_eq] at *
    simp only [seqN]
    repeat' (first | omega | split at l8 | split at l9 | split at h_s269_0 | split)
  · have e : v172_8 = 3 := by rw [own_i, q]; rfl
    rw [e]
    refine seqZ_3 ?_
    clear e
    simp only [own_i, own_l, own_ite, Int32.reduceToInt, ne_eq] at *
    simp only [seqN]
    repeat' (first | omega | split at l8 | split at l9 | split at h_s269_0 | split)
  · have e : v172_8 = 4 := by rw [own_i, q]; rfl
    rw [e]
    refine seqZ_4 ?_
    clear e
    simp only [own_i, own_l, own_ite, Int32.reduceToInt, ne_eq] at *
    simp only [seqN]
    repeat' (first | omega | split at l8 | split at l9 | split at h_s269_0 | split)
theorem own_exp_19 (w : Int32) (a : Int32) (en : Int32) (sur : Int32) (b0 : Int32) (h_b0 : b0 = (w &&& (255 : Int32))) (b1 : Int32) (h_b1 : b1 = ((ush w (8 : Int32)) &&& (255 : Int32))) (b2 : Int32) (h_b2 : b2 = ((ush w (16 : Int32)) &&& (255 : Int32))) (b3 : Int32) (h_b3 : b3 = ((ush w (24 : Int32)) &&& (255 : Int32))) (v172_8 : Int32) (h_v172_8 : v172_8 = (if (b0 &&& (224 : Int32)) = (192 : Int32) then (2 : Int32) else (if (b0 &&& (240 : Int32)) = (224 : Int32) then (3 : Int32) else (if (b0 &&& (248 : Int32)) = (240 : Int32) then (4 : Int32) else (0 : Int32))))) (v172_9 : Int32) (h_v172_9 : v172_9 = (if (b0 &&& (224 : Int32)) = (192 : Int32) then (((b0 &&& (31 : Int32)) <<< ((6 : Int32) &&& 31)) ||| (b1 &&& (63 : Int32))) else (if (b0 &&& (240 : Int32)) = (224 : Int32) then ((((b0 &&& (15 : Int32)) <<< ((12 : Int32) &&& 31)) ||| ((b1 &&& (63 : Int32)) <<< ((6 : Int32) &&& 31))) ||| (b2 &&& (63 : Int32))) else (if (b0 &&& (248 : Int32)) = (240 : Int32) then (((((b0 &&& (7 : Int32)) <<< ((18 : Int32) &&& 31)) ||| ((b1 &&& (63 : Int32)) <<< ((12 : Int32) &&& 31))) ||| ((b2 &&& (63 : Int32)) <<< ((6 : Int32) &&& 31))) ||| (b3 &&& (63 : Int32))) else (0 : Int32))))) (hc174 : ¬ (v172_8 = (0 : Int32))) (hc184 : ¬ ((en - a) < v172_8)) (hc198 : (b1 &&& (192 : Int32)) = (128 : Int32)) (hc206 : ¬ (v172_8 < (3 : Int32))) (hc218 : (b2 &&& (192 : Int32)) = (128 : Int32)) (hc226 : ¬ (v172_8 < (4 : Int32))) (hc238 : (b3 &&& (192 : Int32)) = (128 : Int32)) (s269_0 : Int32) (h_s269_0 : s269_0 = (if v172_8 = (2 : Int32) then (128 : Int32) else (if v172_8 = (3 : Int32) then (2048 : Int32) else (65536 : Int32)))) (hc275 : ¬ (v172_9 < s269_0)) (hc282 : ¬ ((1114111 : Int32) < v172_9)) (hc288 : sur = (0 : Int32)) (hc295 : ¬ (v172_9 < (55296 : Int32))) (hc302 : (57343 : Int32) < v172_9) : (a + v172_8) = (seqZ a (w &&& (255 : Int32)) ((ush w (8 : Int32)) &&& (255 : Int32)) ((ush w (16 : Int32)) &&& (255 : Int32)) ((ush w (24 : Int32)) &&& (255 : Int32)) (en - a) sur) := by
  obtain ⟨l8, l9⟩ := own_len b0 b1 b2 b3 v172_8 v172_9 (by rw [h_b0]; exact own_rng _) h_v172_8 h_v172_9
  clear h_v172_8 h_v172_9
  have r0 := own_rng w
  rw [← h_b0] at r0
  have r1 := own_rng (ush w 8)
  rw [← h_b1] at r1
  have r2 := own_rng (ush w 16)
  rw [← h_b2] at r2
  have r3 := own_rng (ush w 24)
  rw [← h_b3] at r3
  rw [← h_b0, ← h_b1, ← h_b2, ← h_b3]
  have k1 := (own_bits b1 r1.1 r1.2).2.2.2
  have k2 := (own_bits b2 r2.1 r2.2).2.2.2
  have k3 := (own_bits b3 r3.1 r3.2).2.2.2
  rw [k1] at hc198
  rw [k2] at hc218
  rw [k3] at hc238
  clear k1 k2 k3 h_b0 h_b1 h_b2 h_b3
  generalize en - a = dd at *
  have q : v172_8.toInt = 2 ∨ v172_8.toInt = 3 ∨ v172_8.toInt = 4 := by
    rw [own_i] at hc174
    simp only [Int32.reduceToInt] at hc174
    repeat' (first | omega | split at l8)
  rcases q with q | q | q
  · have e : v172_8 = 2 := by rw [own_i, q]; rfl
    rw [e]
    refine seqZ_2 ?_
    clear e
    simp only [own_i, own_l, own_ite, Int32.reduceToInt, ne_eq] at *
    simp only [seqN]
    repeat' (first | omega | split at l8 | split at l9 | split at h_s269_0 | split)
  · have e : v172_8 = 3 := by rw [own_i, q]; rfl
    rw [e]
    refine seqZ_3 ?_
    clear e
    simp only [own_i, own_l, own_ite, Int32.reduceToInt, ne_eq] at *
    simp only [seqN]
    repeat' (first | omega | split at l8 | split at l9 | split at h_s269_0 | split)
  · have e : v172_8 = 4 := by rw [own_i, q]; rfl
    rw [e]
    refine seqZ_4 ?_
    clear e
    simp only [own_i, own_l, own_ite, Int32.reduceToInt, ne_eq] at *
    simp only [seqN]
    repeat' (first | omega | split at l8 | split at l9 | split at h_s269_0 | split)
theorem own_exp_20 (w : Int32) (a : Int32) (en : Int32) (sur : Int32) (b0 : Int32) (h_b0 : b0 = (w &&& (255 : Int32))) (b1 : Int32) (h_b1 : b1 = ((ush w (8 : Int32)) &&& (255 : Int32))) (b2 : Int32) (h_b2 : b2 = ((ush w (16 : Int32)) &&& (255 : Int32))) (b3 : Int32) (h_b3 : b3 = ((ush w (24 : Int32)) &&& (255 : Int32))) (v172_8 : Int32) (h_v172_8 : v172_8 = (if (b0 &&& (224 : Int32)) = (192 : Int32) then (2 : Int32) else (if (b0 &&& (240 : Int32)) = (224 : Int32) then (3 : Int32) else (if (b0 &&& (248 : Int32)) = (240 : Int32) then (4 : Int32) else (0 : Int32))))) (v172_9 : Int32) (h_v172_9 : v172_9 = (if (b0 &&& (224 : Int32)) = (192 : Int32) then (((b0 &&& (31 : Int32)) <<< ((6 : Int32) &&& 31)) ||| (b1 &&& (63 : Int32))) else (if (b0 &&& (240 : Int32)) = (224 : Int32) then ((((b0 &&& (15 : Int32)) <<< ((12 : Int32) &&& 31)) ||| ((b1 &&& (63 : Int32)) <<< ((6 : Int32) &&& 31))) ||| (b2 &&& (63 : Int32))) else (if (b0 &&& (248 : Int32)) = (240 : Int32) then (((((b0 &&& (7 : Int32)) <<< ((18 : Int32) &&& 31)) ||| ((b1 &&& (63 : Int32)) <<< ((12 : Int32) &&& 31))) ||| ((b2 &&& (63 : Int32)) <<< ((6 : Int32) &&& 31))) ||| (b3 &&& (63 : Int32))) else (0 : Int32))))) (hc174 : ¬ (v172_8 = (0 : Int32))) (hc184 : ¬ ((en - a) < v172_8)) (hc198 : (b1 &&& (192 : Int32)) = (128 : Int32)) (hc206 : ¬ (v172_8 < (3 : Int32))) (hc218 : (b2 &&& (192 : Int32)) = (128 : Int32)) (hc226 : ¬ (v172_8 < (4 : Int32))) (hc238 : (b3 &&& (192 : Int32)) = (128 : Int32)) (s269_0 : Int32) (h_s269_0 : s269_0 = (if v172_8 = (2 : Int32) then (128 : Int32) else (if v172_8 = (3 : Int32) then (2048 : Int32) else (65536 : Int32)))) (hc275 : ¬ (v172_9 < s269_0)) (hc282 : ¬ ((1114111 : Int32) < v172_9)) (hc288 : sur = (0 : Int32)) (hc295 : ¬ (v172_9 < (55296 : Int32))) (hc302 : ¬ ((57343 : Int32) < v172_9)) : (-1 : Int32) = (seqZ a (w &&& (255 : Int32)) ((ush w (8 : Int32)) &&& (255 : Int32)) ((ush w (16 : Int32)) &&& (255 : Int32)) ((ush w (24 : Int32)) &&& (255 : Int32)) (en - a) sur) := by
  obtain ⟨l8, l9⟩ := own_len b0 b1 b2 b3 v172_8 v172_9 (by rw [h_b0]; exact own_rng _) h_v172_8 h_v172_9
  clear h_v172_8 h_v172_9
  have r0 := own_rng w
  rw [← h_b0] at r0
  have r1 := own_rng (ush w 8)
  rw [← h_b1] at r1
  have r2 := own_rng (ush w 16)
  rw [← h_b2] at r2
  have r3 := own_rng (ush w 24)
  rw [← h_b3] at r3
  rw [← h_b0, ← h_b1, ← h_b2, ← h_b3]
  have k1 := (own_bits b1 r1.1 r1.2).2.2.2
  have k2 := (own_bits b2 r2.1 r2.2).2.2.2
  have k3 := (own_bits b3 r3.1 r3.2).2.2.2
  rw [k1] at hc198
  rw [k2] at hc218
  rw [k3] at hc238
  clear k1 k2 k3 h_b0 h_b1 h_b2 h_b3
  generalize en - a = dd at *
  refine seqZ_0 ?_
  simp only [own_i, own_l, own_ite, Int32.reduceToInt, ne_eq] at *
  simp only [seqN]
  repeat' (first | omega | split at l8 | split at l9 | split at h_s269_0 | split)
theorem own_exp_21 (w : Int32) (a : Int32) (en : Int32) (sur : Int32) (b0 : Int32) (h_b0 : b0 = (w &&& (255 : Int32))) (b1 : Int32) (h_b1 : b1 = ((ush w (8 : Int32)) &&& (255 : Int32))) (b2 : Int32) (h_b2 : b2 = ((ush w (16 : Int32)) &&& (255 : Int32))) (b3 : Int32) (h_b3 : b3 = ((ush w (24 : Int32)) &&& (255 : Int32))) (v172_8 : Int32) (h_v172_8 : v172_8 = (if (b0 &&& (224 : Int32)) = (192 : Int32) then (2 : Int32) else (if (b0 &&& (240 : Int32)) = (224 : Int32) then (3 : Int32) else (if (b0 &&& (248 : Int32)) = (240 : Int32) then (4 : Int32) else (0 : Int32))))) (v172_9 : Int32) (h_v172_9 : v172_9 = (if (b0 &&& (224 : Int32)) = (192 : Int32) then (((b0 &&& (31 : Int32)) <<< ((6 : Int32) &&& 31)) ||| (b1 &&& (63 : Int32))) else (if (b0 &&& (240 : Int32)) = (224 : Int32) then ((((b0 &&& (15 : Int32)) <<< ((12 : Int32) &&& 31)) ||| ((b1 &&& (63 : Int32)) <<< ((6 : Int32) &&& 31))) ||| (b2 &&& (63 : Int32))) else (if (b0 &&& (248 : Int32)) = (240 : Int32) then (((((b0 &&& (7 : Int32)) <<< ((18 : Int32) &&& 31)) ||| ((b1 &&& (63 : Int32)) <<< ((12 : Int32) &&& 31))) ||| ((b2 &&& (63 : Int32)) <<< ((6 : Int32) &&& 31))) ||| (b3 &&& (63 : Int32))) else (0 : Int32))))) (hc174 : ¬ (v172_8 = (0 : Int32))) (hc184 : ¬ ((en - a) < v172_8)) (hc198 : (b1 &&& (192 : Int32)) = (128 : Int32)) (hc206 : ¬ (v172_8 < (3 : Int32))) (hc218 : (b2 &&& (192 : Int32)) = (128 : Int32)) (hc226 : ¬ (v172_8 < (4 : Int32))) (hc238 : (b3 &&& (192 : Int32)) = (128 : Int32)) (s269_0 : Int32) (h_s269_0 : s269_0 = (if v172_8 = (2 : Int32) then (128 : Int32) else (if v172_8 = (3 : Int32) then (2048 : Int32) else (65536 : Int32)))) (hc275 : ¬ (v172_9 < s269_0)) (hc282 : ¬ ((1114111 : Int32) < v172_9)) (hc288 : ¬ (sur = (0 : Int32))) : (a + v172_8) = (seqZ a (w &&& (255 : Int32)) ((ush w (8 : Int32)) &&& (255 : Int32)) ((ush w (16 : Int32)) &&& (255 : Int32)) ((ush w (24 : Int32)) &&& (255 : Int32)) (en - a) sur) := by
  obtain ⟨l8, l9⟩ := own_len b0 b1 b2 b3 v172_8 v172_9 (by rw [h_b0]; exact own_rng _) h_v172_8 h_v172_9
  clear h_v172_8 h_v172_9
  have r0 := own_rng w
  rw [← h_b0] at r0
  have r1 := own_rng (ush w 8)
  rw [← h_b1] at r1
  have r2 := own_rng (ush w 16)
  rw [← h_b2] at r2
  have r3 := own_rng (ush w 24)
  rw [← h_b3] at r3
  rw [← h_b0, ← h_b1, ← h_b2, ← h_b3]
  have k1 := (own_bits b1 r1.1 r1.2).2.2.2
  have k2 := (own_bits b2 r2.1 r2.2).2.2.2
  have k3 := (own_bits b3 r3.1 r3.2).2.2.2
  rw [k1] at hc198
  rw [k2] at hc218
  rw [k3] at hc238
  clear k1 k2 k3 h_b0 h_b1 h_b2 h_b3
  generalize en - a = dd at *
  have q : v172_8.toInt = 2 ∨ v172_8.toInt = 3 ∨ v172_8.toInt = 4 := by
    rw [own_i] at hc174
    simp only [Int32.reduceToInt] at hc174
    repeat' (first | omega | split at l8)
  rcases q with q | q | q
  · have e : v172_8 = 2 := by rw [own_i, q]; rfl
    rw [e]
    refine seqZ_2 ?_
    clear e
    simp only [own_i, own_l, own_ite, Int32.reduceToInt, ne_eq] at *
    simp only [seqN]
    repeat' (first | omega | split at l8 | split at l9 | split at h_s269_0 | split)
  · have e : v172_8 = 3 := by rw [own_i, q]; rfl
    rw [e]
    refine seqZ_3 ?_
    clear e
    simp only [own_i, own_l, own_ite, Int32.reduceToInt, ne_eq] at *
    simp only [seqN]
    repeat' (first | omega | split at l8 | split at l9 | split at h_s269_0 | split)
  · have e : v172_8 = 4 := by rw [own_i, q]; rfl
    rw [e]
    refine seqZ_4 ?_
    clear e
    simp only [own_i, own_l, own_ite, Int32.reduceToInt, ne_eq] at *
    simp only [seqN]
    repeat' (first | omega | split at l8 | split at l9 | split at h_s269_0 | split)
theorem own_exp_22 (w : Int32) (a : Int32) (en : Int32) (sur : Int32) (b0 : Int32) (h_b0 : b0 = (w &&& (255 : Int32))) (b1 : Int32) (h_b1 : b1 = ((ush w (8 : Int32)) &&& (255 : Int32))) (b2 : Int32) (h_b2 : b2 = ((ush w (16 : Int32)) &&& (255 : Int32))) (b3 : Int32) (h_b3 : b3 = ((ush w (24 : Int32)) &&& (255 : Int32))) (v172_8 : Int32) (h_v172_8 : v172_8 = (if (b0 &&& (224 : Int32)) = (192 : Int32) then (2 : Int32) else (if (b0 &&& (240 : Int32)) = (224 : Int32) then (3 : Int32) else (if (b0 &&& (248 : Int32)) = (240 : Int32) then (4 : Int32) else (0 : Int32))))) (v172_9 : Int32) (h_v172_9 : v172_9 = (if (b0 &&& (224 : Int32)) = (192 : Int32) then (((b0 &&& (31 : Int32)) <<< ((6 : Int32) &&& 31)) ||| (b1 &&& (63 : Int32))) else (if (b0 &&& (240 : Int32)) = (224 : Int32) then ((((b0 &&& (15 : Int32)) <<< ((12 : Int32) &&& 31)) ||| ((b1 &&& (63 : Int32)) <<< ((6 : Int32) &&& 31))) ||| (b2 &&& (63 : Int32))) else (if (b0 &&& (248 : Int32)) = (240 : Int32) then (((((b0 &&& (7 : Int32)) <<< ((18 : Int32) &&& 31)) ||| ((b1 &&& (63 : Int32)) <<< ((12 : Int32) &&& 31))) ||| ((b2 &&& (63 : Int32)) <<< ((6 : Int32) &&& 31))) ||| (b3 &&& (63 : Int32))) else (0 : Int32))))) (hc174 : ¬ (v172_8 = (0 : Int32))) (hc184 : ¬ ((en - a) < v172_8)) (hc198 : (b1 &&& (192 : Int32)) = (128 : Int32)) (hc206 : ¬ (v172_8 < (3 : Int32))) (hc218 : (b2 &&& (192 : Int32)) = (128 : Int32)) (hc226 : ¬ (v172_8 < (4 : Int32))) (hc238 : ¬ ((b3 &&& (192 : Int32)) = (128 : Int32))) : (-1 : Int32) = (seqZ a (w &&& (255 : Int32)) ((ush w (8 : Int32)) &&& (255 : Int32)) ((ush w (16 : Int32)) &&& (255 : Int32)) ((ush w (24 : Int32)) &&& (255 : Int32)) (en - a) sur) := by
  obtain ⟨l8, l9⟩ := own_len b0 b1 b2 b3 v172_8 v172_9 (by rw [h_b0]; exact own_rng _) h_v172_8 h_v172_9
  clear h_v172_8 h_v172_9
  have r0 := own_rng w
  rw [← h_b0] at r0
  have r1 := own_rng (ush w 8)
  rw [← h_b1] at r1
  have r2 := own_rng (ush w 16)
  rw [← h_b2] at r2
  have r3 := own_rng (ush w 24)
  rw [← h_b3] at r3
  rw [← h_b0, ← h_b1, ← h_b2, ← h_b3]
  have k1 := (own_bits b1 r1.1 r1.2).2.2.2
  have k2 := (own_bits b2 r2.1 r2.2).2.2.2
  have k3 := (own_bits b3 r3.1 r3.2).2.2.2
  rw [k1] at hc198
  rw [k2] at hc218
  rw [k3] at hc238
  clear k1 k2 k3 h_b0 h_b1 h_b2 h_b3
  generalize en - a = dd at *
  refine seqZ_0 ?_
  simp only [own_i, own_l, own_ite, Int32.reduceToInt, ne_eq] at *
  simp only [seqN]
  repeat' (first | omega | split at l8 | split at l9 | split)
theorem own_exp_23 (w : Int32) (a : Int32) (en : Int32) (sur : Int32) (b0 : Int32) (h_b0 : b0 = (w &&& (255 : Int32))) (b1 : Int32) (h_b1 : b1 = ((ush w (8 : Int32)) &&& (255 : Int32))) (b2 : Int32) (h_b2 : b2 = ((ush w (16 : Int32)) &&& (255 : Int32))) (b3 : Int32) (h_b3 : b3 = ((ush w (24 : Int32)) &&& (255 : Int32))) (v172_8 : Int32) (h_v172_8 : v172_8 = (if (b0 &&& (224 : Int32)) = (192 : Int32) then (2 : Int32) else (if (b0 &&& (240 : Int32)) = (224 : Int32) then (3 : Int32) else (if (b0 &&& (248 : Int32)) = (240 : Int32) then (4 : Int32) else (0 : Int32))))) (v172_9 : Int32) (h_v172_9 : v172_9 = (if (b0 &&& (224 : Int32)) = (192 : Int32) then (((b0 &&& (31 : Int32)) <<< ((6 : Int32) &&& 31)) ||| (b1 &&& (63 : Int32))) else (if (b0 &&& (240 : Int32)) = (224 : Int32) then ((((b0 &&& (15 : Int32)) <<< ((12 : Int32) &&& 31)) ||| ((b1 &&& (63 : Int32)) <<< ((6 : Int32) &&& 31))) ||| (b2 &&& (63 : Int32))) else (if (b0 &&& (248 : Int32)) = (240 : Int32) then (((((b0 &&& (7 : Int32)) <<< ((18 : Int32) &&& 31)) ||| ((b1 &&& (63 : Int32)) <<< ((12 : Int32) &&& 31))) ||| ((b2 &&& (63 : Int32)) <<< ((6 : Int32) &&& 31))) ||| (b3 &&& (63 : Int32))) else (0 : Int32))))) (hc174 : ¬ (v172_8 = (0 : Int32))) (hc184 : ¬ ((en - a) < v172_8)) (hc198 : (b1 &&& (192 : Int32)) = (128 : Int32)) (hc206 : ¬ (v172_8 < (3 : Int32))) (hc218 : ¬ ((b2 &&& (192 : Int32)) = (128 : Int32))) : (-1 : Int32) = (seqZ a (w &&& (255 : Int32)) ((ush w (8 : Int32)) &&& (255 : Int32)) ((ush w (16 : Int32)) &&& (255 : Int32)) ((ush w (24 : Int32)) &&& (255 : Int32)) (en - a) sur) := by
  obtain ⟨l8, l9⟩ := own_len b0 b1 b2 b3 v172_8 v172_9 (by rw [h_b0]; exact own_rng _) h_v172_8 h_v172_9
  clear h_v172_8 h_v172_9
  have r0 := own_rng w
  rw [← h_b0] at r0
  have r1 := own_rng (ush w 8)
  rw [← h_b1] at r1
  have r2 := own_rng (ush w 16)
  rw [← h_b2] at r2
  have r3 := own_rng (ush w 24)
  rw [← h_b3] at r3
  rw [← h_b0, ← h_b1, ← h_b2, ← h_b3]
  have k1 := (own_bits b1 r1.1 r1.2).2.2.2
  have k2 := (own_bits b2 r2.1 r2.2).2.2.2
  have k3 := (own_bits b3 r3.1 r3.2).2.2.2
  rw [k1] at hc198
  rw [k2] at hc218
  clear k1 k2 k3 h_b0 h_b1 h_b2 h_b3
  generalize en - a = dd at *
  refine seqZ_0 ?_
  simp only [own_i, own_l, own_ite, Int32.reduceToInt, ne_eq] at *
  simp only [seqN]
  repeat' (first | omega | split at l8 | split at l9 | split)
theorem own_exp_24 (w : Int32) (a : Int32) (en : Int32) (sur : Int32) (b0 : Int32) (h_b0 : b0 = (w &&& (255 : Int32))) (b1 : Int32) (h_b1 : b1 = ((ush w (8 : Int32)) &&& (255 : Int32))) (b2 : Int32) (h_b2 : b2 = ((ush w (16 : Int32)) &&& (255 : Int32))) (b3 : Int32) (h_b3 : b3 = ((ush w (24 : Int32)) &&& (255 : Int32))) (v172_8 : Int32) (h_v172_8 : v172_8 = (if (b0 &&& (224 : Int32)) = (192 : Int32) then (2 : Int32) else (if (b0 &&& (240 : Int32)) = (224 : Int32) then (3 : Int32) else (if (b0 &&& (248 : Int32)) = (240 : Int32) then (4 : Int32) else (0 : Int32))))) (v172_9 : Int32) (h_v172_9 : v172_9 = (if (b0 &&& (224 : Int32)) = (192 : Int32) then (((b0 &&& (31 : Int32)) <<< ((6 : Int32) &&& 31)) ||| (b1 &&& (63 : Int32))) else (if (b0 &&& (240 : Int32)) = (224 : Int32) then ((((b0 &&& (15 : Int32)) <<< ((12 : Int32) &&& 31)) ||| ((b1 &&& (63 : Int32)) <<< ((6 : Int32) &&& 31))) ||| (b2 &&& (63 : Int32))) else (if (b0 &&& (248 : Int32)) = (240 : Int32) then (((((b0 &&& (7 : Int32)) <<< ((18 : Int32) &&& 31)) ||| ((b1 &&& (63 : Int32)) <<< ((12 : Int32) &&& 31))) ||| ((b2 &&& (63 : Int32)) <<< ((6 : Int32) &&& 31))) ||| (b3 &&& (63 : Int32))) else (0 : Int32))))) (hc174 : ¬ (v172_8 = (0 : Int32))) (hc184 : ¬ ((en - a) < v172_8)) (hc198 : ¬ ((b1 &&& (192 : Int32)) = (128 : Int32))) : (-1 : Int32) = (seqZ a (w &&& (255 : Int32)) ((ush w (8 : Int32)) &&& (255 : Int32)) ((ush w (16 : Int32)) &&& (255 : Int32)) ((ush w (24 : Int32)) &&& (255 : Int32)) (en - a) sur) := by
  obtain ⟨l8, l9⟩ := own_len b0 b1 b2 b3 v172_8 v172_9 (by rw [h_b0]; exact own_rng _) h_v172_8 h_v172_9
  clear h_v172_8 h_v172_9
  have r0 := own_rng w
  rw [← h_b0] at r0
  have r1 := own_rng (ush w 8)
  rw [← h_b1] at r1
  have r2 := own_rng (ush w 16)
  rw [← h_b2] at r2
  have r3 := own_rng (ush w 24)
  rw [← h_b3] at r3
  rw [← h_b0, ← h_b1, ← h_b2, ← h_b3]
  have k1 := (own_bits b1 r1.1 r1.2).2.2.2
  have k2 := (own_bits b2 r2.1 r2.2).2.2.2
  have k3 := (own_bits b3 r3.1 r3.2).2.2.2
  rw [k1] at hc198
  clear k1 k2 k3 h_b0 h_b1 h_b2 h_b3
  generalize en - a = dd at *
  refine seqZ_0 ?_
  simp only [own_i, own_l, own_ite, Int32.reduceToInt, ne_eq] at *
  simp only [seqN]
  repeat' (first | omega | split at l8 | split at l9 | split)
theorem pn_exp : plainFor (⟨"com/example/stamp_to_key/stamptokey/Utf8SequenceEndPinLaw", "expected", "(IIIZ)I"⟩ : MethodName) = true := by first | (refine plainFor_of_name ?_; simp [plainName, overriddenIn]; done) | decide +kernel
set_option maxRecDepth 65536 in
set_option maxHeartbeats 40000000 in
theorem c_exp (l : Launch) (Z : State) (a0 : Array Value) (hw : ∀ d ∈ tables_1, d.before a0 Z = true) (w : Int32) (a : Int32) (en : Int32) (sur : Int32) (h0 : Heap) (n0 : Nat) (Z0 : n0 ≤ h0.size) :
    Con l Z (⟨"com/example/stamp_to_key/stamptokey/Utf8SequenceEndPinLaw", "expected", "(IIIZ)I"⟩ : MethodName) method_3_code 11 (some .int) ({ frames := 0, cells := 0, slots := 0, locals := 0 } : Room) #[.int w, .int a, .int en, .int sur] h0 n0 (Q_exp Z w a en sur h0) [] := by
  refine con_of_wp pn_exp (L0 := #[.val (.int w), .val (.int a), .val (.int en), .val (.int sur), .unset, .unset, .unset, .unset, .unset, .unset, .unset]) (fun m => by first | (simp [entryFrame, mkF, argsToLocals, Value.category]; done) | rfl) (fun X hl ok => ?_)
  subst hl
  have hK : Konst Z a0 "com/example/stamp_to_key/stamptokey/Utf8SequenceEndPinLaw" k_exp := ⟨Or.inl ⟨_, rfl, wd hw 9 rfl⟩, ⟨Or.inl ⟨_, rfl, wd hw 10 rfl⟩, ⟨Or.inl ⟨_, rfl, wd hw 11 rfl⟩, ⟨Or.inl ⟨_, rfl, wd hw 12 rfl⟩, trivial⟩⟩⟩⟩
  refine wp_run ok hK (B := [(0, .iload_n 0, false), (1, .sipush 255, false), (4, .iand, false), (5, .istore 4, false)]) (by decide +kernel) (ps := []) (pc' := 7) (L' := #[.val (.int w), .val (.int a), .val (.int en), .val (.int sur), .val (.int (w &&& (255 : Int32))), .unset, .unset, .unset, .unset, .unset, .unset]) (S' := []) rfl trivial ?_
  obtain ⟨b0, h_b0⟩ : ∃ z : Int32, z = (w &&& (255 : Int32)) := ⟨_, rfl⟩
  rw [← h_b0]
  refine wp_run ok hK (B := [(7, .iload_n 0, false), (8, .bipush 8, false), (10, .iushr, false), (11, .sipush 255, false), (14, .iand, false), (15, .istore 5, false)]) (by decide +kernel) (ps := []) (pc' := 17) (L' := #[.val (.int w), .val (.int a), .val (.int en), .val (.int sur), .val (.int b0), .val (.int ((ush w (8 : Int32)) &&& (255 : Int32))), .unset, .unset, .unset, .unset, .unset]) (S' := []) rfl trivial ?_
  obtain ⟨b1, h_b1⟩ : ∃ z : Int32, z = ((ush w (8 : Int32)) &&& (255 : Int32)) := ⟨_, rfl⟩
  rw [← h_b1]
  refine wp_run ok hK (B := [(17, .iload_n 0, false), (18, .bipush 16, false), (20, .iushr, false), (21, .sipush 255, false), (24, .iand, false), (25, .istore 6, false)]) (by decide +kernel) (ps := []) (pc' := 27) (L' := #[.val (.int w), .val (.int a), .val (.int en), .val (.int sur), .val (.int b0), .val (.int b1), .val (.int ((ush w (16 : Int32)) &&& (255 : Int32))), .unset, .unset, .unset, .unset]) (S' := []) rfl trivial ?_
  obtain ⟨b2, h_b2⟩ : ∃ z : Int32, z = ((ush w (16 : Int32)) &&& (255 : Int32)) := ⟨_, rfl⟩
  rw [← h_b2]
  refine wp_run ok hK (B := [(27, .iload_n 0, false), (28, .bipush 24, false), (30, .iushr, false), (31, .sipush 255, false), (34, .iand, false), (35, .istore 7, false)]) (by decide +kernel) (ps := []) (pc' := 37) (L' := #[.val (.int w), .val (.int a), .val (.int en), .val (.int sur), .val (.int b0), .val (.int b1), .val (.int b2), .val (.int ((ush w (24 : Int32)) &&& (255 : Int32))), .unset, .unset, .unset]) (S' := []) rfl trivial ?_
  obtain ⟨b3, h_b3⟩ : ∃ z : Int32, z = ((ush w (24 : Int32)) &&& (255 : Int32)) := ⟨_, rfl⟩
  rw [← h_b3]
  refine wp_run ok hK (B := [(37, .iload 4, false), (39, .sipush 224, false), (42, .iand, false), (43, .sipush 192, false)]) (by decide +kernel) (ps := []) (pc' := 46) (L' := #[.val (.int w), .val (.int a), .val (.int en), .val (.int sur), .val (.int b0), .val (.int b1), .val (.int b2), .val (.int b3), .unset, .unset, .unset]) (S' := [.int (192 : Int32), .int (b0 &&& (224 : Int32))]) rfl trivial ?_
  have J172_4 : ∀ (v172_8 : Int32) (v172_9 : Int32) (h_v172_8 : v172_8 = (if (b0 &&& (224 : Int32)) = (192 : Int32) then (2 : Int32) else (if (b0 &&& (240 : Int32)) = (224 : Int32) then (3 : Int32) else (if (b0 &&& (248 : Int32)) = (240 : Int32) then (4 : Int32) else (0 : Int32))))) (h_v172_9 : v172_9 = (if (b0 &&& (224 : Int32)) = (192 : Int32) then (((b0 &&& (31 : Int32)) <<< ((6 : Int32) &&& 31)) ||| (b1 &&& (63 : Int32))) else (if (b0 &&& (240 : Int32)) = (224 : Int32) then ((((b0 &&& (15 : Int32)) <<< ((12 : Int32) &&& 31)) ||| ((b1 &&& (63 : Int32)) <<< ((6 : Int32) &&& 31))) ||| (b2 &&& (63 : Int32))) else (if (b0 &&& (248 : Int32)) = (240 : Int32) then (((((b0 &&& (7 : Int32)) <<< ((18 : Int32) &&& 31)) ||| ((b1 &&& (63 : Int32)) <<< ((12 : Int32) &&& 31))) ||| ((b2 &&& (63 : Int32)) <<< ((6 : Int32) &&& 31))) ||| (b3 &&& (63 : Int32))) else (0 : Int32))))), WP X n0 (Q_exp Z w a en sur h0) h0 0 0 172 #[.val (.int w), .val (.int a), .val (.int en), .val (.int sur), .val (.int b0), .val (.int b1), .val (.int b2), .val (.int b3), .val (.int v172_8), .val (.int v172_9), .unset] [] := by
    intro v172_8 v172_9 h_v172_8 h_v172_9
    refine wp_run ok hK (B := [(172, .iload 8, false)]) (by decide +kernel) (ps := []) (pc' := 174) (L' := #[.val (.int w), .val (.int a), .val (.int en), .val (.int sur), .val (.int b0), .val (.int b1), .val (.int b2), .val (.int b3), .val (.int v172_8), .val (.int v172_9), .unset]) (S' := [.int v172_8]) rfl trivial ?_
    by_cases hc174 : v172_8 = (0 : Int32)
    · refine wp_run ok hK (B := [(174, .ifCond .ne 5, false)]) (by decide +kernel) (ps := [Op.ifCond.holds .ne v172_8 = false]) (pc' := 177) (L' := #[.val (.int w), .val (.int a), .val (.int en), .val (.int sur), .val (.int b0), .val (.int b1), .val (.int b2), .val (.int b3), .val (.int v172_8), .val (.int v172_9), .unset]) (S' := []) rfl ⟨(XT.i0_ne_f hc174), trivial⟩ ?_
      refine wp_run ok hK (B := [(177, .iconst (-1), false)]) (by decide +kernel) (ps := []) (pc' := 178) (L' := #[.val (.int w), .val (.int a), .val (.int en), .val (.int sur), .val (.int b0), .val (.int b1), .val (.int b2), .val (.int b3), .val (.int v172_8), .val (.int v172_9), .unset]) (S' := [.int (-1 : Int32)]) rfl trivial ?_
      refine wp_retI ok (by decide +kernel) (by decide) (by decide) ?_
      exact ⟨congrArg (fun z => some (Value.int z)) (own_exp_1 w a en sur b0 h_b0 b1 h_b1 b2 h_b2 b3 h_b3 v172_8 h_v172_8 v172_9 h_v172_9 hc174), rfl⟩
    · refine wp_run ok hK (B := [(174, .ifCond .ne 5, true)]) (by decide +kernel) (ps := [Op.ifCond.holds .ne v172_8 = true]) (pc' := 179) (L' := #[.val (.int w), .val (.int a), .val (.int en), .val (.int sur), .val (.int b0), .val (.int b1), .val (.int b2), .val (.int b3), .val (.int v172_8), .val (.int v172_9), .unset]) (S' := []) rfl ⟨(XT.i0_ne_t hc174), trivial⟩ ?_
      refine wp_run ok hK (B := [(179, .iload_n 2, false), (180, .iload_n 1, false), (181, .isub, false), (182, .iload 8, false)]) (by decide +kernel) (ps := []) (pc' := 184) (L' := #[.val (.int w), .val (.int a), .val (.int en), .val (.int sur), .val (.int b0), .val (.int b1), .val (.int b2), .val (.int b3), .val (.int v172_8), .val (.int v172_9), .unset]) (S' := [.int v172_8, .int (en - a)]) rfl trivial ?_
      by_cases hc184 : (en - a) < v172_8
      · refine wp_run ok hK (B := [(184, .if_icmp .ge 5, false)]) (by decide +kernel) (ps := [Op.if_icmp.holds .ge (en - a) v172_8 = false]) (pc' := 187) (L' := #[.val (.int w), .val (.int a), .val (.int en), .val (.int sur), .val (.int b0), .val (.int b1), .val (.int b2), .val (.int b3), .val (.int v172_8), .val (.int v172_9), .unset]) (S' := []) rfl ⟨(XT.ii_ge_f hc184), trivial⟩ ?_
        refine wp_run ok hK (B := [(187, .iconst (-1), false)]) (by decide +kernel) (ps := []) (pc' := 188) (L' := #[.val (.int w), .val (.int a), .val (.int en), .val (.int sur), .val (.int b0), .val (.int b1), .val (.int b2), .val (.int b3), .val (.int v172_8), .val (.int v172_9), .unset]) (S' := [.int (-1 : Int32)]) rfl trivial ?_
        refine wp_retI ok (by decide +kernel) (by decide) (by decide) ?_
        exact ⟨congrArg (fun z => some (Value.int z)) (own_exp_2 w a en sur b0 h_b0 b1 h_b1 b2 h_b2 b3 h_b3 v172_8 h_v172_8 v172_9 h_v172_9 hc174 hc184), rfl⟩
      · refine wp_run ok hK (B := [(184, .if_icmp .ge 5, true)]) (by decide +kernel) (ps := [Op.if_icmp.holds .ge (en - a) v172_8 = true]) (pc' := 189) (L' := #[.val (.int w), .val (.int a), .val (.int en), .val (.int sur), .val (.int b0), .val (.int b1), .val (.int b2), .val (.int b3), .val (.int v172_8), .val (.int v172_9), .unset]) (S' := []) rfl ⟨(XT.ii_ge_t hc184), trivial⟩ ?_
        refine wp_run ok hK (B := [(189, .iload 5, false), (191, .sipush 192, false), (194, .iand, false), (195, .sipush 128, false)]) (by decide +kernel) (ps := []) (pc' := 198) (L' := #[.val (.int w), .val (.int a), .val (.int en), .val (.int sur), .val (.int b0), .val (.int b1), .val (.int b2), .val (.int b3), .val (.int v172_8), .val (.int v172_9), .unset]) (S' := [.int (128 : Int32), .int (b1 &&& (192 : Int32))]) rfl trivial ?_
        by_cases hc198 : (b1 &&& (192 : Int32)) = (128 : Int32)
        · refine wp_run ok hK (B := [(198, .if_icmp .eq 5, true)]) (by decide +kernel) (ps := [Op.if_icmp.holds .eq (b1 &&& (192 : Int32)) (128 : Int32) = true]) (pc' := 203) (L' := #[.val (.int w), .val (.int a), .val (.int en), .val (.int sur), .val (.int b0), .val (.int b1), .val (.int b2), .val (.int b3), .val (.int v172_8), .val (.int v172_9), .unset]) (S' := []) rfl ⟨(XT.ii_eq_t hc198), trivial⟩ ?_
          refine wp_run ok hK (B := [(203, .iload 8, false), (205, .iconst 3, false)]) (by decide +kernel) (ps := []) (pc' := 206) (L' := #[.val (.int w), .val (.int a), .val (.int en), .val (.int sur), .val (.int b0), .val (.int b1), .val (.int b2), .val (.int b3), .val (.int v172_8), .val (.int v172_9), .unset]) (S' := [.int (3 : Int32), .int v172_8]) rfl trivial ?_
          by_cases hc206 : v172_8 < (3 : Int32)
          · refine wp_run ok hK (B := [(206, .if_icmp .lt 17, true)]) (by decide +kernel) (ps := [Op.if_icmp.holds .lt v172_8 (3 : Int32) = true]) (pc' := 223) (L' := #[.val (.int w), .val (.int a), .val (.int en), .val (.int sur), .val (.int b0), .val (.int b1), .val (.int b2), .val (.int b3), .val (.int v172_8), .val (.int v172_9), .unset]) (S' := []) rfl ⟨(XT.ii_lt_t hc206), trivial⟩ ?_
            refine wp_run ok hK (B := [(223, .iload 8, false), (225, .iconst 4, false), (226, .if_icmp .lt 17, true), (243, .iload 8, false), (245, .iconst 2, false)]) (by decide +kernel) (ps := [Op.if_icmp.holds .lt v172_8 (4 : Int32) = true]) (pc' := 246) (L' := #[.val (.int w), .val (.int a), .val (.int en), .val (.int sur), .val (.int b0), .val (.int b1), .val (.int b2), .val (.int b3), .val (.int v172_8), .val (.int v172_9), .unset]) (S' := [.int (2 : Int32), .int v172_8]) rfl ⟨(XT.ii_lt_t (own_exp_3 w a en sur b0 h_b0 b1 h_b1 b2 h_b2 b3 h_b3 v172_8 h_v172_8 v172_9 h_v172_9 hc174 hc184 hc198 hc206)), trivial⟩ ?_
            have J269_7 : ∀ (s269_0 : Int32) (h_s269_0 : s269_0 = (if v172_8 = (2 : Int32) then (128 : Int32) else (if v172_8 = (3 : Int32) then (2048 : Int32) else (65536 : Int32)))), WP X n0 (Q_exp Z w a en sur h0) h0 0 0 269 #[.val (.int w), .val (.int a), .val (.int en), .val (.int sur), .val (.int b0), .val (.int b1), .val (.int b2), .val (.int b3), .val (.int v172_8), .val (.int v172_9), .unset] [.int s269_0] := by
              intro s269_0 h_s269_0
              refine wp_run ok hK (B := [(269, .istore 10, false), (271, .iload 9, false), (273, .iload 10, false)]) (by decide +kernel) (ps := []) (pc' := 275) (L' := #[.val (.int w), .val (.int a), .val (.int en), .val (.int sur), .val (.int b0), .val (.int b1), .val (.int b2), .val (.int b3), .val (.int v172_8), .val (.int v172_9), .val (.int s269_0)]) (S' := [.int s269_0, .int v172_9]) rfl trivial ?_
              by_cases hc275 : v172_9 < s269_0
              · refine wp_run ok hK (B := [(275, .if_icmp .lt 10, true)]) (by decide +kernel) (ps := [Op.if_icmp.holds .lt v172_9 s269_0 = true]) (pc' := 285) (L' := #[.val (.int w), .val (.int a), .val (.int en), .val (.int sur), .val (.int b0), .val (.int b1), .val (.int b2), .val (.int b3), .val (.int v172_8), .val (.int v172_9), .val (.int s269_0)]) (S' := []) rfl ⟨(XT.ii_lt_t hc275), trivial⟩ ?_
                refine wp_run ok hK (B := [(285, .iconst (-1), false)]) (by decide +kernel) (ps := []) (pc' := 286) (L' := #[.val (.int w), .val (.int a), .val (.int en), .val (.int sur), .val (.int b0), .val (.int b1), .val (.int b2), .val (.int b3), .val (.int v172_8), .val (.int v172_9), .val (.int s269_0)]) (S' := [.int (-1 : Int32)]) rfl trivial ?_
                refine wp_retI ok (by decide +kernel) (by decide) (by decide) ?_
                exact ⟨congrArg (fun z => some (Value.int z)) (own_exp_4 w a en sur b0 h_b0 b1 h_b1 b2 h_b2 b3 h_b3 v172_8 h_v172_8 v172_9 h_v172_9 hc174 hc184 hc198 hc206 s269_0 h_s269_0 hc275), rfl⟩
              · refine wp_run ok hK (B := [(275, .if_icmp .lt 10, false)]) (by decide +kernel) (ps := [Op.if_icmp.holds .lt v172_9 s269_0 = false]) (pc' := 278) (L' := #[.val (.int w), .val (.int a), .val (.int en), .val (.int sur), .val (.int b0), .val (.int b1), .val (.int b2), .val (.int b3), .val (.int v172_8), .val (.int v172_9), .val (.int s269_0)]) (S' := []) rfl ⟨(XT.ii_lt_f hc275), trivial⟩ ?_
                refine wp_run ok hK (B := [(278, .iload 9, false), (280, .ldc 20, false)]) (by decide +kernel) (ps := []) (pc' := 282) (L' := #[.val (.int w), .val (.int a), .val (.int en), .val (.int sur), .val (.int b0), .val (.int b1), .val (.int b2), .val (.int b3), .val (.int v172_8), .val (.int v172_9), .val (.int s269_0)]) (S' := [.int (1114111 : Int32), .int v172_9]) rfl trivial ?_
                by_cases hc282 : (1114111 : Int32) < v172_9
                · refine wp_run ok hK (B := [(282, .if_icmp .le 5, false)]) (by decide +kernel) (ps := [Op.if_icmp.holds .le v172_9 (1114111 : Int32) = false]) (pc' := 285) (L' := #[.val (.int w), .val (.int a), .val (.int en), .val (.int sur), .val (.int b0), .val (.int b1), .val (.int b2), .val (.int b3), .val (.int v172_8), .val (.int v172_9), .val (.int s269_0)]) (S' := []) rfl ⟨(XT.ii_le_f hc282), trivial⟩ ?_
                  refine wp_run ok hK (B := [(285, .iconst (-1), false)]) (by decide +kernel) (ps := []) (pc' := 286) (L' := #[.val (.int w), .val (.int a), .val (.int en), .val (.int sur), .val (.int b0), .val (.int b1), .val (.int b2), .val (.int b3), .val (.int v172_8), .val (.int v172_9), .val (.int s269_0)]) (S' := [.int (-1 : Int32)]) rfl trivial ?_
                  refine wp_retI ok (by decide +kernel) (by decide) (by decide) ?_
                  exact ⟨congrArg (fun z => some (Value.int z)) (own_exp_5 w a en sur b0 h_b0 b1 h_b1 b2 h_b2 b3 h_b3 v172_8 h_v172_8 v172_9 h_v172_9 hc174 hc184 hc198 hc206 s269_0 h_s269_0 hc275 hc282), rfl⟩
                · refine wp_run ok hK (B := [(282, .if_icmp .le 5, true)]) (by decide +kernel) (ps := [Op.if_icmp.holds .le v172_9 (1114111 : Int32) = true]) (pc' := 287) (L' := #[.val (.int w), .val (.int a), .val (.int en), .val (.int sur), .val (.int b0), .val (.int b1), .val (.int b2), .val (.int b3), .val (.int v172_8), .val (.int v172_9), .val (.int s269_0)]) (S' := []) rfl ⟨(XT.ii_le_t hc282), trivial⟩ ?_
                  refine wp_run ok hK (B := [(287, .iload_n 3, false)]) (by decide +kernel) (ps := []) (pc' := 288) (L' := #[.val (.int w), .val (.int a), .val (.int en), .val (.int sur), .val (.int b0), .val (.int b1), .val (.int b2), .val (.int b3), .val (.int v172_8), .val (.int v172_9), .val (.int s269_0)]) (S' := [.int sur]) rfl trivial ?_
                  by_cases hc288 : sur = (0 : Int32)
                  · refine wp_run ok hK (B := [(288, .ifCond .ne 19, false)]) (by decide +kernel) (ps := [Op.ifCond.holds .ne sur = false]) (pc' := 291) (L' := #[.val (.int w), .val (.int a), .val (.int en), .val (.int sur), .val (.int b0), .val (.int b1), .val (.int b2), .val (.int b3), .val (.int v172_8), .val (.int v172_9), .val (.int s269_0)]) (S' := []) rfl ⟨(XT.i0_ne_f hc288), trivial⟩ ?_
                    refine wp_run ok hK (B := [(291, .iload 9, false), (293, .ldc 21, false)]) (by decide +kernel) (ps := []) (pc' := 295) (L' := #[.val (.int w), .val (.int a), .val (.int en), .val (.int sur), .val (.int b0), .val (.int b1), .val (.int b2), .val (.int b3), .val (.int v172_8), .val (.int v172_9), .val (.int s269_0)]) (S' := [.int (55296 : Int32), .int v172_9]) rfl trivial ?_
                    by_cases hc295 : v172_9 < (55296 : Int32)
                    · refine wp_run ok hK (B := [(295, .if_icmp .lt 12, true)]) (by decide +kernel) (ps := [Op.if_icmp.holds .lt v172_9 (55296 : Int32) = true]) (pc' := 307) (L' := #[.val (.int w), .val (.int a), .val (.int en), .val (.int sur), .val (.int b0), .val (.int b1), .val (.int b2), .val (.int b3), .val (.int v172_8), .val (.int v172_9), .val (.int s269_0)]) (S' := []) rfl ⟨(XT.ii_lt_t hc295), trivial⟩ ?_
                      refine wp_run ok hK (B := [(307, .iload_n 1, false), (308, .iload 8, false), (310, .iadd, false)]) (by decide +kernel) (ps := []) (pc' := 311) (L' := #[.val (.int w), .val (.int a), .val (.int en), .val (.int sur), .val (.int b0), .val (.int b1), .val (.int b2), .val (.int b3), .val (.int v172_8), .val (.int v172_9), .val (.int s269_0)]) (S' := [.int (a + v172_8)]) rfl trivial ?_
                      refine wp_retI ok (by decide +kernel) (by decide) (by decide) ?_
                      exact ⟨congrArg (fun z => some (Value.int z)) (own_exp_6 w a en sur b0 h_b0 b1 h_b1 b2 h_b2 b3 h_b3 v172_8 h_v172_8 v172_9 h_v172_9 hc174 hc184 hc198 hc206 s269_0 h_s269_0 hc275 hc282 hc288 hc295), rfl⟩
                    · refine wp_run ok hK (B := [(295, .if_icmp .lt 12, false)]) (by decide +kernel) (ps := [Op.if_icmp.holds .lt v172_9 (55296 : Int32) = false]) (pc' := 298) (L' := #[.val (.int w), .val (.int a), .val (.int en), .val (.int sur), .val (.int b0), .val (.int b1), .val (.int b2), .val (.int b3), .val (.int v172_8), .val (.int v172_9), .val (.int s269_0)]) (S' := []) rfl ⟨(XT.ii_lt_f hc295), trivial⟩ ?_
                      refine wp_run ok hK (B := [(298, .iload 9, false), (300, .ldc 22, false)]) (by decide +kernel) (ps := []) (pc' := 302) (L' := #[.val (.int w), .val (.int a), .val (.int en), .val (.int sur), .val (.int b0), .val (.int b1), .val (.int b2), .val (.int b3), .val (.int v172_8), .val (.int v172_9), .val (.int s269_0)]) (S' := [.int (57343 : Int32), .int v172_9]) rfl trivial ?_
                      by_cases hc302 : (57343 : Int32) < v172_9
                      · refine wp_run ok hK (B := [(302, .if_icmp .gt 5, true)]) (by decide +kernel) (ps := [Op.if_icmp.holds .gt v172_9 (57343 : Int32) = true]) (pc' := 307) (L' := #[.val (.int w), .val (.int a), .val (.int en), .val (.int sur), .val (.int b0), .val (.int b1), .val (.int b2), .val (.int b3), .val (.int v172_8), .val (.int v172_9), .val (.int s269_0)]) (S' := []) rfl ⟨(XT.ii_gt_t hc302), trivial⟩ ?_
                        refine wp_run ok hK (B := [(307, .iload_n 1, false), (308, .iload 8, false), (310, .iadd, false)]) (by decide +kernel) (ps := []) (pc' := 311) (L' := #[.val (.int w), .val (.int a), .val (.int en), .val (.int sur), .val (.int b0), .val (.int b1), .val (.int b2), .val (.int b3), .val (.int v172_8), .val (.int v172_9), .val (.int s269_0)]) (S' := [.int (a + v172_8)]) rfl trivial ?_
                        refine wp_retI ok (by decide +kernel) (by decide) (by decide) ?_
                        exact ⟨congrArg (fun z => some (Value.int z)) (own_exp_7 w a en sur b0 h_b0 b1 h_b1 b2 h_b2 b3 h_b3 v172_8 h_v172_8 v172_9 h_v172_9 hc174 hc184 hc198 hc206 s269_0 h_s269_0 hc275 hc282 hc288 hc295 hc302), rfl⟩
                      · refine wp_run ok hK (B := [(302, .if_icmp .gt 5, false)]) (by decide +kernel) (ps := [Op.if_icmp.holds .gt v172_9 (57343 : Int32) = false]) (pc' := 305) (L' := #[.val (.int w), .val (.int a), .val (.int en), .val (.int sur), .val (.int b0), .val (.int b1), .val (.int b2), .val (.int b3), .val (.int v172_8), .val (.int v172_9), .val (.int s269_0)]) (S' := []) rfl ⟨(XT.ii_gt_f hc302), trivial⟩ ?_
                        refine wp_run ok hK (B := [(305, .iconst (-1), false)]) (by decide +kernel) (ps := []) (pc' := 306) (L' := #[.val (.int w), .val (.int a), .val (.int en), .val (.int sur), .val (.int b0), .val (.int b1), .val (.int b2), .val (.int b3), .val (.int v172_8), .val (.int v172_9), .val (.int s269_0)]) (S' := [.int (-1 : Int32)]) rfl trivial ?_
                        refine wp_retI ok (by decide +kernel) (by decide) (by decide) ?_
                        exact ⟨congrArg (fun z => some (Value.int z)) (own_exp_8 w a en sur b0 h_b0 b1 h_b1 b2 h_b2 b3 h_b3 v172_8 h_v172_8 v172_9 h_v172_9 hc174 hc184 hc198 hc206 s269_0 h_s269_0 hc275 hc282 hc288 hc295 hc302), rfl⟩
                  · refine wp_run ok hK (B := [(288, .ifCond .ne 19, true)]) (by decide +kernel) (ps := [Op.ifCond.holds .ne sur = true]) (pc' := 307) (L' := #[.val (.int w), .val (.int a), .val (.int en), .val (.int sur), .val (.int b0), .val (.int b1), .val (.int b2), .val (.int b3), .val (.int v172_8), .val (.int v172_9), .val (.int s269_0)]) (S' := []) rfl ⟨(XT.i0_ne_t hc288), trivial⟩ ?_
                    refine wp_run ok hK (B := [(307, .iload_n 1, false), (308, .iload 8, false), (310, .iadd, false)]) (by decide +kernel) (ps := []) (pc' := 311) (L' := #[.val (.int w), .val (.int a), .val (.int en), .val (.int sur), .val (.int b0), .val (.int b1), .val (.int b2), .val (.int b3), .val (.int v172_8), .val (.int v172_9), .val (.int s269_0)]) (S' := [.int (a + v172_8)]) rfl trivial ?_
                    refine wp_retI ok (by decide +kernel) (by decide) (by decide) ?_
                    exact ⟨congrArg (fun z => some (Value.int z)) (own_exp_9 w a en sur b0 h_b0 b1 h_b1 b2 h_b2 b3 h_b3 v172_8 h_v172_8 v172_9 h_v172_9 hc174 hc184 hc198 hc206 s269_0 h_s269_0 hc275 hc282 hc288), rfl⟩
            by_cases c5 : v172_8 = (2 : Int32)
            · refine wp_run ok hK (B := [(246, .if_icmp .ne 9, false), (249, .sipush 128, false), (252, .goto 17, false)]) (by decide +kernel) (ps := [Op.if_icmp.holds .ne v172_8 (2 : Int32) = false]) (pc' := 269) (L' := #[.val (.int w), .val (.int a), .val (.int en), .val (.int sur), .val (.int b0), .val (.int b1), .val (.int b2), .val (.int b3), .val (.int v172_8), .val (.int v172_9), .unset]) (S' := [.int (128 : Int32)]) rfl ⟨(XT.ii_ne_f c5), trivial⟩ ?_
              exact J269_7 _ (by rw [if_pos c5])
            · by_cases c6 : v172_8 = (3 : Int32)
              · refine wp_run ok hK (B := [(246, .if_icmp .ne 9, true), (255, .iload 8, false), (257, .iconst 3, false), (258, .if_icmp .ne 9, false), (261, .sipush 2048, false), (264, .goto 5, false)]) (by decide +kernel) (ps := [Op.if_icmp.holds .ne v172_8 (2 : Int32) = true, Op.if_icmp.holds .ne v172_8 (3 : Int32) = false]) (pc' := 269) (L' := #[.val (.int w), .val (.int a), .val (.int en), .val (.int sur), .val (.int b0), .val (.int b1), .val (.int b2), .val (.int b3), .val (.int v172_8), .val (.int v172_9), .unset]) (S' := [.int (2048 : Int32)]) rfl ⟨(XT.ii_ne_t c5), (XT.ii_ne_f c6), trivial⟩ ?_
                exact J269_7 _ (by rw [if_neg c5, if_pos c6])
              · refine wp_run ok hK (B := [(246, .if_icmp .ne 9, true), (255, .iload 8, false), (257, .iconst 3, false), (258, .if_icmp .ne 9, true), (267, .ldc 19, false)]) (by decide +kernel) (ps := [Op.if_icmp.holds .ne v172_8 (2 : Int32) = true, Op.if_icmp.holds .ne v172_8 (3 : Int32) = true]) (pc' := 269) (L' := #[.val (.int w), .val (.int a), .val (.int en), .val (.int sur), .val (.int b0), .val (.int b1), .val (.int b2), .val (.int b3), .val (.int v172_8), .val (.int v172_9), .unset]) (S' := [.int (65536 : Int32)]) rfl ⟨(XT.ii_ne_t c5), (XT.ii_ne_t c6), trivial⟩ ?_
                exact J269_7 _ (by rw [if_neg c5, if_neg c6])
          · refine wp_run ok hK (B := [(206, .if_icmp .lt 17, false)]) (by decide +kernel) (ps := [Op.if_icmp.holds .lt v172_8 (3 : Int32) = false]) (pc' := 209) (L' := #[.val (.int w), .val (.int a), .val (.int en), .val (.int sur), .val (.int b0), .val (.int b1), .val (.int b2), .val (.int b3), .val (.int v172_8), .val (.int v172_9), .unset]) (S' := []) rfl ⟨(XT.ii_lt_f hc206), trivial⟩ ?_
            refine wp_run ok hK (B := [(209, .iload 6, false), (211, .sipush 192, false), (214, .iand, false), (215, .sipush 128, false)]) (by decide +kernel) (ps := []) (pc' := 218) (L' := #[.val (.int w), .val (.int a), .val (.int en), .val (.int sur), .val (.int b0), .val (.int b1), .val (.int b2), .val (.int b3), .val (.int v172_8), .val (.int v172_9), .unset]) (S' := [.int (128 : Int32), .int (b2 &&& (192 : Int32))]) rfl trivial ?_
            by_cases hc218 : (b2 &&& (192 : Int32)) = (128 : Int32)
            · refine wp_run ok hK (B := [(218, .if_icmp .eq 5, true)]) (by decide +kernel) (ps := [Op.if_icmp.holds .eq (b2 &&& (192 : Int32)) (128 : Int32) = true]) (pc' := 223) (L' := #[.val (.int w), .val (.int a), .val (.int en), .val (.int sur), .val (.int b0), .val (.int b1), .val (.int b2), .val (.int b3), .val (.int v172_8), .val (.int v172_9), .unset]) (S' := []) rfl ⟨(XT.ii_eq_t hc218), trivial⟩ ?_
              refine wp_run ok hK (B := [(223, .iload 8, false), (225, .iconst 4, false)]) (by decide +kernel) (ps := []) (pc' := 226) (L' := #[.val (.int w), .val (.int a), .val (.int en), .val (.int sur), .val (.int b0), .val (.int b1), .val (.int b2), .val (.int b3), .val (.int v172_8), .val (.int v172_9), .unset]) (S' := [.int (4 : Int32), .int v172_8]) rfl trivial ?_
              by_cases hc226 : v172_8 < (4 : Int32)
              · refine wp_run ok hK (B := [(226, .if_icmp .lt 17, true)]) (by decide +kernel) (ps := [Op.if_icmp.holds .lt v172_8 (4 : Int32) = true]) (pc' := 243) (L' := #[.val (.int w), .val (.int a), .val (.int en), .val (.int sur), .val (.int b0), .val (.int b1), .val (.int b2), .val (.int b3), .val (.int v172_8), .val (.int v172_9), .unset]) (S' := []) rfl ⟨(XT.ii_lt_t hc226), trivial⟩ ?_
                refine wp_run ok hK (B := [(243, .iload 8, false), (245, .iconst 2, false)]) (by decide +kernel) (ps := []) (pc' := 246) (L' := #[.val (.int w), .val (.int a), .val (.int en), .val (.int sur), .val (.int b0), .val (.int b1), .val (.int b2), .val (.int b3), .val (.int v172_8), .val (.int v172_9), .unset]) (S' := [.int (2 : Int32), .int v172_8]) rfl trivial ?_
                have J269_10 : ∀ (s269_0 : Int32) (h_s269_0 : s269_0 = (if v172_8 = (2 : Int32) then (128 : Int32) else (if v172_8 = (3 : Int32) then (2048 : Int32) else (65536 : Int32)))), WP X n0 (Q_exp Z w a en sur h0) h0 0 0 269 #[.val (.int w), .val (.int a), .val (.int en), .val (.int sur), .val (.int b0), .val (.int b1), .val (.int b2), .val (.int b3), .val (.int v172_8), .val (.int v172_9), .unset] [.int s269_0] := by
                  intro s269_0 h_s269_0
                  refine wp_run ok hK (B := [(269, .istore 10, false), (271, .iload 9, false), (273, .iload 10, false)]) (by decide +kernel) (ps := []) (pc' := 275) (L' := #[.val (.int w), .val (.int a), .val (.int en), .val (.int sur), .val (.int b0), .val (.int b1), .val (.int b2), .val (.int b3), .val (.int v172_8), .val (.int v172_9), .val (.int s269_0)]) (S' := [.int s269_0, .int v172_9]) rfl trivial ?_
                  by_cases hc275 : v172_9 < s269_0
                  · refine wp_run ok hK (B := [(275, .if_icmp .lt 10, true)]) (by decide +kernel) (ps := [Op.if_icmp.holds .lt v172_9 s269_0 = true]) (pc' := 285) (L' := #[.val (.int w), .val (.int a), .val (.int en), .val (.int sur), .val (.int b0), .val (.int b1), .val (.int b2), .val (.int b3), .val (.int v172_8), .val (.int v172_9), .val (.int s269_0)]) (S' := []) rfl ⟨(XT.ii_lt_t hc275), trivial⟩ ?_
                    refine wp_run ok hK (B := [(285, .iconst (-1), false)]) (by decide +kernel) (ps := []) (pc' := 286) (L' := #[.val (.int w), .val (.int a), .val (.int en), .val (.int sur), .val (.int b0), .val (.int b1), .val (.int b2), .val (.int b3), .val (.int v172_8), .val (.int v172_9), .val (.int s269_0)]) (S' := [.int (-1 : Int32)]) rfl trivial ?_
                    refine wp_retI ok (by decide +kernel) (by decide) (by decide) ?_
                    exact ⟨congrArg (fun z => some (Value.int z)) (own_exp_10 w a en sur b0 h_b0 b1 h_b1 b2 h_b2 b3 h_b3 v172_8 h_v172_8 v172_9 h_v172_9 hc174 hc184 hc198 hc206 hc218 hc226 s269_0 h_s269_0 hc275), rfl⟩
                  · refine wp_run ok hK (B := [(275, .if_icmp .lt 10, false)]) (by decide +kernel) (ps := [Op.if_icmp.holds .lt v172_9 s269_0 = false]) (pc' := 278) (L' := #[.val (.int w), .val (.int a), .val (.int en), .val (.int sur), .val (.int b0), .val (.int b1), .val (.int b2), .val (.int b3), .val (.int v172_8), .val (.int v172_9), .val (.int s269_0)]) (S' := []) rfl ⟨(XT.ii_lt_f hc275), trivial⟩ ?_
                    refine wp_run ok hK (B := [(278, .iload 9, false), (280, .ldc 20, false)]) (by decide +kernel) (ps := []) (pc' := 282) (L' := #[.val (.int w), .val (.int a), .val (.int en), .val (.int sur), .val (.int b0), .val (.int b1), .val (.int b2), .val (.int b3), .val (.int v172_8), .val (.int v172_9), .val (.int s269_0)]) (S' := [.int (1114111 : Int32), .int v172_9]) rfl trivial ?_
                    by_cases hc282 : (1114111 : Int32) < v172_9
                    · refine wp_run ok hK (B := [(282, .if_icmp .le 5, false)]) (by decide +kernel) (ps := [Op.if_icmp.holds .le v172_9 (1114111 : Int32) = false]) (pc' := 285) (L' := #[.val (.int w), .val (.int a), .val (.int en), .val (.int sur), .val (.int b0), .val (.int b1), .val (.int b2), .val (.int b3), .val (.int v172_8), .val (.int v172_9), .val (.int s269_0)]) (S' := []) rfl ⟨(XT.ii_le_f hc282), trivial⟩ ?_
                      refine wp_run ok hK (B := [(285, .iconst (-1), false)]) (by decide +kernel) (ps := []) (pc' := 286) (L' := #[.val (.int w), .val (.int a), .val (.int en), .val (.int sur), .val (.int b0), .val (.int b1), .val (.int b2), .val (.int b3), .val (.int v172_8), .val (.int v172_9), .val (.int s269_0)]) (S' := [.int (-1 : Int32)]) rfl trivial ?_
                      refine wp_retI ok (by decide +kernel) (by decide) (by decide) ?_
                      exact ⟨congrArg (fun z => some (Value.int z)) (own_exp_11 w a en sur b0 h_b0 b1 h_b1 b2 h_b2 b3 h_b3 v172_8 h_v172_8 v172_9 h_v172_9 hc174 hc184 hc198 hc206 hc218 hc226 s269_0 h_s269_0 hc275 hc282), rfl⟩
                    · refine wp_run ok hK (B := [(282, .if_icmp .le 5, true)]) (by decide +kernel) (ps := [Op.if_icmp.holds .le v172_9 (1114111 : Int32) = true]) (pc' := 287) (L' := #[.val (.int w), .val (.int a), .val (.int en), .val (.int sur), .val (.int b0), .val (.int b1), .val (.int b2), .val (.int b3), .val (.int v172_8), .val (.int v172_9), .val (.int s269_0)]) (S' := []) rfl ⟨(XT.ii_le_t hc282), trivial⟩ ?_
                      refine wp_run ok hK (B := [(287, .iload_n 3, false)]) (by decide +kernel) (ps := []) (pc' := 288) (L' := #[.val (.int w), .val (.int a), .val (.int en), .val (.int sur), .val (.int b0), .val (.int b1), .val (.int b2), .val (.int b3), .val (.int v172_8), .val (.int v172_9), .val (.int s269_0)]) (S' := [.int sur]) rfl trivial ?_
                      by_cases hc288 : sur = (0 : Int32)
                      · refine wp_run ok hK (B := [(288, .ifCond .ne 19, false)]) (by decide +kernel) (ps := [Op.ifCond.holds .ne sur = false]) (pc' := 291) (L' := #[.val (.int w), .val (.int a), .val (.int en), .val (.int sur), .val (.int b0), .val (.int b1), .val (.int b2), .val (.int b3), .val (.int v172_8), .val (.int v172_9), .val (.int s269_0)]) (S' := []) rfl ⟨(XT.i0_ne_f hc288), trivial⟩ ?_
                        refine wp_run ok hK (B := [(291, .iload 9, false), (293, .ldc 21, false)]) (by decide +kernel) (ps := []) (pc' := 295) (L' := #[.val (.int w), .val (.int a), .val (.int en), .val (.int sur), .val (.int b0), .val (.int b1), .val (.int b2), .val (.int b3), .val (.int v172_8), .val (.int v172_9), .val (.int s269_0)]) (S' := [.int (55296 : Int32), .int v172_9]) rfl trivial ?_
                        by_cases hc295 : v172_9 < (55296 : Int32)
                        · refine wp_run ok hK (B := [(295, .if_icmp .lt 12, true)]) (by decide +kernel) (ps := [Op.if_icmp.holds .lt v172_9 (55296 : Int32) = true]) (pc' := 307) (L' := #[.val (.int w), .val (.int a), .val (.int en), .val (.int sur), .val (.int b0), .val (.int b1), .val (.int b2), .val (.int b3), .val (.int v172_8), .val (.int v172_9), .val (.int s269_0)]) (S' := []) rfl ⟨(XT.ii_lt_t hc295), trivial⟩ ?_
                          refine wp_run ok hK (B := [(307, .iload_n 1, false), (308, .iload 8, false), (310, .iadd, false)]) (by decide +kernel) (ps := []) (pc' := 311) (L' := #[.val (.int w), .val (.int a), .val (.int en), .val (.int sur), .val (.int b0), .val (.int b1), .val (.int b2), .val (.int b3), .val (.int v172_8), .val (.int v172_9), .val (.int s269_0)]) (S' := [.int (a + v172_8)]) rfl trivial ?_
                          refine wp_retI ok (by decide +kernel) (by decide) (by decide) ?_
                          exact ⟨congrArg (fun z => some (Value.int z)) (own_exp_12 w a en sur b0 h_b0 b1 h_b1 b2 h_b2 b3 h_b3 v172_8 h_v172_8 v172_9 h_v172_9 hc174 hc184 hc198 hc206 hc218 hc226 s269_0 h_s269_0 hc275 hc282 hc288 hc295), rfl⟩
                        · refine wp_run ok hK (B := [(295, .if_icmp .lt 12, false)]) (by decide +kernel) (ps := [Op.if_icmp.holds .lt v172_9 (55296 : Int32) = false]) (pc' := 298) (L' := #[.val (.int w), .val (.int a), .val (.int en), .val (.int sur), .val (.int b0), .val (.int b1), .val (.int b2), .val (.int b3), .val (.int v172_8), .val (.int v172_9), .val (.int s269_0)]) (S' := []) rfl ⟨(XT.ii_lt_f hc295), trivial⟩ ?_
                          refine wp_run ok hK (B := [(298, .iload 9, false), (300, .ldc 22, false)]) (by decide +kernel) (ps := []) (pc' := 302) (L' := #[.val (.int w), .val (.int a), .val (.int en), .val (.int sur), .val (.int b0), .val (.int b1), .val (.int b2), .val (.int b3), .val (.int v172_8), .val (.int v172_9), .val (.int s269_0)]) (S' := [.int (57343 : Int32), .int v172_9]) rfl trivial ?_
                          by_cases hc302 : (57343 : Int32) < v172_9
                          · refine wp_run ok hK (B := [(302, .if_icmp .gt 5, true)]) (by decide +kernel) (ps := [Op.if_icmp.holds .gt v172_9 (57343 : Int32) = true]) (pc' := 307) (L' := #[.val (.int w), .val (.int a), .val (.int en), .val (.int sur), .val (.int b0), .val (.int b1), .val (.int b2), .val (.int b3), .val (.int v172_8), .val (.int v172_9), .val (.int s269_0)]) (S' := []) rfl ⟨(XT.ii_gt_t hc302), trivial⟩ ?_
                            refine wp_run ok hK (B := [(307, .iload_n 1, false), (308, .iload 8, false), (310, .iadd, false)]) (by decide +kernel) (ps := []) (pc' := 311) (L' := #[.val (.int w), .val (.int a), .val (.int en), .val (.int sur), .val (.int b0), .val (.int b1), .val (.int b2), .val (.int b3), .val (.int v172_8), .val (.int v172_9), .val (.int s269_0)]) (S' := [.int (a + v172_8)]) rfl trivial ?_
                            refine wp_retI ok (by decide +kernel) (by decide) (by decide) ?_
                            exact ⟨congrArg (fun z => some (Value.int z)) (own_exp_13 w a en sur b0 h_b0 b1 h_b1 b2 h_b2 b3 h_b3 v172_8 h_v172_8 v172_9 h_v172_9 hc174 hc184 hc198 hc206 hc218 hc226 s269_0 h_s269_0 hc275 hc282 hc288 hc295 hc302), rfl⟩
                          · refine wp_run ok hK (B := [(302, .if_icmp .gt 5, false)]) (by decide +kernel) (ps := [Op.if_icmp.holds .gt v172_9 (57343 : Int32) = false]) (pc' := 305) (L' := #[.val (.int w), .val (.int a), .val (.int en), .val (.int sur), .val (.int b0), .val (.int b1), .val (.int b2), .val (.int b3), .val (.int v172_8), .val (.int v172_9), .val (.int s269_0)]) (S' := []) rfl ⟨(XT.ii_gt_f hc302), trivial⟩ ?_
                            refine wp_run ok hK (B := [(305, .iconst (-1), false)]) (by decide +kernel) (ps := []) (pc' := 306) (L' := #[.val (.int w), .val (.int a), .val (.int en), .val (.int sur), .val (.int b0), .val (.int b1), .val (.int b2), .val (.int b3), .val (.int v172_8), .val (.int v172_9), .val (.int s269_0)]) (S' := [.int (-1 : Int32)]) rfl trivial ?_
                            refine wp_retI ok (by decide +kernel) (by decide) (by decide) ?_
                            exact ⟨congrArg (fun z => some (Value.int z)) (own_exp_14 w a en sur b0 h_b0 b1 h_b1 b2 h_b2 b3 h_b3 v172_8 h_v172_8 v172_9 h_v172_9 hc174 hc184 hc198 hc206 hc218 hc226 s269_0 h_s269_0 hc275 hc282 hc288 hc295 hc302), rfl⟩
                      · refine wp_run ok hK (B := [(288, .ifCond .ne 19, true)]) (by decide +kernel) (ps := [Op.ifCond.holds .ne sur = true]) (pc' := 307) (L' := #[.val (.int w), .val (.int a), .val (.int en), .val (.int sur), .val (.int b0), .val (.int b1), .val (.int b2), .val (.int b3), .val (.int v172_8), .val (.int v172_9), .val (.int s269_0)]) (S' := []) rfl ⟨(XT.i0_ne_t hc288), trivial⟩ ?_
                        refine wp_run ok hK (B := [(307, .iload_n 1, false), (308, .iload 8, false), (310, .iadd, false)]) (by decide +kernel) (ps := []) (pc' := 311) (L' := #[.val (.int w), .val (.int a), .val (.int en), .val (.int sur), .val (.int b0), .val (.int b1), .val (.int b2), .val (.int b3), .val (.int v172_8), .val (.int v172_9), .val (.int s269_0)]) (S' := [.int (a + v172_8)]) rfl trivial ?_
                        refine wp_retI ok (by decide +kernel) (by decide) (by decide) ?_
                        exact ⟨congrArg (fun z => some (Value.int z)) (own_exp_15 w a en sur b0 h_b0 b1 h_b1 b2 h_b2 b3 h_b3 v172_8 h_v172_8 v172_9 h_v172_9 hc174 hc184 hc198 hc206 hc218 hc226 s269_0 h_s269_0 hc275 hc282 hc288), rfl⟩
                by_cases c8 : v172_8 = (2 : Int32)
                · refine wp_run ok hK (B := [(246, .if_icmp .ne 9, false), (249, .sipush 128, false), (252, .goto 17, false)]) (by decide +kernel) (ps := [Op.if_icmp.holds .ne v172_8 (2 : Int32) = false]) (pc' := 269) (L' := #[.val (.int w), .val (.int a), .val (.int en), .val (.int sur), .val (.int b0), .val (.int b1), .val (.int b2), .val (.int b3), .val (.int v172_8), .val (.int v172_9), .unset]) (S' := [.int (128 : Int32)]) rfl ⟨(XT.ii_ne_f c8), trivial⟩ ?_
                  exact J269_10 _ (by rw [if_pos c8])
                · by_cases c9 : v172_8 = (3 : Int32)
                  · refine wp_run ok hK (B := [(246, .if_icmp .ne 9, true), (255, .iload 8, false), (257, .iconst 3, false), (258, .if_icmp .ne 9, false), (261, .sipush 2048, false), (264, .goto 5, false)]) (by decide +kernel) (ps := [Op.if_icmp.holds .ne v172_8 (2 : Int32) = true, Op.if_icmp.holds .ne v172_8 (3 : Int32) = false]) (pc' := 269) (L' := #[.val (.int w), .val (.int a), .val (.int en), .val (.int sur), .val (.int b0), .val (.int b1), .val (.int b2), .val (.int b3), .val (.int v172_8), .val (.int v172_9), .unset]) (S' := [.int (2048 : Int32)]) rfl ⟨(XT.ii_ne_t c8), (XT.ii_ne_f c9), trivial⟩ ?_
                    exact J269_10 _ (by rw [if_neg c8, if_pos c9])
                  · refine wp_run ok hK (B := [(246, .if_icmp .ne 9, true), (255, .iload 8, false), (257, .iconst 3, false), (258, .if_icmp .ne 9, true), (267, .ldc 19, false)]) (by decide +kernel) (ps := [Op.if_icmp.holds .ne v172_8 (2 : Int32) = true, Op.if_icmp.holds .ne v172_8 (3 : Int32) = true]) (pc' := 269) (L' := #[.val (.int w), .val (.int a), .val (.int en), .val (.int sur), .val (.int b0), .val (.int b1), .val (.int b2), .val (.int b3), .val (.int v172_8), .val (.int v172_9), .unset]) (S' := [.int (65536 : Int32)]) rfl ⟨(XT.ii_ne_t c8), (XT.ii_ne_t c9), trivial⟩ ?_
                    exact J269_10 _ (by rw [if_neg c8, if_neg c9])
              · refine wp_run ok hK (B := [(226, .if_icmp .lt 17, false)]) (by decide +kernel) (ps := [Op.if_icmp.holds .lt v172_8 (4 : Int32) = false]) (pc' := 229) (L' := #[.val (.int w), .val (.int a), .val (.int en), .val (.int sur), .val (.int b0), .val (.int b1), .val (.int b2), .val (.int b3), .val (.int v172_8), .val (.int v172_9), .unset]) (S' := []) rfl ⟨(XT.ii_lt_f hc226), trivial⟩ ?_
                refine wp_run ok hK (B := [(229, .iload 7, false), (231, .sipush 192, false), (234, .iand, false), (235, .sipush 128, false)]) (by decide +kernel) (ps := []) (pc' := 238) (L' := #[.val (.int w), .val (.int a), .val (.int en), .val (.int sur), .val (.int b0), .val (.int b1), .val (.int b2), .val (.int b3), .val (.int v172_8), .val (.int v172_9), .unset]) (S' := [.int (128 : Int32), .int (b3 &&& (192 : Int32))]) rfl trivial ?_
                by_cases hc238 : (b3 &&& (192 : Int32)) = (128 : Int32)
                · refine wp_run ok hK (B := [(238, .if_icmp .eq 5, true)]) (by decide +kernel) (ps := [Op.if_icmp.holds .eq (b3 &&& (192 : Int32)) (128 : Int32) = true]) (pc' := 243) (L' := #[.val (.int w), .val (.int a), .val (.int en), .val (.int sur), .val (.int b0), .val (.int b1), .val (.int b2), .val (.int b3), .val (.int v172_8), .val (.int v172_9), .unset]) (S' := []) rfl ⟨(XT.ii_eq_t hc238), trivial⟩ ?_
                  refine wp_run ok hK (B := [(243, .iload 8, false), (245, .iconst 2, false)]) (by decide +kernel) (ps := []) (pc' := 246) (L' := #[.val (.int w), .val (.int a), .val (.int en), .val (.int sur), .val (.int b0), .val (.int b1), .val (.int b2), .val (.int b3), .val (.int v172_8), .val (.int v172_9), .unset]) (S' := [.int (2 : Int32), .int v172_8]) rfl trivial ?_
                  have J269_13 : ∀ (s269_0 : Int32) (h_s269_0 : s269_0 = (if v172_8 = (2 : Int32) then (128 : Int32) else (if v172_8 = (3 : Int32) then (2048 : Int32) else (65536 : Int32)))), WP X n0 (Q_exp Z w a en sur h0) h0 0 0 269 #[.val (.int w), .val (.int a), .val (.int en), .val (.int sur), .val (.int b0), .val (.int b1), .val (.int b2), .val (.int b3), .val (.int v172_8), .val (.int v172_9), .unset] [.int s269_0] := by
                    intro s269_0 h_s269_0
                    refine wp_run ok hK (B := [(269, .istore 10, false), (271, .iload 9, false), (273, .iload 10, false)]) (by decide +kernel) (ps := []) (pc' := 275) (L' := #[.val (.int w), .val (.int a), .val (.int en), .val (.int sur), .val (.int b0), .val (.int b1), .val (.int b2), .val (.int b3), .val (.int v172_8), .val (.int v172_9), .val (.int s269_0)]) (S' := [.int s269_0, .int v172_9]) rfl trivial ?_
                    by_cases hc275 : v172_9 < s269_0
                    · refine wp_run ok hK (B := [(275, .if_icmp .lt 10, true)]) (by decide +kernel) (ps := [Op.if_icmp.holds .lt v172_9 s269_0 = true]) (pc' := 285) (L' := #[.val (.int w), .val (.int a), .val (.int en), .val (.int sur), .val (.int b0), .val (.int b1), .val (.int b2), .val (.int b3), .val (.int v172_8), .val (.int v172_9), .val (.int s269_0)]) (S' := []) rfl ⟨(XT.ii_lt_t hc275), trivial⟩ ?_
                      refine wp_run ok hK (B := [(285, .iconst (-1), false)]) (by decide +kernel) (ps := []) (pc' := 286) (L' := #[.val (.int w), .val (.int a), .val (.int en), .val (.int sur), .val (.int b0), .val (.int b1), .val (.int b2), .val (.int b3), .val (.int v172_8), .val (.int v172_9), .val (.int s269_0)]) (S' := [.int (-1 : Int32)]) rfl trivial ?_
                      refine wp_retI ok (by decide +kernel) (by decide) (by decide) ?_
                      exact ⟨congrArg (fun z => some (Value.int z)) (own_exp_16 w a en sur b0 h_b0 b1 h_b1 b2 h_b2 b3 h_b3 v172_8 h_v172_8 v172_9 h_v172_9 hc174 hc184 hc198 hc206 hc218 hc226 hc238 s269_0 h_s269_0 hc275), rfl⟩
                    · refine wp_run ok hK (B := [(275, .if_icmp .lt 10, false)]) (by decide +kernel) (ps := [Op.if_icmp.holds .lt v172_9 s269_0 = false]) (pc' := 278) (L' := #[.val (.int w), .val (.int a), .val (.int en), .val (.int sur), .val (.int b0), .val (.int b1), .val (.int b2), .val (.int b3), .val (.int v172_8), .val (.int v172_9), .val (.int s269_0)]) (S' := []) rfl ⟨(XT.ii_lt_f hc275), trivial⟩ ?_
                      refine wp_run ok hK (B := [(278, .iload 9, false), (280, .ldc 20, false)]) (by decide +kernel) (ps := []) (pc' := 282) (L' := #[.val (.int w), .val (.int a), .val (.int en), .val (.int sur), .val (.int b0), .val (.int b1), .val (.int b2), .val (.int b3), .val (.int v172_8), .val (.int v172_9), .val (.int s269_0)]) (S' := [.int (1114111 : Int32), .int v172_9]) rfl trivial ?_
                      by_cases hc282 : (1114111 : Int32) < v172_9
                      · refine wp_run ok hK (B := [(282, .if_icmp .le 5, false)]) (by decide +kernel) (ps := [Op.if_icmp.holds .le v172_9 (1114111 : Int32) = false]) (pc' := 285) (L' := #[.val (.int w), .val (.int a), .val (.int en), .val (.int sur), .val (.int b0), .val (.int b1), .val (.int b2), .val (.int b3), .val (.int v172_8), .val (.int v172_9), .val (.int s269_0)]) (S' := []) rfl ⟨(XT.ii_le_f hc282), trivial⟩ ?_
                        refine wp_run ok hK (B := [(285, .iconst (-1), false)]) (by decide +kernel) (ps := []) (pc' := 286) (L' := #[.val (.int w), .val (.int a), .val (.int en), .val (.int sur), .val (.int b0), .val (.int b1), .val (.int b2), .val (.int b3), .val (.int v172_8), .val (.int v172_9), .val (.int s269_0)]) (S' := [.int (-1 : Int32)]) rfl trivial ?_
                        refine wp_retI ok (by decide +kernel) (by decide) (by decide) ?_
                        exact ⟨congrArg (fun z => some (Value.int z)) (own_exp_17 w a en sur b0 h_b0 b1 h_b1 b2 h_b2 b3 h_b3 v172_8 h_v172_8 v172_9 h_v172_9 hc174 hc184 hc198 hc206 hc218 hc226 hc238 s269_0 h_s269_0 hc275 hc282), rfl⟩
                      · refine wp_run ok hK (B := [(282, .if_icmp .le 5, true)]) (by decide +kernel) (ps := [Op.if_icmp.holds .le v172_9 (1114111 : Int32) = true]) (pc' := 287) (L' := #[.val (.int w), .val (.int a), .val (.int en), .val (.int sur), .val (.int b0), .val (.int b1), .val (.int b2), .val (.int b3), .val (.int v172_8), .val (.int v172_9), .val (.int s269_0)]) (S' := []) rfl ⟨(XT.ii_le_t hc282), trivial⟩ ?_
                        refine wp_run ok hK (B := [(287, .iload_n 3, false)]) (by decide +kernel) (ps := []) (pc' := 288) (L' := #[.val (.int w), .val (.int a), .val (.int en), .val (.int sur), .val (.int b0), .val (.int b1), .val (.int b2), .val (.int b3), .val (.int v172_8), .val (.int v172_9), .val (.int s269_0)]) (S' := [.int sur]) rfl trivial ?_
                        by_cases hc288 : sur = (0 : Int32)
                        · refine wp_run ok hK (B := [(288, .ifCond .ne 19, false)]) (by decide +kernel) (ps := [Op.ifCond.holds .ne sur = false]) (pc' := 291) (L' := #[.val (.int w), .val (.int a), .val (.int en), .val (.int sur), .val (.int b0), .val (.int b1), .val (.int b2), .val (.int b3), .val (.int v172_8), .val (.int v172_9), .val (.int s269_0)]) (S' := []) rfl ⟨(XT.i0_ne_f hc288), trivial⟩ ?_
                          refine wp_run ok hK (B := [(291, .iload 9, false), (293, .ldc 21, false)]) (by decide +kernel) (ps := []) (pc' := 295) (L' := #[.val (.int w), .val (.int a), .val (.int en), .val (.int sur), .val (.int b0), .val (.int b1), .val (.int b2), .val (.int b3), .val (.int v172_8), .val (.int v172_9), .val (.int s269_0)]) (S' := [.int (55296 : Int32), .int v172_9]) rfl trivial ?_
                          by_cases hc295 : v172_9 < (55296 : Int32)
                          · refine wp_run ok hK (B := [(295, .if_icmp .lt 12, true)]) (by decide +kernel) (ps := [Op.if_icmp.holds .lt v172_9 (55296 : Int32) = true]) (pc' := 307) (L' := #[.val (.int w), .val (.int a), .val (.int en), .val (.int sur), .val (.int b0), .val (.int b1), .val (.int b2), .val (.int b3), .val (.int v172_8), .val (.int v172_9), .val (.int s269_0)]) (S' := []) rfl ⟨(XT.ii_lt_t hc295), trivial⟩ ?_
                            refine wp_run ok hK (B := [(307, .iload_n 1, false), (308, .iload 8, false), (310, .iadd, false)]) (by decide +kernel) (ps := []) (pc' := 311) (L' := #[.val (.int w), .val (.int a), .val (.int en), .val (.int sur), .val (.int b0), .val (.int b1), .val (.int b2), .val (.int b3), .val (.int v172_8), .val (.int v172_9), .val (.int s269_0)]) (S' := [.int (a + v172_8)]) rfl trivial ?_
                            refine wp_retI ok (by decide +kernel) (by decide) (by decide) ?_
                            exact ⟨congrArg (fun z => some (Value.int z)) (own_exp_18 w a en sur b0 h_b0 b1 h_b1 b2 h_b2 b3 h_b3 v172_8 h_v172_8 v172_9 h_v172_9 hc174 hc184 hc198 hc206 hc218 hc226 hc238 s269_0 h_s269_0 hc275 hc282 hc288 hc295), rfl⟩
                          · refine wp_run ok hK (B := [(295, .if_icmp .lt 12, false)]) (by decide +kernel) (ps := [Op.if_icmp.holds .lt v172_9 (55296 : Int32) = false]) (pc' := 298) (L' := #[.val (.int w), .val (.int a), .val (.int en), .val (.int sur), .val (.int b0), .val (.int b1), .val (.int b2), .val (.int b3), .val (.int v172_8), .val (.int v172_9), .val (.int s269_0)]) (S' := []) rfl ⟨(XT.ii_lt_f hc295), trivial⟩ ?_
                            refine wp_run ok hK (B := [(298, .iload 9, false), (300, .ldc 22, false)]) (by decide +kernel) (ps := []) (pc' := 302) (L' := #[.val (.int w), .val (.int a), .val (.int en), .val (.int sur), .val (.int b0), .val (.int b1), .val (.int b2), .val (.int b3), .val (.int v172_8), .val (.int v172_9), .val (.int s269_0)]) (S' := [.int (57343 : Int32), .int v172_9]) rfl trivial ?_
                            by_cases hc302 : (57343 : Int32) < v172_9
                            · refine wp_run ok hK (B := [(302, .if_icmp .gt 5, true)]) (by decide +kernel) (ps := [Op.if_icmp.holds .gt v172_9 (57343 : Int32) = true]) (pc' := 307) (L' := #[.val (.int w), .val (.int a), .val (.int en), .val (.int sur), .val (.int b0), .val (.int b1), .val (.int b2), .val (.int b3), .val (.int v172_8), .val (.int v172_9), .val (.int s269_0)]) (S' := []) rfl ⟨(XT.ii_gt_t hc302), trivial⟩ ?_
                              refine wp_run ok hK (B := [(307, .iload_n 1, false), (308, .iload 8, false), (310, .iadd, false)]) (by decide +kernel) (ps := []) (pc' := 311) (L' := #[.val (.int w), .val (.int a), .val (.int en), .val (.int sur), .val (.int b0), .val (.int b1), .val (.int b2), .val (.int b3), .val (.int v172_8), .val (.int v172_9), .val (.int s269_0)]) (S' := [.int (a + v172_8)]) rfl trivial ?_
                              refine wp_retI ok (by decide +kernel) (by decide) (by decide) ?_
                              exact ⟨congrArg (fun z => some (Value.int z)) (own_exp_19 w a en sur b0 h_b0 b1 h_b1 b2 h_b2 b3 h_b3 v172_8 h_v172_8 v172_9 h_v172_9 hc174 hc184 hc198 hc206 hc218 hc226 hc238 s269_0 h_s269_0 hc275 hc282 hc288 hc295 hc302), rfl⟩
                            · refine wp_run ok hK (B := [(302, .if_icmp .gt 5, false)]) (by decide +kernel) (ps := [Op.if_icmp.holds .gt v172_9 (57343 : Int32) = false]) (pc' := 305) (L' := #[.val (.int w), .val (.int a), .val (.int en), .val (.int sur), .val (.int b0), .val (.int b1), .val (.int b2), .val (.int b3), .val (.int v172_8), .val (.int v172_9), .val (.int s269_0)]) (S' := []) rfl ⟨(XT.ii_gt_f hc302), trivial⟩ ?_
                              refine wp_run ok hK (B := [(305, .iconst (-1), false)]) (by decide +kernel) (ps := []) (pc' := 306) (L' := #[.val (.int w), .val (.int a), .val (.int en), .val (.int sur), .val (.int b0), .val (.int b1), .val (.int b2), .val (.int b3), .val (.int v172_8), .val (.int v172_9), .val (.int s269_0)]) (S' := [.int (-1 : Int32)]) rfl trivial ?_
                              refine wp_retI ok (by decide +kernel) (by decide) (by decide) ?_
                              exact ⟨congrArg (fun z => some (Value.int z)) (own_exp_20 w a en sur b0 h_b0 b1 h_b1 b2 h_b2 b3 h_b3 v172_8 h_v172_8 v172_9 h_v172_9 hc174 hc184 hc198 hc206 hc218 hc226 hc238 s269_0 h_s269_0 hc275 hc282 hc288 hc295 hc302), rfl⟩
                        · refine wp_run ok hK (B := [(288, .ifCond .ne 19, true)]) (by decide +kernel) (ps := [Op.ifCond.holds .ne sur = true]) (pc' := 307) (L' := #[.val (.int w), .val (.int a), .val (.int en), .val (.int sur), .val (.int b0), .val (.int b1), .val (.int b2), .val (.int b3), .val (.int v172_8), .val (.int v172_9), .val (.int s269_0)]) (S' := []) rfl ⟨(XT.i0_ne_t hc288), trivial⟩ ?_
                          refine wp_run ok hK (B := [(307, .iload_n 1, false), (308, .iload 8, false), (310, .iadd, false)]) (by decide +kernel) (ps := []) (pc' := 311) (L' := #[.val (.int w), .val (.int a), .val (.int en), .val (.int sur), .val (.int b0), .val (.int b1), .val (.int b2), .val (.int b3), .val (.int v172_8), .val (.int v172_9), .val (.int s269_0)]) (S' := [.int (a + v172_8)]) rfl trivial ?_
                          refine wp_retI ok (by decide +kernel) (by decide) (by decide) ?_
                          exact ⟨congrArg (fun z => some (Value.int z)) (own_exp_21 w a en sur b0 h_b0 b1 h_b1 b2 h_b2 b3 h_b3 v172_8 h_v172_8 v172_9 h_v172_9 hc174 hc184 hc198 hc206 hc218 hc226 hc238 s269_0 h_s269_0 hc275 hc282 hc288), rfl⟩
                  by_cases c11 : v172_8 = (2 : Int32)
                  · refine wp_run ok hK (B := [(246, .if_icmp .ne 9, false), (249, .sipush 128, false), (252, .goto 17, false)]) (by decide +kernel) (ps := [Op.if_icmp.holds .ne v172_8 (2 : Int32) = false]) (pc' := 269) (L' := #[.val (.int w), .val (.int a), .val (.int en), .val (.int sur), .val (.int b0), .val (.int b1), .val (.int b2), .val (.int b3), .val (.int v172_8), .val (.int v172_9), .unset]) (S' := [.int (128 : Int32)]) rfl ⟨(XT.ii_ne_f c11), trivial⟩ ?_
                    exact J269_13 _ (by rw [if_pos c11])
                  · by_cases c12 : v172_8 = (3 : Int32)
                    · refine wp_run ok hK (B := [(246, .if_icmp .ne 9, true), (255, .iload 8, false), (257, .iconst 3, false), (258, .if_icmp .ne 9, false), (261, .sipush 2048, false), (264, .goto 5, false)]) (by decide +kernel) (ps := [Op.if_icmp.holds .ne v172_8 (2 : Int32) = true, Op.if_icmp.holds .ne v172_8 (3 : Int32) = false]) (pc' := 269) (L' := #[.val (.int w), .val (.int a), .val (.int en), .val (.int sur), .val (.int b0), .val (.int b1), .val (.int b2), .val (.int b3), .val (.int v172_8), .val (.int v172_9), .unset]) (S' := [.int (2048 : Int32)]) rfl ⟨(XT.ii_ne_t c11), (XT.ii_ne_f c12), trivial⟩ ?_
                      exact J269_13 _ (by rw [if_neg c11, if_pos c12])
                    · refine wp_run ok hK (B := [(246, .if_icmp .ne 9, true), (255, .iload 8, false), (257, .iconst 3, false), (258, .if_icmp .ne 9, true), (267, .ldc 19, false)]) (by decide +kernel) (ps := [Op.if_icmp.holds .ne v172_8 (2 : Int32) = true, Op.if_icmp.holds .ne v172_8 (3 : Int32) = true]) (pc' := 269) (L' := #[.val (.int w), .val (.int a), .val (.int en), .val (.int sur), .val (.int b0), .val (.int b1), .val (.int b2), .val (.int b3), .val (.int v172_8), .val (.int v172_9), .unset]) (S' := [.int (65536 : Int32)]) rfl ⟨(XT.ii_ne_t c11), (XT.ii_ne_t c12), trivial⟩ ?_
                      exact J269_13 _ (by rw [if_neg c11, if_neg c12])
                · refine wp_run ok hK (B := [(238, .if_icmp .eq 5, false)]) (by decide +kernel) (ps := [Op.if_icmp.holds .eq (b3 &&& (192 : Int32)) (128 : Int32) = false]) (pc' := 241) (L' := #[.val (.int w), .val (.int a), .val (.int en), .val (.int sur), .val (.int b0), .val (.int b1), .val (.int b2), .val (.int b3), .val (.int v172_8), .val (.int v172_9), .unset]) (S' := []) rfl ⟨(XT.ii_eq_f hc238), trivial⟩ ?_
                  refine wp_run ok hK (B := [(241, .iconst (-1), false)]) (by decide +kernel) (ps := []) (pc' := 242) (L' := #[.val (.int w), .val (.int a), .val (.int en), .val (.int sur), .val (.int b0), .val (.int b1), .val (.int b2), .val (.int b3), .val (.int v172_8), .val (.int v172_9), .unset]) (S' := [.int (-1 : Int32)]) rfl trivial ?_
                  refine wp_retI ok (by decide +kernel) (by decide) (by decide) ?_
                  exact ⟨congrArg (fun z => some (Value.int z)) (own_exp_22 w a en sur b0 h_b0 b1 h_b1 b2 h_b2 b3 h_b3 v172_8 h_v172_8 v172_9 h_v172_9 hc174 hc184 hc198 hc206 hc218 hc226 hc238), rfl⟩
            · refine wp_run ok hK (B := [(218, .if_icmp .eq 5, false)]) (by decide +kernel) (ps := [Op.if_icmp.holds .eq (b2 &&& (192 : Int32)) (128 : Int32) = false]) (pc' := 221) (L' := #[.val (.int w), .val (.int a), .val (.int en), .val (.int sur), .val (.int b0), .val (.int b1), .val (.int b2), .val (.int b3), .val (.int v172_8), .val (.int v172_9), .unset]) (S' := []) rfl ⟨(XT.ii_eq_f hc218), trivial⟩ ?_
              refine wp_run ok hK (B := [(221, .iconst (-1), false)]) (by decide +kernel) (ps := []) (pc' := 222) (L' := #[.val (.int w), .val (.int a), .val (.int en), .val (.int sur), .val (.int b0), .val (.int b1), .val (.int b2), .val (.int b3), .val (.int v172_8), .val (.int v172_9), .unset]) (S' := [.int (-1 : Int32)]) rfl trivial ?_
              refine wp_retI ok (by decide +kernel) (by decide) (by decide) ?_
              exact ⟨congrArg (fun z => some (Value.int z)) (own_exp_23 w a en sur b0 h_b0 b1 h_b1 b2 h_b2 b3 h_b3 v172_8 h_v172_8 v172_9 h_v172_9 hc174 hc184 hc198 hc206 hc218), rfl⟩
        · refine wp_run ok hK (B := [(198, .if_icmp .eq 5, false)]) (by decide +kernel) (ps := [Op.if_icmp.holds .eq (b1 &&& (192 : Int32)) (128 : Int32) = false]) (pc' := 201) (L' := #[.val (.int w), .val (.int a), .val (.int en), .val (.int sur), .val (.int b0), .val (.int b1), .val (.int b2), .val (.int b3), .val (.int v172_8), .val (.int v172_9), .unset]) (S' := []) rfl ⟨(XT.ii_eq_f hc198), trivial⟩ ?_
          refine wp_run ok hK (B := [(201, .iconst (-1), false)]) (by decide +kernel) (ps := []) (pc' := 202) (L' := #[.val (.int w), .val (.int a), .val (.int en), .val (.int sur), .val (.int b0), .val (.int b1), .val (.int b2), .val (.int b3), .val (.int v172_8), .val (.int v172_9), .unset]) (S' := [.int (-1 : Int32)]) rfl trivial ?_
          refine wp_retI ok (by decide +kernel) (by decide) (by decide) ?_
          exact ⟨congrArg (fun z => some (Value.int z)) (own_exp_24 w a en sur b0 h_b0 b1 h_b1 b2 h_b2 b3 h_b3 v172_8 h_v172_8 v172_9 h_v172_9 hc174 hc184 hc198), rfl⟩
  by_cases c1 : (b0 &&& (224 : Int32)) = (192 : Int32)
  · refine wp_run ok hK (B := [(46, .if_icmp .ne 25, false), (49, .iconst 2, false), (50, .istore 8, false), (52, .iload 4, false), (54, .bipush 31, false), (56, .iand, false), (57, .bipush 6, false), (59, .ishl, false), (60, .iload 5, false), (62, .bipush 63, false), (64, .iand, false), (65, .ior, false), (66, .istore 9, false)]) (by decide +kernel) (ps := [Op.if_icmp.holds .ne (b0 &&& (224 : Int32)) (192 : Int32) = false]) (pc' := 68) (L' := #[.val (.int w), .val (.int a), .val (.int en), .val (.int sur), .val (.int b0), .val (.int b1), .val (.int b2), .val (.int b3), .val (.int (2 : Int32)), .val (.int (((b0 &&& (31 : Int32)) <<< ((6 : Int32) &&& 31)) ||| (b1 &&& (63 : Int32)))), .unset]) (S' := []) rfl ⟨(XT.ii_ne_f c1), trivial⟩ ?_
    refine wp_run ok hK (B := [(68, .goto 104, false)]) (by decide +kernel) (ps := []) (pc' := 172) (L' := #[.val (.int w), .val (.int a), .val (.int en), .val (.int sur), .val (.int b0), .val (.int b1), .val (.int b2), .val (.int b3), .val (.int (2 : Int32)), .val (.int (((b0 &&& (31 : Int32)) <<< ((6 : Int32) &&& 31)) ||| (b1 &&& (63 : Int32)))), .unset]) (S' := []) rfl trivial ?_
    exact J172_4 _ _ (by rw [if_pos c1]) (by rw [if_pos c1])
  · by_cases c2 : (b0 &&& (240 : Int32)) = (224 : Int32)
    · refine wp_run ok hK (B := [(46, .if_icmp .ne 25, true), (71, .iload 4, false), (73, .sipush 240, false), (76, .iand, false), (77, .sipush 224, false), (80, .if_icmp .ne 34, false), (83, .iconst 3, false), (84, .istore 8, false), (86, .iload 4, false), (88, .bipush 15, false), (90, .iand, false), (91, .bipush 12, false), (93, .ishl, false), (94, .iload 5, false)]) (by decide +kernel) (ps := [Op.if_icmp.holds .ne (b0 &&& (224 : Int32)) (192 : Int32) = true, Op.if_icmp.holds .ne (b0 &&& (240 : Int32)) (224 : Int32) = false]) (pc' := 96) (L' := #[.val (.int w), .val (.int a), .val (.int en), .val (.int sur), .val (.int b0), .val (.int b1), .val (.int b2), .val (.int b3), .val (.int (3 : Int32)), .unset, .unset]) (S' := [.int b1, .int ((b0 &&& (15 : Int32)) <<< ((12 : Int32) &&& 31))]) rfl ⟨(XT.ii_ne_t c1), (XT.ii_ne_f c2), trivial⟩ ?_
      refine wp_run ok hK (B := [(96, .bipush 63, false), (98, .iand, false), (99, .bipush 6, false), (101, .ishl, false), (102, .ior, false), (103, .iload 6, false), (105, .bipush 63, false), (107, .iand, false), (108, .ior, false), (109, .istore 9, false), (111, .goto 61, false)]) (by decide +kernel) (ps := []) (pc' := 172) (L' := #[.val (.int w), .val (.int a), .val (.int en), .val (.int sur), .val (.int b0), .val (.int b1), .val (.int b2), .val (.int b3), .val (.int (3 : Int32)), .val (.int ((((b0 &&& (15 : Int32)) <<< ((12 : Int32) &&& 31)) ||| ((b1 &&& (63 : Int32)) <<< ((6 : Int32) &&& 31))) ||| (b2 &&& (63 : Int32)))), .unset]) (S' := []) rfl trivial ?_
      exact J172_4 _ _ (by rw [if_neg c1, if_pos c2]) (by rw [if_neg c1, if_pos c2])
    · by_cases c3 : (b0 &&& (248 : Int32)) = (240 : Int32)
      · refine wp_run ok hK (B := [(46, .if_icmp .ne 25, true), (71, .iload 4, false), (73, .sipush 240, false), (76, .iand, false), (77, .sipush 224, false), (80, .if_icmp .ne 34, true), (114, .iload 4, false), (116, .sipush 248, false), (119, .iand, false), (120, .sipush 240, false), (123, .if_icmp .ne 43, false), (126, .iconst 4, false), (127, .istore 8, false), (129, .iload 4, false)]) (by decide +kernel) (ps := [Op.if_icmp.holds .ne (b0 &&& (224 : Int32)) (192 : Int32) = true, Op.if_icmp.holds .ne (b0 &&& (240 : Int32)) (224 : Int32) = true, Op.if_icmp.holds .ne (b0 &&& (248 : Int32)) (240 : Int32) = false]) (pc' := 131) (L' := #[.val (.int w), .val (.int a), .val (.int en), .val (.int sur), .val (.int b0), .val (.int b1), .val (.int b2), .val (.int b3), .val (.int (4 : Int32)), .unset, .unset]) (S' := [.int b0]) rfl ⟨(XT.ii_ne_t c1), (XT.ii_ne_t c2), (XT.ii_ne_f c3), trivial⟩ ?_
        refine wp_run ok hK (B := [(131, .bipush 7, false), (133, .iand, false), (134, .bipush 18, false), (136, .ishl, false), (137, .iload 5, false), (139, .bipush 63, false), (141, .iand, false), (142, .bipush 12, false), (144, .ishl, false), (145, .ior, false), (146, .iload 6, false), (148, .bipush 63, false), (150, .iand, false), (151, .bipush 6, false)]) (by decide +kernel) (ps := []) (pc' := 153) (L' := #[.val (.int w), .val (.int a), .val (.int en), .val (.int sur), .val (.int b0), .val (.int b1), .val (.int b2), .val (.int b3), .val (.int (4 : Int32)), .unset, .unset]) (S' := [.int (6 : Int32), .int (b2 &&& (63 : Int32)), .int (((b0 &&& (7 : Int32)) <<< ((18 : Int32) &&& 31)) ||| ((b1 &&& (63 : Int32)) <<< ((12 : Int32) &&& 31)))]) rfl trivial ?_
        refine wp_run ok hK (B := [(153, .ishl, false), (154, .ior, false), (155, .iload 7, false), (157, .bipush 63, false), (159, .iand, false), (160, .ior, false), (161, .istore 9, false), (163, .goto 9, false)]) (by decide +kernel) (ps := []) (pc' := 172) (L' := #[.val (.int w), .val (.int a), .val (.int en), .val (.int sur), .val (.int b0), .val (.int b1), .val (.int b2), .val (.int b3), .val (.int (4 : Int32)), .val (.int (((((b0 &&& (7 : Int32)) <<< ((18 : Int32) &&& 31)) ||| ((b1 &&& (63 : Int32)) <<< ((12 : Int32) &&& 31))) ||| ((b2 &&& (63 : Int32)) <<< ((6 : Int32) &&& 31))) ||| (b3 &&& (63 : Int32)))), .unset]) (S' := []) rfl trivial ?_
        exact J172_4 _ _ (by rw [if_neg c1, if_neg c2, if_pos c3]) (by rw [if_neg c1, if_neg c2, if_pos c3])
      · refine wp_run ok hK (B := [(46, .if_icmp .ne 25, true), (71, .iload 4, false), (73, .sipush 240, false), (76, .iand, false), (77, .sipush 224, false), (80, .if_icmp .ne 34, true), (114, .iload 4, false), (116, .sipush 248, false), (119, .iand, false), (120, .sipush 240, false), (123, .if_icmp .ne 43, true), (166, .iconst 0, false), (167, .istore 8, false), (169, .iconst 0, false)]) (by decide +kernel) (ps := [Op.if_icmp.holds .ne (b0 &&& (224 : Int32)) (192 : Int32) = true, Op.if_icmp.holds .ne (b0 &&& (240 : Int32)) (224 : Int32) = true, Op.if_icmp.holds .ne (b0 &&& (248 : Int32)) (240 : Int32) = true]) (pc' := 170) (L' := #[.val (.int w), .val (.int a), .val (.int en), .val (.int sur), .val (.int b0), .val (.int b1), .val (.int b2), .val (.int b3), .val (.int (0 : Int32)), .unset, .unset]) (S' := [.int (0 : Int32)]) rfl ⟨(XT.ii_ne_t c1), (XT.ii_ne_t c2), (XT.ii_ne_t c3), trivial⟩ ?_
        refine wp_run ok hK (B := [(170, .istore 9, false)]) (by decide +kernel) (ps := []) (pc' := 172) (L' := #[.val (.int w), .val (.int a), .val (.int en), .val (.int sur), .val (.int b0), .val (.int b1), .val (.int b2), .val (.int b3), .val (.int (0 : Int32)), .val (.int (0 : Int32)), .unset]) (S' := []) rfl trivial ?_
        exact J172_4 _ _ (by rw [if_neg c1, if_neg c2, if_neg c3]) (by rw [if_neg c1, if_neg c2, if_neg c3])
def k_law : List (Nat × Value) := [(20, .int (1114111 : Int32)), (21, .int (55296 : Int32)), (22, .int (57343 : Int32)), (19, .int (65536 : Int32))]
def QL : Post := fun v _ => v = some (.int 1)
theorem own_law_1 (w : Int32) (f : Int64) (ctl : Int32) (en : Int32) (s28_0 : Int32) (h_s28_0 : s28_0 = (if (ctl &&& (4 : Int32)) = (0 : Int32) then (0 : Int32) else (1 : Int32))) (j0 : Int32) (j1 : Int32) (j2 : Int32) (j3 : Int32) (j4 : Int32) (j5 : Int32) (j6 : Int32) (j7 : Int32) (z166 : Int32) (h_z166 : z166 = (seqZ (0 : Int32) ((nar .byte (w.toInt8.toInt32)) &&& (255 : Int32)) ((nar .byte ((ush w (8 : Int32)).toInt8.toInt32)) &&& (255 : Int32)) ((nar .byte ((ush w (16 : Int32)).toInt8.toInt32)) &&& (255 : Int32)) ((nar .byte ((ush w (24 : Int32)).toInt8.toInt32)) &&& (255 : Int32)) (en - (0 : Int32)) s28_0)) (z180 : Int32) (h_z180 : z180 = (seqZ (0 : Int32) (w &&& (255 : Int32)) ((ush w (8 : Int32)) &&& (255 : Int32)) ((ush w (16 : Int32)) &&& (255 : Int32)) ((ush w (24 : Int32)) &&& (255 : Int32)) (en - (0 : Int32)) s28_0)) : z166 = z180 := by
  rw [h_z166, h_z180, own_n, own_n, own_n, own_n]
theorem own_law_2 (w : Int32) (f : Int64) (ctl : Int32) (en : Int32) (s28_0 : Int32) (h_s28_0 : s28_0 = (if (ctl &&& (4 : Int32)) = (0 : Int32) then (0 : Int32) else (1 : Int32))) (j0 : Int32) (j1 : Int32) (j2 : Int32) (j3 : Int32) (j4 : Int32) (j5 : Int32) (j6 : Int32) (j7 : Int32) (z166 : Int32) (h_z166 : z166 = (seqZ (0 : Int32) ((nar .byte (w.toInt8.toInt32)) &&& (255 : Int32)) ((nar .byte ((ush w (8 : Int32)).toInt8.toInt32)) &&& (255 : Int32)) ((nar .byte ((ush w (16 : Int32)).toInt8.toInt32)) &&& (255 : Int32)) ((nar .byte ((ush w (24 : Int32)).toInt8.toInt32)) &&& (255 : Int32)) (en - (0 : Int32)) s28_0)) (z180 : Int32) (h_z180 : z180 = (seqZ (0 : Int32) (w &&& (255 : Int32)) ((ush w (8 : Int32)) &&& (255 : Int32)) ((ush w (16 : Int32)) &&& (255 : Int32)) ((ush w (24 : Int32)) &&& (255 : Int32)) (en - (0 : Int32)) s28_0)) : nar .boolean (1 : Int32) = 1 := by
  rfl
theorem own_law_3 (w : Int32) (f : Int64) (ctl : Int32) (en : Int32) (s28_0 : Int32) (h_s28_0 : s28_0 = (if (ctl &&& (4 : Int32)) = (0 : Int32) then (0 : Int32) else (1 : Int32))) (j0 : Int32) (j1 : Int32) (j2 : Int32) (j3 : Int32) (j4 : Int32) (j5 : Int32) (j6 : Int32) (j7 : Int32) (z166 : Int32) (h_z166 : z166 = (seqZ (1 : Int32) ((nar .byte (w.toInt8.toInt32)) &&& (255 : Int32)) ((nar .byte ((ush w (8 : Int32)).toInt8.toInt32)) &&& (255 : Int32)) ((nar .byte ((ush w (16 : Int32)).toInt8.toInt32)) &&& (255 : Int32)) ((nar .byte ((ush w (24 : Int32)).toInt8.toInt32)) &&& (255 : Int32)) (en - (1 : Int32)) s28_0)) (z180 : Int32) (h_z180 : z180 = (seqZ (1 : Int32) (w &&& (255 : Int32)) ((ush w (8 : Int32)) &&& (255 : Int32)) ((ush w (16 : Int32)) &&& (255 : Int32)) ((ush w (24 : Int32)) &&& (255 : Int32)) (en - (1 : Int32)) s28_0)) : z166 = z180 := by
  rw [h_z166, h_z180, own_n, own_n, own_n, own_n]
theorem own_law_4 (w : Int32) (f : Int64) (ctl : Int32) (en : Int32) (s28_0 : Int32) (h_s28_0 : s28_0 = (if (ctl &&& (4 : Int32)) = (0 : Int32) then (0 : Int32) else (1 : Int32))) (j0 : Int32) (j1 : Int32) (j2 : Int32) (j3 : Int32) (j4 : Int32) (j5 : Int32) (j6 : Int32) (j7 : Int32) (z166 : Int32) (h_z166 : z166 = (seqZ (1 : Int32) ((nar .byte (w.toInt8.toInt32)) &&& (255 : Int32)) ((nar .byte ((ush w (8 : Int32)).toInt8.toInt32)) &&& (255 : Int32)) ((nar .byte ((ush w (16 : Int32)).toInt8.toInt32)) &&& (255 : Int32)) ((nar .byte ((ush w (24 : Int32)).toInt8.toInt32)) &&& (255 : Int32)) (en - (1 : Int32)) s28_0)) (z180 : Int32) (h_z180 : z180 = (seqZ (1 : Int32) (w &&& (255 : Int32)) ((ush w (8 : Int32)) &&& (255 : Int32)) ((ush w (16 : Int32)) &&& (255 : Int32)) ((ush w (24 : Int32)) &&& (255 : Int32)) (en - (1 : Int32)) s28_0)) : nar .boolean (1 : Int32) = 1 := by
  rfl
theorem own_law_5 (w : Int32) (f : Int64) (ctl : Int32) (en : Int32) (s28_0 : Int32) (h_s28_0 : s28_0 = (if (ctl &&& (4 : Int32)) = (0 : Int32) then (0 : Int32) else (1 : Int32))) (j0 : Int32) (j1 : Int32) (j2 : Int32) (j3 : Int32) (j4 : Int32) (j5 : Int32) (j6 : Int32) (j7 : Int32) (z166 : Int32) (h_z166 : z166 = (seqZ (2 : Int32) ((nar .byte (w.toInt8.toInt32)) &&& (255 : Int32)) ((nar .byte ((ush w (8 : Int32)).toInt8.toInt32)) &&& (255 : Int32)) ((nar .byte ((ush w (16 : Int32)).toInt8.toInt32)) &&& (255 : Int32)) ((nar .byte ((ush w (24 : Int32)).toInt8.toInt32)) &&& (255 : Int32)) (en - (2 : Int32)) s28_0)) (z180 : Int32) (h_z180 : z180 = (seqZ (2 : Int32) (w &&& (255 : Int32)) ((ush w (8 : Int32)) &&& (255 : Int32)) ((ush w (16 : Int32)) &&& (255 : Int32)) ((ush w (24 : Int32)) &&& (255 : Int32)) (en - (2 : Int32)) s28_0)) : z166 = z180 := by
  rw [h_z166, h_z180, own_n, own_n, own_n, own_n]
theorem own_law_6 (w : Int32) (f : Int64) (ctl : Int32) (en : Int32) (s28_0 : Int32) (h_s28_0 : s28_0 = (if (ctl &&& (4 : Int32)) = (0 : Int32) then (0 : Int32) else (1 : Int32))) (j0 : Int32) (j1 : Int32) (j2 : Int32) (j3 : Int32) (j4 : Int32) (j5 : Int32) (j6 : Int32) (j7 : Int32) (z166 : Int32) (h_z166 : z166 = (seqZ (2 : Int32) ((nar .byte (w.toInt8.toInt32)) &&& (255 : Int32)) ((nar .byte ((ush w (8 : Int32)).toInt8.toInt32)) &&& (255 : Int32)) ((nar .byte ((ush w (16 : Int32)).toInt8.toInt32)) &&& (255 : Int32)) ((nar .byte ((ush w (24 : Int32)).toInt8.toInt32)) &&& (255 : Int32)) (en - (2 : Int32)) s28_0)) (z180 : Int32) (h_z180 : z180 = (seqZ (2 : Int32) (w &&& (255 : Int32)) ((ush w (8 : Int32)) &&& (255 : Int32)) ((ush w (16 : Int32)) &&& (255 : Int32)) ((ush w (24 : Int32)) &&& (255 : Int32)) (en - (2 : Int32)) s28_0)) : nar .boolean (1 : Int32) = 1 := by
  rfl
theorem own_law_7 (w : Int32) (f : Int64) (ctl : Int32) (en : Int32) (s28_0 : Int32) (h_s28_0 : s28_0 = (if (ctl &&& (4 : Int32)) = (0 : Int32) then (0 : Int32) else (1 : Int32))) (j0 : Int32) (j1 : Int32) (j2 : Int32) (j3 : Int32) (j4 : Int32) (j5 : Int32) (j6 : Int32) (j7 : Int32) (z166 : Int32) (h_z166 : z166 = (seqZ (3 : Int32) ((nar .byte (w.toInt8.toInt32)) &&& (255 : Int32)) ((nar .byte ((ush w (8 : Int32)).toInt8.toInt32)) &&& (255 : Int32)) ((nar .byte ((ush w (16 : Int32)).toInt8.toInt32)) &&& (255 : Int32)) ((nar .byte ((ush w (24 : Int32)).toInt8.toInt32)) &&& (255 : Int32)) (en - (3 : Int32)) s28_0)) (z180 : Int32) (h_z180 : z180 = (seqZ (3 : Int32) (w &&& (255 : Int32)) ((ush w (8 : Int32)) &&& (255 : Int32)) ((ush w (16 : Int32)) &&& (255 : Int32)) ((ush w (24 : Int32)) &&& (255 : Int32)) (en - (3 : Int32)) s28_0)) : z166 = z180 := by
  rw [h_z166, h_z180, own_n, own_n, own_n, own_n]
theorem own_law_8 (w : Int32) (f : Int64) (ctl : Int32) (en : Int32) (s28_0 : Int32) (h_s28_0 : s28_0 = (if (ctl &&& (4 : Int32)) = (0 : Int32) then (0 : Int32) else (1 : Int32))) (j0 : Int32) (j1 : Int32) (j2 : Int32) (j3 : Int32) (j4 : Int32) (j5 : Int32) (j6 : Int32) (j7 : Int32) (z166 : Int32) (h_z166 : z166 = (seqZ (3 : Int32) ((nar .byte (w.toInt8.toInt32)) &&& (255 : Int32)) ((nar .byte ((ush w (8 : Int32)).toInt8.toInt32)) &&& (255 : Int32)) ((nar .byte ((ush w (16 : Int32)).toInt8.toInt32)) &&& (255 : Int32)) ((nar .byte ((ush w (24 : Int32)).toInt8.toInt32)) &&& (255 : Int32)) (en - (3 : Int32)) s28_0)) (z180 : Int32) (h_z180 : z180 = (seqZ (3 : Int32) (w &&& (255 : Int32)) ((ush w (8 : Int32)) &&& (255 : Int32)) ((ush w (16 : Int32)) &&& (255 : Int32)) ((ush w (24 : Int32)) &&& (255 : Int32)) (en - (3 : Int32)) s28_0)) : nar .boolean (1 : Int32) = 1 := by
  rfl
theorem pn_law : plainFor x = true := by first | (refine plainFor_of_name ?_; show plainName "com/example/stamp_to_key/stamptokey/Utf8SequenceEndPinLaw" = true; simp [plainName, overriddenIn]; done) | decide +kernel
set_option maxRecDepth 65536 in
set_option maxHeartbeats 40000000 in
theorem c_law (l : Launch) (Z : State) (a0 : Array Value) (hw : ∀ d ∈ tables_1, d.before a0 Z = true) (w : Int32) (f : Int64) (ctl : Int32) (h0 : Heap) (n0 : Nat) (Z0 : n0 ≤ h0.size) :
    Con l Z x code maxLocals ret room_1 #[.int w, .long f, .int ctl] h0 n0 QL tables_1 := by
  refine con_of_wp pn_law (L0 := #[.val (.int w), .val (.long f), .second, .val (.int ctl), .unset, .unset, .unset, .unset, .unset]) (fun m => by first | (simp [entryFrame, mkF, argsToLocals, Value.category, maxLocals]; done) | rfl) (fun X hl ok => ?_)
  subst hl
  have hK : Konst Z a0 "com/example/stamp_to_key/stamptokey/Utf8SequenceEndPinLaw" k_law := ⟨Or.inl ⟨_, rfl, wd hw 9 rfl⟩, ⟨Or.inl ⟨_, rfl, wd hw 10 rfl⟩, ⟨Or.inl ⟨_, rfl, wd hw 11 rfl⟩, ⟨Or.inl ⟨_, rfl, wd hw 12 rfl⟩, trivial⟩⟩⟩⟩
  refine wp_run ok hK (B := [(0, .iload_n 3, false), (1, .iconst 3, false), (2, .iand, false), (3, .istore 4, false)]) (by decide +kernel) (ps := []) (pc' := 5) (L' := #[.val (.int w), .val (.long f), .second, .val (.int ctl), .val (.int (ctl &&& (3 : Int32))), .unset, .unset, .unset, .unset]) (S' := []) rfl trivial ?_
  obtain ⟨at_, h_at_⟩ : ∃ z : Int32, z = (ctl &&& (3 : Int32)) := ⟨_, rfl⟩
  rw [← h_at_]
  refine wp_run ok hK (B := [(5, .iload 4, false), (7, .iconst 1, false), (8, .iadd, false), (9, .iload_n 3, false), (10, .iconst 3, false), (11, .iushr, false), (12, .iconst 5, false), (13, .irem, false), (14, .iadd, false), (15, .istore 5, false)]) (by decide +kernel) (ps := [(5 : Int32) ≠ 0]) (pc' := 17) (L' := #[.val (.int w), .val (.long f), .second, .val (.int ctl), .val (.int at_), .val (.int ((at_ + (1 : Int32)) + ((ush ctl (3 : Int32)) % (5 : Int32)))), .unset, .unset, .unset]) (S' := []) rfl ⟨(by decide), trivial⟩ ?_
  obtain ⟨en, h_en⟩ : ∃ z : Int32, z = ((at_ + (1 : Int32)) + ((ush ctl (3 : Int32)) % (5 : Int32))) := ⟨_, rfl⟩
  rw [← h_en]
  refine wp_run ok hK (B := [(17, .iload_n 3, false), (18, .iconst 4, false), (19, .iand, false)]) (by decide +kernel) (ps := []) (pc' := 20) (L' := #[.val (.int w), .val (.long f), .second, .val (.int ctl), .val (.int at_), .val (.int en), .unset, .unset, .unset]) (S' := [.int (ctl &&& (4 : Int32))]) rfl trivial ?_
  have J28_2 : ∀ (s28_0 : Int32) (h_s28_0 : s28_0 = (if (ctl &&& (4 : Int32)) = (0 : Int32) then (0 : Int32) else (1 : Int32))), WP X n0 QL h0 0 0 28 #[.val (.int w), .val (.long f), .second, .val (.int ctl), .val (.int at_), .val (.int en), .unset, .unset, .unset] [.int s28_0] := by
    intro s28_0 h_s28_0
    refine wp_run ok hK (B := [(28, .istore 6, false), (30, .bipush 8, false)]) (by decide +kernel) (ps := []) (pc' := 32) (L' := #[.val (.int w), .val (.long f), .second, .val (.int ctl), .val (.int at_), .val (.int en), .val (.int s28_0), .unset, .unset]) (S' := [.int (8 : Int32)]) rfl trivial ?_
    refine wp_nA ok (aty := .byte) (wd hw 0 rfl) (by decide +kernel) (cap := 8) (by rfl) (by decide) (by decide) (by decide) ?_
    intro h3 a4 ea5 X6 A7
    have Z8 : n0 ≤ h3.size := Nat.le_trans Z0 X6.1
    have A9 : Ar Z h3 a4 .byte 8 (lst [.int (0 : Int32), .int (0 : Int32), .int (0 : Int32), .int (0 : Int32), .int (0 : Int32), .int (0 : Int32), .int (0 : Int32), .int (0 : Int32)]) := lst_new A7 rfl
    have g10 : n0 ≤ a4 := by rw [ea5]; exact Z0
    refine wp_run ok hK (B := [(34, .astore 7, false), (36, .aload 7, false), (38, .iconst 0, false), (39, .lload_n 1, false), (40, .l2i, false), (41, .i2b, false)]) (by decide +kernel) (ps := []) (pc' := 42) (L' := #[.val (.int w), .val (.long f), .second, .val (.int ctl), .val (.int at_), .val (.int en), .val (.int s28_0), .val ((.ref a4)), .unset]) (S' := [.int ((f.toInt32).toInt8.toInt32), .int (0 : Int32), (.ref a4)]) rfl trivial ?_
    refine wp_sB ok A9 (i := 0) (by rfl) (by decide) (by decide +kernel) g10 ?_
    intro h11 W12 A13
    have A14 : Ar Z h11 a4 .byte 8 (lst [.int (nar .byte ((f.toInt32).toInt8.toInt32)), .int (0 : Int32), .int (0 : Int32), .int (0 : Int32), .int (0 : Int32), .int (0 : Int32), .int (0 : Int32), .int (0 : Int32)]) := lst_set A13 rfl (by decide) rfl
    have Z15 : n0 ≤ h11.size := by rw [W12.size]; exact Z8
    refine wp_run ok hK (B := [(43, .aload 7, false), (45, .iconst 1, false), (46, .lload_n 1, false), (47, .bipush 8, false), (49, .lushr, false), (50, .l2i, false), (51, .i2b, false)]) (by decide +kernel) (ps := []) (pc' := 52) (L' := #[.val (.int w), .val (.long f), .second, .val (.int ctl), .val (.int at_), .val (.int en), .val (.int s28_0), .val ((.ref a4)), .unset]) (S' := [.int (((ushL f (8 : Int32)).toInt32).toInt8.toInt32), .int (1 : Int32), (.ref a4)]) rfl trivial ?_
    refine wp_sB ok A14 (i := 1) (by rfl) (by decide) (by decide +kernel) g10 ?_
    intro h16 W17 A18
    have A19 : Ar Z h16 a4 .byte 8 (lst [.int (nar .byte ((f.toInt32).toInt8.toInt32)), .int (nar .byte (((ushL f (8 : Int32)).toInt32).toInt8.toInt32)), .int (0 : Int32), .int (0 : Int32), .int (0 : Int32), .int (0 : Int32), .int (0 : Int32), .int (0 : Int32)]) := lst_set A18 rfl (by decide) rfl
    have Z20 : n0 ≤ h16.size := by rw [W17.size]; exact Z15
    refine wp_run ok hK (B := [(53, .aload 7, false), (55, .iconst 2, false), (56, .lload_n 1, false), (57, .bipush 16, false), (59, .lushr, false), (60, .l2i, false), (61, .i2b, false)]) (by decide +kernel) (ps := []) (pc' := 62) (L' := #[.val (.int w), .val (.long f), .second, .val (.int ctl), .val (.int at_), .val (.int en), .val (.int s28_0), .val ((.ref a4)), .unset]) (S' := [.int (((ushL f (16 : Int32)).toInt32).toInt8.toInt32), .int (2 : Int32), (.ref a4)]) rfl trivial ?_
    refine wp_sB ok A19 (i := 2) (by rfl) (by decide) (by decide +kernel) g10 ?_
    intro h21 W22 A23
    have A24 : Ar Z h21 a4 .byte 8 (lst [.int (nar .byte ((f.toInt32).toInt8.toInt32)), .int (nar .byte (((ushL f (8 : Int32)).toInt32).toInt8.toInt32)), .int (nar .byte (((ushL f (16 : Int32)).toInt32).toInt8.toInt32)), .int (0 : Int32), .int (0 : Int32), .int (0 : Int32), .int (0 : Int32), .int (0 : Int32)]) := lst_set A23 rfl (by decide) rfl
    have Z25 : n0 ≤ h21.size := by rw [W22.size]; exact Z20
    refine wp_run ok hK (B := [(63, .aload 7, false), (65, .iconst 3, false), (66, .lload_n 1, false), (67, .bipush 24, false), (69, .lushr, false), (70, .l2i, false), (71, .i2b, false)]) (by decide +kernel) (ps := []) (pc' := 72) (L' := #[.val (.int w), .val (.long f), .second, .val (.int ctl), .val (.int at_), .val (.int en), .val (.int s28_0), .val ((.ref a4)), .unset]) (S' := [.int (((ushL f (24 : Int32)).toInt32).toInt8.toInt32), .int (3 : Int32), (.ref a4)]) rfl trivial ?_
    refine wp_sB ok A24 (i := 3) (by rfl) (by decide) (by decide +kernel) g10 ?_
    intro h26 W27 A28
    have A29 : Ar Z h26 a4 .byte 8 (lst [.int (nar .byte ((f.toInt32).toInt8.toInt32)), .int (nar .byte (((ushL f (8 : Int32)).toInt32).toInt8.toInt32)), .int (nar .byte (((ushL f (16 : Int32)).toInt32).toInt8.toInt32)), .int (nar .byte (((ushL f (24 : Int32)).toInt32).toInt8.toInt32)), .int (0 : Int32), .int (0 : Int32), .int (0 : Int32), .int (0 : Int32)]) := lst_set A28 rfl (by decide) rfl
    have Z30 : n0 ≤ h26.size := by rw [W27.size]; exact Z25
    refine wp_run ok hK (B := [(73, .aload 7, false), (75, .iconst 4, false), (76, .lload_n 1, false), (77, .bipush 32, false), (79, .lushr, false), (80, .l2i, false), (81, .i2b, false)]) (by decide +kernel) (ps := []) (pc' := 82) (L' := #[.val (.int w), .val (.long f), .second, .val (.int ctl), .val (.int at_), .val (.int en), .val (.int s28_0), .val ((.ref a4)), .unset]) (S' := [.int (((ushL f (32 : Int32)).toInt32).toInt8.toInt32), .int (4 : Int32), (.ref a4)]) rfl trivial ?_
    refine wp_sB ok A29 (i := 4) (by rfl) (by decide) (by decide +kernel) g10 ?_
    intro h31 W32 A33
    have A34 : Ar Z h31 a4 .byte 8 (lst [.int (nar .byte ((f.toInt32).toInt8.toInt32)), .int (nar .byte (((ushL f (8 : Int32)).toInt32).toInt8.toInt32)), .int (nar .byte (((ushL f (16 : Int32)).toInt32).toInt8.toInt32)), .int (nar .byte (((ushL f (24 : Int32)).toInt32).toInt8.toInt32)), .int (nar .byte (((ushL f (32 : Int32)).toInt32).toInt8.toInt32)), .int (0 : Int32), .int (0 : Int32), .int (0 : Int32)]) := lst_set A33 rfl (by decide) rfl
    have Z35 : n0 ≤ h31.size := by rw [W32.size]; exact Z30
    refine wp_run ok hK (B := [(83, .aload 7, false), (85, .iconst 5, false), (86, .lload_n 1, false), (87, .bipush 40, false), (89, .lushr, false), (90, .l2i, false), (91, .i2b, false)]) (by decide +kernel) (ps := []) (pc' := 92) (L' := #[.val (.int w), .val (.long f), .second, .val (.int ctl), .val (.int at_), .val (.int en), .val (.int s28_0), .val ((.ref a4)), .unset]) (S' := [.int (((ushL f (40 : Int32)).toInt32).toInt8.toInt32), .int (5 : Int32), (.ref a4)]) rfl trivial ?_
    refine wp_sB ok A34 (i := 5) (by rfl) (by decide) (by decide +kernel) g10 ?_
    intro h36 W37 A38
    have A39 : Ar Z h36 a4 .byte 8 (lst [.int (nar .byte ((f.toInt32).toInt8.toInt32)), .int (nar .byte (((ushL f (8 : Int32)).toInt32).toInt8.toInt32)), .int (nar .byte (((ushL f (16 : Int32)).toInt32).toInt8.toInt32)), .int (nar .byte (((ushL f (24 : Int32)).toInt32).toInt8.toInt32)), .int (nar .byte (((ushL f (32 : Int32)).toInt32).toInt8.toInt32)), .int (nar .byte (((ushL f (40 : Int32)).toInt32).toInt8.toInt32)), .int (0 : Int32), .int (0 : Int32)]) := lst_set A38 rfl (by decide) rfl
    have Z40 : n0 ≤ h36.size := by rw [W37.size]; exact Z35
    refine wp_run ok hK (B := [(93, .aload 7, false), (95, .bipush 6, false), (97, .lload_n 1, false), (98, .bipush 48, false), (100, .lushr, false), (101, .l2i, false), (102, .i2b, false)]) (by decide +kernel) (ps := []) (pc' := 103) (L' := #[.val (.int w), .val (.long f), .second, .val (.int ctl), .val (.int at_), .val (.int en), .val (.int s28_0), .val ((.ref a4)), .unset]) (S' := [.int (((ushL f (48 : Int32)).toInt32).toInt8.toInt32), .int (6 : Int32), (.ref a4)]) rfl trivial ?_
    refine wp_sB ok A39 (i := 6) (by rfl) (by decide) (by decide +kernel) g10 ?_
    intro h41 W42 A43
    have A44 : Ar Z h41 a4 .byte 8 (lst [.int (nar .byte ((f.toInt32).toInt8.toInt32)), .int (nar .byte (((ushL f (8 : Int32)).toInt32).toInt8.toInt32)), .int (nar .byte (((ushL f (16 : Int32)).toInt32).toInt8.toInt32)), .int (nar .byte (((ushL f (24 : Int32)).toInt32).toInt8.toInt32)), .int (nar .byte (((ushL f (32 : Int32)).toInt32).toInt8.toInt32)), .int (nar .byte (((ushL f (40 : Int32)).toInt32).toInt8.toInt32)), .int (nar .byte (((ushL f (48 : Int32)).toInt32).toInt8.toInt32)), .int (0 : Int32)]) := lst_set A43 rfl (by decide) rfl
    have Z45 : n0 ≤ h41.size := by rw [W42.size]; exact Z40
    refine wp_run ok hK (B := [(104, .aload 7, false), (106, .bipush 7, false), (108, .lload_n 1, false), (109, .bipush 56, false), (111, .lushr, false), (112, .l2i, false), (113, .i2b, false)]) (by decide +kernel) (ps := []) (pc' := 114) (L' := #[.val (.int w), .val (.long f), .second, .val (.int ctl), .val (.int at_), .val (.int en), .val (.int s28_0), .val ((.ref a4)), .unset]) (S' := [.int (((ushL f (56 : Int32)).toInt32).toInt8.toInt32), .int (7 : Int32), (.ref a4)]) rfl trivial ?_
    refine wp_sB ok A44 (i := 7) (by rfl) (by decide) (by decide +kernel) g10 ?_
    intro h46 W47 A48
    have A49 : Ar Z h46 a4 .byte 8 (lst [.int (nar .byte ((f.toInt32).toInt8.toInt32)), .int (nar .byte (((ushL f (8 : Int32)).toInt32).toInt8.toInt32)), .int (nar .byte (((ushL f (16 : Int32)).toInt32).toInt8.toInt32)), .int (nar .byte (((ushL f (24 : Int32)).toInt32).toInt8.toInt32)), .int (nar .byte (((ushL f (32 : Int32)).toInt32).toInt8.toInt32)), .int (nar .byte (((ushL f (40 : Int32)).toInt32).toInt8.toInt32)), .int (nar .byte (((ushL f (48 : Int32)).toInt32).toInt8.toInt32)), .int (nar .byte (((ushL f (56 : Int32)).toInt32).toInt8.toInt32))]) := lst_set A48 rfl (by decide) rfl
    have Z50 : n0 ≤ h46.size := by rw [W47.size]; exact Z45
    obtain ⟨j0, hj0⟩ : ∃ z : Int32, z = (nar .byte ((f.toInt32).toInt8.toInt32)) := ⟨_, rfl⟩
    rw [← hj0] at A49
    obtain ⟨j1, hj1⟩ : ∃ z : Int32, z = (nar .byte (((ushL f (8 : Int32)).toInt32).toInt8.toInt32)) := ⟨_, rfl⟩
    rw [← hj1] at A49
    obtain ⟨j2, hj2⟩ : ∃ z : Int32, z = (nar .byte (((ushL f (16 : Int32)).toInt32).toInt8.toInt32)) := ⟨_, rfl⟩
    rw [← hj2] at A49
    obtain ⟨j3, hj3⟩ : ∃ z : Int32, z = (nar .byte (((ushL f (24 : Int32)).toInt32).toInt8.toInt32)) := ⟨_, rfl⟩
    rw [← hj3] at A49
    obtain ⟨j4, hj4⟩ : ∃ z : Int32, z = (nar .byte (((ushL f (32 : Int32)).toInt32).toInt8.toInt32)) := ⟨_, rfl⟩
    rw [← hj4] at A49
    obtain ⟨j5, hj5⟩ : ∃ z : Int32, z = (nar .byte (((ushL f (40 : Int32)).toInt32).toInt8.toInt32)) := ⟨_, rfl⟩
    rw [← hj5] at A49
    obtain ⟨j6, hj6⟩ : ∃ z : Int32, z = (nar .byte (((ushL f (48 : Int32)).toInt32).toInt8.toInt32)) := ⟨_, rfl⟩
    rw [← hj6] at A49
    obtain ⟨j7, hj7⟩ : ∃ z : Int32, z = (nar .byte (((ushL f (56 : Int32)).toInt32).toInt8.toInt32)) := ⟨_, rfl⟩
    rw [← hj7] at A49
    rcases own_at ctl at_ h_at_ with eat | eat | eat | eat
    · subst eat
      refine wp_run ok hK (B := [(115, .aload 7, false), (117, .iload 4, false), (119, .iload_n 0, false), (120, .i2b, false)]) (by decide +kernel) (ps := []) (pc' := 121) (L' := #[.val (.int w), .val (.long f), .second, .val (.int ctl), .val (.int (0 : Int32)), .val (.int en), .val (.int s28_0), .val ((.ref a4)), .unset]) (S' := [.int (w.toInt8.toInt32), .int (0 : Int32), (.ref a4)]) rfl trivial ?_
      refine wp_sB ok A49 (i := 0) (by rfl) (by decide) (by decide +kernel) g10 ?_
      intro h51 W52 A53
      have A54 : Ar Z h51 a4 .byte 8 (lst [.int (nar .byte (w.toInt8.toInt32)), .int j1, .int j2, .int j3, .int j4, .int j5, .int j6, .int j7]) := lst_set A53 rfl (by decide) rfl
      have Z55 : n0 ≤ h51.size := by rw [W52.size]; exact Z50
      refine wp_run ok hK (B := [(122, .aload 7, false), (124, .iload 4, false), (126, .iconst 1, false), (127, .iadd, false), (128, .iload_n 0, false), (129, .bipush 8, false), (131, .iushr, false), (132, .i2b, false)]) (by decide +kernel) (ps := []) (pc' := 133) (L' := #[.val (.int w), .val (.long f), .second, .val (.int ctl), .val (.int (0 : Int32)), .val (.int en), .val (.int s28_0), .val ((.ref a4)), .unset]) (S' := [.int ((ush w (8 : Int32)).toInt8.toInt32), .int (1 : Int32), (.ref a4)]) rfl trivial ?_
      refine wp_sB ok A54 (i := 1) (by rfl) (by decide) (by decide +kernel) g10 ?_
      intro h56 W57 A58
      have A59 : Ar Z h56 a4 .byte 8 (lst [.int (nar .byte (w.toInt8.toInt32)), .int (nar .byte ((ush w (8 : Int32)).toInt8.toInt32)), .int j2, .int j3, .int j4, .int j5, .int j6, .int j7]) := lst_set A58 rfl (by decide) rfl
      have Z60 : n0 ≤ h56.size := by rw [W57.size]; exact Z55
      refine wp_run ok hK (B := [(134, .aload 7, false), (136, .iload 4, false), (138, .iconst 2, false), (139, .iadd, false), (140, .iload_n 0, false), (141, .bipush 16, false), (143, .iushr, false), (144, .i2b, false)]) (by decide +kernel) (ps := []) (pc' := 145) (L' := #[.val (.int w), .val (.long f), .second, .val (.int ctl), .val (.int (0 : Int32)), .val (.int en), .val (.int s28_0), .val ((.ref a4)), .unset]) (S' := [.int ((ush w (16 : Int32)).toInt8.toInt32), .int (2 : Int32), (.ref a4)]) rfl trivial ?_
      refine wp_sB ok A59 (i := 2) (by rfl) (by decide) (by decide +kernel) g10 ?_
      intro h61 W62 A63
      have A64 : Ar Z h61 a4 .byte 8 (lst [.int (nar .byte (w.toInt8.toInt32)), .int (nar .byte ((ush w (8 : Int32)).toInt8.toInt32)), .int (nar .byte ((ush w (16 : Int32)).toInt8.toInt32)), .int j3, .int j4, .int j5, .int j6, .int j7]) := lst_set A63 rfl (by decide) rfl
      have Z65 : n0 ≤ h61.size := by rw [W62.size]; exact Z60
      refine wp_run ok hK (B := [(146, .aload 7, false), (148, .iload 4, false), (150, .iconst 3, false), (151, .iadd, false), (152, .iload_n 0, false), (153, .bipush 24, false), (155, .iushr, false), (156, .i2b, false)]) (by decide +kernel) (ps := []) (pc' := 157) (L' := #[.val (.int w), .val (.long f), .second, .val (.int ctl), .val (.int (0 : Int32)), .val (.int en), .val (.int s28_0), .val ((.ref a4)), .unset]) (S' := [.int ((ush w (24 : Int32)).toInt8.toInt32), .int (3 : Int32), (.ref a4)]) rfl trivial ?_
      refine wp_sB ok A64 (i := 3) (by rfl) (by decide) (by decide +kernel) g10 ?_
      intro h66 W67 A68
      have A69 : Ar Z h66 a4 .byte 8 (lst [.int (nar .byte (w.toInt8.toInt32)), .int (nar .byte ((ush w (8 : Int32)).toInt8.toInt32)), .int (nar .byte ((ush w (16 : Int32)).toInt8.toInt32)), .int (nar .byte ((ush w (24 : Int32)).toInt8.toInt32)), .int j4, .int j5, .int j6, .int j7]) := lst_set A68 rfl (by decide) rfl
      have Z70 : n0 ≤ h66.size := by rw [W67.size]; exact Z65
      refine wp_run ok hK (B := [(158, .aload 7, false), (160, .iload 4, false), (162, .iload 5, false), (164, .iload 6, false)]) (by decide +kernel) (ps := []) (pc' := 166) (L' := #[.val (.int w), .val (.long f), .second, .val (.int ctl), .val (.int (0 : Int32)), .val (.int en), .val (.int s28_0), .val ((.ref a4)), .unset]) (S' := [.int s28_0, .int en, .int (0 : Int32), (.ref a4)]) rfl trivial ?_
      refine wp_static ok (wd hw 1 rfl) (wd hw 2 rfl) (wd hw 3 rfl) (wd hw 4 rfl) (by decide) (argsL := [(.ref a4), .int (0 : Int32), .int en, .int s28_0]) (rest := []) (c_sq0 _ Z a0 hw a4 en s28_0 (nar .byte (w.toInt8.toInt32)) (nar .byte ((ush w (8 : Int32)).toInt8.toInt32)) (nar .byte ((ush w (16 : Int32)).toInt8.toInt32)) (nar .byte ((ush w (24 : Int32)).toInt8.toInt32)) j4 j5 j6 j7 h66 n0 Z70 A69 g10) (ps := [(.array .byte), .int, .int, .boolean]) (by decide +kernel) (by rfl) (by rfl) (by rfl) (by decide +kernel) (by decide) (Nat.le_of_ble_eq_true rfl) (by decide) (by decide) ?_
      intro r71 h72 q73
      obtain ⟨e74, rfl⟩ := q73
      obtain ⟨z166, h_z166⟩ : ∃ z : Int32, z = (seqZ (0 : Int32) ((nar .byte (w.toInt8.toInt32)) &&& (255 : Int32)) ((nar .byte ((ush w (8 : Int32)).toInt8.toInt32)) &&& (255 : Int32)) ((nar .byte ((ush w (16 : Int32)).toInt8.toInt32)) &&& (255 : Int32)) ((nar .byte ((ush w (24 : Int32)).toInt8.toInt32)) &&& (255 : Int32)) (en - (0 : Int32)) s28_0) := ⟨_, rfl⟩
      have e74' := e74.trans (show _ = some (Value.int z166) by rw [h_z166])
      subst e74'
      show WP X n0 QL h66 1 8 169 #[.val (.int w), .val (.long f), .second, .val (.int ctl), .val (.int (0 : Int32)), .val (.int en), .val (.int s28_0), .val ((.ref a4)), .unset] [.int z166]
      refine wp_run ok hK (B := [(169, .istore 8, false), (171, .iload 8, false), (173, .iload_n 0, false), (174, .iload 4, false), (176, .iload 5, false), (178, .iload 6, false)]) (by decide +kernel) (ps := []) (pc' := 180) (L' := #[.val (.int w), .val (.long f), .second, .val (.int ctl), .val (.int (0 : Int32)), .val (.int en), .val (.int s28_0), .val ((.ref a4)), .val (.int z166)]) (S' := [.int s28_0, .int en, .int (0 : Int32), .int w, .int z166]) rfl trivial ?_
      refine wp_static ok (wd hw 5 rfl) (wd hw 6 rfl) (wd hw 7 rfl) (wd hw 8 rfl) (by decide) (argsL := [.int w, .int (0 : Int32), .int en, .int s28_0]) (rest := [.int z166]) (c_exp _ Z a0 hw w (0 : Int32) en s28_0 h66 n0 Z70 ) (ps := [.int, .int, .int, .boolean]) (by decide +kernel) (by rfl) (by rfl) (by rfl) (by decide +kernel) (by decide) (Nat.le_of_ble_eq_true rfl) (by decide) (by decide) ?_
      intro r75 h76 q77
      obtain ⟨e78, rfl⟩ := q77
      obtain ⟨z180, h_z180⟩ : ∃ z : Int32, z = (seqZ (0 : Int32) (w &&& (255 : Int32)) ((ush w (8 : Int32)) &&& (255 : Int32)) ((ush w (16 : Int32)) &&& (255 : Int32)) ((ush w (24 : Int32)) &&& (255 : Int32)) (en - (0 : Int32)) s28_0) := ⟨_, rfl⟩
      have e78' := e78.trans (show _ = some (Value.int z180) by rw [h_z180])
      subst e78'
      show WP X n0 QL h66 1 8 183 #[.val (.int w), .val (.long f), .second, .val (.int ctl), .val (.int (0 : Int32)), .val (.int en), .val (.int s28_0), .val ((.ref a4)), .val (.int z166)] [.int z180, .int z166]
      refine wp_run ok hK (B := [(183, .if_icmp .ne 7, false), (186, .iconst 1, false), (187, .goto 4, false)]) (by decide +kernel) (ps := [Op.if_icmp.holds .ne z166 z180 = false]) (pc' := 191) (L' := #[.val (.int w), .val (.long f), .second, .val (.int ctl), .val (.int (0 : Int32)), .val (.int en), .val (.int s28_0), .val ((.ref a4)), .val (.int z166)]) (S' := [.int (1 : Int32)]) rfl ⟨(XT.ii_ne_f (own_law_1 w f ctl en s28_0 h_s28_0 j0 j1 j2 j3 j4 j5 j6 j7 z166 h_z166 z180 h_z180)), trivial⟩ ?_
      refine wp_retZ ok (t := .boolean) (by simp) (by decide +kernel) (by decide) (by decide) ?_
      exact congrArg (fun z => some (Value.int z)) (own_law_2 w f ctl en s28_0 h_s28_0 j0 j1 j2 j3 j4 j5 j6 j7 z166 h_z166 z180 h_z180)
    · subst eat
      refine wp_run ok hK (B := [(115, .aload 7, false), (117, .iload 4, false), (119, .iload_n 0, false), (120, .i2b, false)]) (by decide +kernel) (ps := []) (pc' := 121) (L' := #[.val (.int w), .val (.long f), .second, .val (.int ctl), .val (.int (1 : Int32)), .val (.int en), .val (.int s28_0), .val ((.ref a4)), .unset]) (S' := [.int (w.toInt8.toInt32), .int (1 : Int32), (.ref a4)]) rfl trivial ?_
      refine wp_sB ok A49 (i := 1) (by rfl) (by decide) (by decide +kernel) g10 ?_
      intro h79 W80 A81
      have A82 : Ar Z h79 a4 .byte 8 (lst [.int j0, .int (nar .byte (w.toInt8.toInt32)), .int j2, .int j3, .int j4, .int j5, .int j6, .int j7]) := lst_set A81 rfl (by decide) rfl
      have Z83 : n0 ≤ h79.size := by rw [W80.size]; exact Z50
      refine wp_run ok hK (B := [(122, .aload 7, false), (124, .iload 4, false), (126, .iconst 1, false), (127, .iadd, false), (128, .iload_n 0, false), (129, .bipush 8, false), (131, .iushr, false), (132, .i2b, false)]) (by decide +kernel) (ps := []) (pc' := 133) (L' := #[.val (.int w), .val (.long f), .second, .val (.int ctl), .val (.int (1 : Int32)), .val (.int en), .val (.int s28_0), .val ((.ref a4)), .unset]) (S' := [.int ((ush w (8 : Int32)).toInt8.toInt32), .int (2 : Int32), (.ref a4)]) rfl trivial ?_
      refine wp_sB ok A82 (i := 2) (by rfl) (by decide) (by decide +kernel) g10 ?_
      intro h84 W85 A86
      have A87 : Ar Z h84 a4 .byte 8 (lst [.int j0, .int (nar .byte (w.toInt8.toInt32)), .int (nar .byte ((ush w (8 : Int32)).toInt8.toInt32)), .int j3, .int j4, .int j5, .int j6, .int j7]) := lst_set A86 rfl (by decide) rfl
      have Z88 : n0 ≤ h84.size := by rw [W85.size]; exact Z83
      refine wp_run ok hK (B := [(134, .aload 7, false), (136, .iload 4, false), (138, .iconst 2, false), (139, .iadd, false), (140, .iload_n 0, false), (141, .bipush 16, false), (143, .iushr, false), (144, .i2b, false)]) (by decide +kernel) (ps := []) (pc' := 145) (L' := #[.val (.int w), .val (.long f), .second, .val (.int ctl), .val (.int (1 : Int32)), .val (.int en), .val (.int s28_0), .val ((.ref a4)), .unset]) (S' := [.int ((ush w (16 : Int32)).toInt8.toInt32), .int (3 : Int32), (.ref a4)]) rfl trivial ?_
      refine wp_sB ok A87 (i := 3) (by rfl) (by decide) (by decide +kernel) g10 ?_
      intro h89 W90 A91
      have A92 : Ar Z h89 a4 .byte 8 (lst [.int j0, .int (nar .byte (w.toInt8.toInt32)), .int (nar .byte ((ush w (8 : Int32)).toInt8.toInt32)), .int (nar .byte ((ush w (16 : Int32)).toInt8.toInt32)), .int j4, .int j5, .int j6, .int j7]) := lst_set A91 rfl (by decide) rfl
      have Z93 : n0 ≤ h89.size := by rw [W90.size]; exact Z88
      refine wp_run ok hK (B := [(146, .aload 7, false), (148, .iload 4, false), (150, .iconst 3, false), (151, .iadd, false), (152, .iload_n 0, false), (153, .bipush 24, false), (155, .iushr, false), (156, .i2b, false)]) (by decide +kernel) (ps := []) (pc' := 157) (L' := #[.val (.int w), .val (.long f), .second, .val (.int ctl), .val (.int (1 : Int32)), .val (.int en), .val (.int s28_0), .val ((.ref a4)), .unset]) (S' := [.int ((ush w (24 : Int32)).toInt8.toInt32), .int (4 : Int32), (.ref a4)]) rfl trivial ?_
      refine wp_sB ok A92 (i := 4) (by rfl) (by decide) (by decide +kernel) g10 ?_
      intro h94 W95 A96
      have A97 : Ar Z h94 a4 .byte 8 (lst [.int j0, .int (nar .byte (w.toInt8.toInt32)), .int (nar .byte ((ush w (8 : Int32)).toInt8.toInt32)), .int (nar .byte ((ush w (16 : Int32)).toInt8.toInt32)), .int (nar .byte ((ush w (24 : Int32)).toInt8.toInt32)), .int j5, .int j6, .int j7]) := lst_set A96 rfl (by decide) rfl
      have Z98 : n0 ≤ h94.size := by rw [W95.size]; exact Z93
      refine wp_run ok hK (B := [(158, .aload 7, false), (160, .iload 4, false), (162, .iload 5, false), (164, .iload 6, false)]) (by decide +kernel) (ps := []) (pc' := 166) (L' := #[.val (.int w), .val (.long f), .second, .val (.int ctl), .val (.int (1 : Int32)), .val (.int en), .val (.int s28_0), .val ((.ref a4)), .unset]) (S' := [.int s28_0, .int en, .int (1 : Int32), (.ref a4)]) rfl trivial ?_
      refine wp_static ok (wd hw 1 rfl) (wd hw 2 rfl) (wd hw 3 rfl) (wd hw 4 rfl) (by decide) (argsL := [(.ref a4), .int (1 : Int32), .int en, .int s28_0]) (rest := []) (c_sq1 _ Z a0 hw a4 en s28_0 j0 (nar .byte (w.toInt8.toInt32)) (nar .byte ((ush w (8 : Int32)).toInt8.toInt32)) (nar .byte ((ush w (16 : Int32)).toInt8.toInt32)) (nar .byte ((ush w (24 : Int32)).toInt8.toInt32)) j5 j6 j7 h94 n0 Z98 A97 g10) (ps := [(.array .byte), .int, .int, .boolean]) (by decide +kernel) (by rfl) (by rfl) (by rfl) (by decide +kernel) (by decide) (Nat.le_of_ble_eq_true rfl) (by decide) (by decide) ?_
      intro r99 h100 q101
      obtain ⟨e102, rfl⟩ := q101
      obtain ⟨z166, h_z166⟩ : ∃ z : Int32, z = (seqZ (1 : Int32) ((nar .byte (w.toInt8.toInt32)) &&& (255 : Int32)) ((nar .byte ((ush w (8 : Int32)).toInt8.toInt32)) &&& (255 : Int32)) ((nar .byte ((ush w (16 : Int32)).toInt8.toInt32)) &&& (255 : Int32)) ((nar .byte ((ush w (24 : Int32)).toInt8.toInt32)) &&& (255 : Int32)) (en - (1 : Int32)) s28_0) := ⟨_, rfl⟩
      have e102' := e102.trans (show _ = some (Value.int z166) by rw [h_z166])
      subst e102'
      show WP X n0 QL h94 1 8 169 #[.val (.int w), .val (.long f), .second, .val (.int ctl), .val (.int (1 : Int32)), .val (.int en), .val (.int s28_0), .val ((.ref a4)), .unset] [.int z166]
      refine wp_run ok hK (B := [(169, .istore 8, false), (171, .iload 8, false), (173, .iload_n 0, false), (174, .iload 4, false), (176, .iload 5, false), (178, .iload 6, false)]) (by decide +kernel) (ps := []) (pc' := 180) (L' := #[.val (.int w), .val (.long f), .second, .val (.int ctl), .val (.int (1 : Int32)), .val (.int en), .val (.int s28_0), .val ((.ref a4)), .val (.int z166)]) (S' := [.int s28_0, .int en, .int (1 : Int32), .int w, .int z166]) rfl trivial ?_
      refine wp_static ok (wd hw 5 rfl) (wd hw 6 rfl) (wd hw 7 rfl) (wd hw 8 rfl) (by decide) (argsL := [.int w, .int (1 : Int32), .int en, .int s28_0]) (rest := [.int z166]) (c_exp _ Z a0 hw w (1 : Int32) en s28_0 h94 n0 Z98 ) (ps := [.int, .int, .int, .boolean]) (by decide +kernel) (by rfl) (by rfl) (by rfl) (by decide +kernel) (by decide) (Nat.le_of_ble_eq_true rfl) (by decide) (by decide) ?_
      intro r103 h104 q105
      obtain ⟨e106, rfl⟩ := q105
      obtain ⟨z180, h_z180⟩ : ∃ z : Int32, z = (seqZ (1 : Int32) (w &&& (255 : Int32)) ((ush w (8 : Int32)) &&& (255 : Int32)) ((ush w (16 : Int32)) &&& (255 : Int32)) ((ush w (24 : Int32)) &&& (255 : Int32)) (en - (1 : Int32)) s28_0) := ⟨_, rfl⟩
      have e106' := e106.trans (show _ = some (Value.int z180) by rw [h_z180])
      subst e106'
      show WP X n0 QL h94 1 8 183 #[.val (.int w), .val (.long f), .second, .val (.int ctl), .val (.int (1 : Int32)), .val (.int en), .val (.int s28_0), .val ((.ref a4)), .val (.int z166)] [.int z180, .int z166]
      refine wp_run ok hK (B := [(183, .if_icmp .ne 7, false), (186, .iconst 1, false), (187, .goto 4, false)]) (by decide +kernel) (ps := [Op.if_icmp.holds .ne z166 z180 = false]) (pc' := 191) (L' := #[.val (.int w), .val (.long f), .second, .val (.int ctl), .val (.int (1 : Int32)), .val (.int en), .val (.int s28_0), .val ((.ref a4)), .val (.int z166)]) (S' := [.int (1 : Int32)]) rfl ⟨(XT.ii_ne_f (own_law_3 w f ctl en s28_0 h_s28_0 j0 j1 j2 j3 j4 j5 j6 j7 z166 h_z166 z180 h_z180)), trivial⟩ ?_
      refine wp_retZ ok (t := .boolean) (by simp) (by decide +kernel) (by decide) (by decide) ?_
      exact congrArg (fun z => some (Value.int z)) (own_law_4 w f ctl en s28_0 h_s28_0 j0 j1 j2 j3 j4 j5 j6 j7 z166 h_z166 z180 h_z180)
    · subst eat
      refine wp_run ok hK (B := [(115, .aload 7, false), (117, .iload 4, false), (119, .iload_n 0, false), (120, .i2b, false)]) (by decide +kernel) (ps := []) (pc' := 121) (L' := #[.val (.int w), .val (.long f), .second, .val (.int ctl), .val (.int (2 : Int32)), .val (.int en), .val (.int s28_0), .val ((.ref a4)), .unset]) (S' := [.int (w.toInt8.toInt32), .int (2 : Int32), (.ref a4)]) rfl trivial ?_
      refine wp_sB ok A49 (i := 2) (by rfl) (by decide) (by decide +kernel) g10 ?_
      intro h107 W108 A109
      have A110 : Ar Z h107 a4 .byte 8 (lst [.int j0, .int j1, .int (nar .byte (w.toInt8.toInt32)), .int j3, .int j4, .int j5, .int j6, .int j7]) := lst_set A109 rfl (by decide) rfl
      have Z111 : n0 ≤ h107.size := by rw [W108.size]; exact Z50
      refine wp_run ok hK (B := [(122, .aload 7, false), (124, .iload 4, false), (126, .iconst 1, false), (127, .iadd, false), (128, .iload_n 0, false), (129, .bipush 8, false), (131, .iushr, false), (132, .i2b, false)]) (by decide +kernel) (ps := []) (pc' := 133) (L' := #[.val (.int w), .val (.long f), .second, .val (.int ctl), .val (.int (2 : Int32)), .val (.int en), .val (.int s28_0), .val ((.ref a4)), .unset]) (S' := [.int ((ush w (8 : Int32)).toInt8.toInt32), .int (3 : Int32), (.ref a4)]) rfl trivial ?_
      refine wp_sB ok A110 (i := 3) (by rfl) (by decide) (by decide +kernel) g10 ?_
      intro h112 W113 A114
      have A115 : Ar Z h112 a4 .byte 8 (lst [.int j0, .int j1, .int (nar .byte (w.toInt8.toInt32)), .int (nar .byte ((ush w (8 : Int32)).toInt8.toInt32)), .int j4, .int j5, .int j6, .int j7]) := lst_set A114 rfl (by decide) rfl
      have Z116 : n0 ≤ h112.size := by rw [W113.size]; exact Z111
      refine wp_run ok hK (B := [(134, .aload 7, false), (136, .iload 4, false), (138, .iconst 2, false), (139, .iadd, false), (140, .iload_n 0, false), (141, .bipush 16, false), (143, .iushr, false), (144, .i2b, false)]) (by decide +kernel) (ps := []) (pc' := 145) (L' := #[.val (.int w), .val (.long f), .second, .val (.int ctl), .val (.int (2 : Int32)), .val (.int en), .val (.int s28_0), .val ((.ref a4)), .unset]) (S' := [.int ((ush w (16 : Int32)).toInt8.toInt32), .int (4 : Int32), (.ref a4)]) rfl trivial ?_
      refine wp_sB ok A115 (i := 4) (by rfl) (by decide) (by decide +kernel) g10 ?_
      intro h117 W118 A119
      have A120 : Ar Z h117 a4 .byte 8 (lst [.int j0, .int j1, .int (nar .byte (w.toInt8.toInt32)), .int (nar .byte ((ush w (8 : Int32)).toInt8.toInt32)), .int (nar .byte ((ush w (16 : Int32)).toInt8.toInt32)), .int j5, .int j6, .int j7]) := lst_set A119 rfl (by decide) rfl
      have Z121 : n0 ≤ h117.size := by rw [W118.size]; exact Z116
      refine wp_run ok hK (B := [(146, .aload 7, false), (148, .iload 4, false), (150, .iconst 3, false), (151, .iadd, false), (152, .iload_n 0, false), (153, .bipush 24, false), (155, .iushr, false), (156, .i2b, false)]) (by decide +kernel) (ps := []) (pc' := 157) (L' := #[.val (.int w), .val (.long f), .second, .val (.int ctl), .val (.int (2 : Int32)), .val (.int en), .val (.int s28_0), .val ((.ref a4)), .unset]) (S' := [.int ((ush w (24 : Int32)).toInt8.toInt32), .int (5 : Int32), (.ref a4)]) rfl trivial ?_
      refine wp_sB ok A120 (i := 5) (by rfl) (by decide) (by decide +kernel) g10 ?_
      intro h122 W123 A124
      have A125 : Ar Z h122 a4 .byte 8 (lst [.int j0, .int j1, .int (nar .byte (w.toInt8.toInt32)), .int (nar .byte ((ush w (8 : Int32)).toInt8.toInt32)), .int (nar .byte ((ush w (16 : Int32)).toInt8.toInt32)), .int (nar .byte ((ush w (24 : Int32)).toInt8.toInt32)), .int j6, .int j7]) := lst_set A124 rfl (by decide) rfl
      have Z126 : n0 ≤ h122.size := by rw [W123.size]; exact Z121
      refine wp_run ok hK (B := [(158, .aload 7, false), (160, .iload 4, false), (162, .iload 5, false), (164, .iload 6, false)]) (by decide +kernel) (ps := []) (pc' := 166) (L' := #[.val (.int w), .val (.long f), .second, .val (.int ctl), .val (.int (2 : Int32)), .val (.int en), .val (.int s28_0), .val ((.ref a4)), .unset]) (S' := [.int s28_0, .int en, .int (2 : Int32), (.ref a4)]) rfl trivial ?_
      refine wp_static ok (wd hw 1 rfl) (wd hw 2 rfl) (wd hw 3 rfl) (wd hw 4 rfl) (by decide) (argsL := [(.ref a4), .int (2 : Int32), .int en, .int s28_0]) (rest := []) (c_sq2 _ Z a0 hw a4 en s28_0 j0 j1 (nar .byte (w.toInt8.toInt32)) (nar .byte ((ush w (8 : Int32)).toInt8.toInt32)) (nar .byte ((ush w (16 : Int32)).toInt8.toInt32)) (nar .byte ((ush w (24 : Int32)).toInt8.toInt32)) j6 j7 h122 n0 Z126 A125 g10) (ps := [(.array .byte), .int, .int, .boolean]) (by decide +kernel) (by rfl) (by rfl) (by rfl) (by decide +kernel) (by decide) (Nat.le_of_ble_eq_true rfl) (by decide) (by decide) ?_
      intro r127 h128 q129
      obtain ⟨e130, rfl⟩ := q129
      obtain ⟨z166, h_z166⟩ : ∃ z : Int32, z = (seqZ (2 : Int32) ((nar .byte (w.toInt8.toInt32)) &&& (255 : Int32)) ((nar .byte ((ush w (8 : Int32)).toInt8.toInt32)) &&& (255 : Int32)) ((nar .byte ((ush w (16 : Int32)).toInt8.toInt32)) &&& (255 : Int32)) ((nar .byte ((ush w (24 : Int32)).toInt8.toInt32)) &&& (255 : Int32)) (en - (2 : Int32)) s28_0) := ⟨_, rfl⟩
      have e130' := e130.trans (show _ = some (Value.int z166) by rw [h_z166])
      subst e130'
      show WP X n0 QL h122 1 8 169 #[.val (.int w), .val (.long f), .second, .val (.int ctl), .val (.int (2 : Int32)), .val (.int en), .val (.int s28_0), .val ((.ref a4)), .unset] [.int z166]
      refine wp_run ok hK (B := [(169, .istore 8, false), (171, .iload 8, false), (173, .iload_n 0, false), (174, .iload 4, false), (176, .iload 5, false), (178, .iload 6, false)]) (by decide +kernel) (ps := []) (pc' := 180) (L' := #[.val (.int w), .val (.long f), .second, .val (.int ctl), .val (.int (2 : Int32)), .val (.int en), .val (.int s28_0), .val ((.ref a4)), .val (.int z166)]) (S' := [.int s28_0, .int en, .int (2 : Int32), .int w, .int z166]) rfl trivial ?_
      refine wp_static ok (wd hw 5 rfl) (wd hw 6 rfl) (wd hw 7 rfl) (wd hw 8 rfl) (by decide) (argsL := [.int w, .int (2 : Int32), .int en, .int s28_0]) (rest := [.int z166]) (c_exp _ Z a0 hw w (2 : Int32) en s28_0 h122 n0 Z126 ) (ps := [.int, .int, .int, .boolean]) (by decide +kernel) (by rfl) (by rfl) (by rfl) (by decide +kernel) (by decide) (Nat.le_of_ble_eq_true rfl) (by decide) (by decide) ?_
      intro r131 h132 q133
      obtain ⟨e134, rfl⟩ := q133
      obtain ⟨z180, h_z180⟩ : ∃ z : Int32, z = (seqZ (2 : Int32) (w &&& (255 : Int32)) ((ush w (8 : Int32)) &&& (255 : Int32)) ((ush w (16 : Int32)) &&& (255 : Int32)) ((ush w (24 : Int32)) &&& (255 : Int32)) (en - (2 : Int32)) s28_0) := ⟨_, rfl⟩
      have e134' := e134.trans (show _ = some (Value.int z180) by rw [h_z180])
      subst e134'
      show WP X n0 QL h122 1 8 183 #[.val (.int w), .val (.long f), .second, .val (.int ctl), .val (.int (2 : Int32)), .val (.int en), .val (.int s28_0), .val ((.ref a4)), .val (.int z166)] [.int z180, .int z166]
      refine wp_run ok hK (B := [(183, .if_icmp .ne 7, false), (186, .iconst 1, false), (187, .goto 4, false)]) (by decide +kernel) (ps := [Op.if_icmp.holds .ne z166 z180 = false]) (pc' := 191) (L' := #[.val (.int w), .val (.long f), .second, .val (.int ctl), .val (.int (2 : Int32)), .val (.int en), .val (.int s28_0), .val ((.ref a4)), .val (.int z166)]) (S' := [.int (1 : Int32)]) rfl ⟨(XT.ii_ne_f (own_law_5 w f ctl en s28_0 h_s28_0 j0 j1 j2 j3 j4 j5 j6 j7 z166 h_z166 z180 h_z180)), trivial⟩ ?_
      refine wp_retZ ok (t := .boolean) (by simp) (by decide +kernel) (by decide) (by decide) ?_
      exact congrArg (fun z => some (Value.int z)) (own_law_6 w f ctl en s28_0 h_s28_0 j0 j1 j2 j3 j4 j5 j6 j7 z166 h_z166 z180 h_z180)
    · subst eat
      refine wp_run ok hK (B := [(115, .aload 7, false), (117, .iload 4, false), (119, .iload_n 0, false), (120, .i2b, false)]) (by decide +kernel) (ps := []) (pc' := 121) (L' := #[.val (.int w), .val (.long f), .second, .val (.int ctl), .val (.int (3 : Int32)), .val (.int en), .val (.int s28_0), .val ((.ref a4)), .unset]) (S' := [.int (w.toInt8.toInt32), .int (3 : Int32), (.ref a4)]) rfl trivial ?_
      refine wp_sB ok A49 (i := 3) (by rfl) (by decide) (by decide +kernel) g10 ?_
      intro h135 W136 A137
      have A138 : Ar Z h135 a4 .byte 8 (lst [.int j0, .int j1, .int j2, .int (nar .byte (w.toInt8.toInt32)), .int j4, .int j5, .int j6, .int j7]) := lst_set A137 rfl (by decide) rfl
      have Z139 : n0 ≤ h135.size := by rw [W136.size]; exact Z50
      refine wp_run ok hK (B := [(122, .aload 7, false), (124, .iload 4, false), (126, .iconst 1, false), (127, .iadd, false), (128, .iload_n 0, false), (129, .bipush 8, false), (131, .iushr, false), (132, .i2b, false)]) (by decide +kernel) (ps := []) (pc' := 133) (L' := #[.val (.int w), .val (.long f), .second, .val (.int ctl), .val (.int (3 : Int32)), .val (.int en), .val (.int s28_0), .val ((.ref a4)), .unset]) (S' := [.int ((ush w (8 : Int32)).toInt8.toInt32), .int (4 : Int32), (.ref a4)]) rfl trivial ?_
      refine wp_sB ok A138 (i := 4) (by rfl) (by decide) (by decide +kernel) g10 ?_
      intro h140 W141 A142
      have A143 : Ar Z h140 a4 .byte 8 (lst [.int j0, .int j1, .int j2, .int (nar .byte (w.toInt8.toInt32)), .int (nar .byte ((ush w (8 : Int32)).toInt8.toInt32)), .int j5, .int j6, .int j7]) := lst_set A142 rfl (by decide) rfl
      have Z144 : n0 ≤ h140.size := by rw [W141.size]; exact Z139
      refine wp_run ok hK (B := [(134, .aload 7, false), (136, .iload 4, false), (138, .iconst 2, false), (139, .iadd, false), (140, .iload_n 0, false), (141, .bipush 16, false), (143, .iushr, false), (144, .i2b, false)]) (by decide +kernel) (ps := []) (pc' := 145) (L' := #[.val (.int w), .val (.long f), .second, .val (.int ctl), .val (.int (3 : Int32)), .val (.int en), .val (.int s28_0), .val ((.ref a4)), .unset]) (S' := [.int ((ush w (16 : Int32)).toInt8.toInt32), .int (5 : Int32), (.ref a4)]) rfl trivial ?_
      refine wp_sB ok A143 (i := 5) (by rfl) (by decide) (by decide +kernel) g10 ?_
      intro h145 W146 A147
      have A148 : Ar Z h145 a4 .byte 8 (lst [.int j0, .int j1, .int j2, .int (nar .byte (w.toInt8.toInt32)), .int (nar .byte ((ush w (8 : Int32)).toInt8.toInt32)), .int (nar .byte ((ush w (16 : Int32)).toInt8.toInt32)), .int j6, .int j7]) := lst_set A147 rfl (by decide) rfl
      have Z149 : n0 ≤ h145.size := by rw [W146.size]; exact Z144
      refine wp_run ok hK (B := [(146, .aload 7, false), (148, .iload 4, false), (150, .iconst 3, false), (151, .iadd, false), (152, .iload_n 0, false), (153, .bipush 24, false), (155, .iushr, false), (156, .i2b, false)]) (by decide +kernel) (ps := []) (pc' := 157) (L' := #[.val (.int w), .val (.long f), .second, .val (.int ctl), .val (.int (3 : Int32)), .val (.int en), .val (.int s28_0), .val ((.ref a4)), .unset]) (S' := [.int ((ush w (24 : Int32)).toInt8.toInt32), .int (6 : Int32), (.ref a4)]) rfl trivial ?_
      refine wp_sB ok A148 (i := 6) (by rfl) (by decide) (by decide +kernel) g10 ?_
      intro h150 W151 A152
      have A153 : Ar Z h150 a4 .byte 8 (lst [.int j0, .int j1, .int j2, .int (nar .byte (w.toInt8.toInt32)), .int (nar .byte ((ush w (8 : Int32)).toInt8.toInt32)), .int (nar .byte ((ush w (16 : Int32)).toInt8.toInt32)), .int (nar .byte ((ush w (24 : Int32)).toInt8.toInt32)), .int j7]) := lst_set A152 rfl (by decide) rfl
      have Z154 : n0 ≤ h150.size := by rw [W151.size]; exact Z149
      refine wp_run ok hK (B := [(158, .aload 7, false), (160, .iload 4, false), (162, .iload 5, false), (164, .iload 6, false)]) (by decide +kernel) (ps := []) (pc' := 166) (L' := #[.val (.int w), .val (.long f), .second, .val (.int ctl), .val (.int (3 : Int32)), .val (.int en), .val (.int s28_0), .val ((.ref a4)), .unset]) (S' := [.int s28_0, .int en, .int (3 : Int32), (.ref a4)]) rfl trivial ?_
      refine wp_static ok (wd hw 1 rfl) (wd hw 2 rfl) (wd hw 3 rfl) (wd hw 4 rfl) (by decide) (argsL := [(.ref a4), .int (3 : Int32), .int en, .int s28_0]) (rest := []) (c_sq3 _ Z a0 hw a4 en s28_0 j0 j1 j2 (nar .byte (w.toInt8.toInt32)) (nar .byte ((ush w (8 : Int32)).toInt8.toInt32)) (nar .byte ((ush w (16 : Int32)).toInt8.toInt32)) (nar .byte ((ush w (24 : Int32)).toInt8.toInt32)) j7 h150 n0 Z154 A153 g10) (ps := [(.array .byte), .int, .int, .boolean]) (by decide +kernel) (by rfl) (by rfl) (by rfl) (by decide +kernel) (by decide) (Nat.le_of_ble_eq_true rfl) (by decide) (by decide) ?_
      intro r155 h156 q157
      obtain ⟨e158, rfl⟩ := q157
      obtain ⟨z166, h_z166⟩ : ∃ z : Int32, z = (seqZ (3 : Int32) ((nar .byte (w.toInt8.toInt32)) &&& (255 : Int32)) ((nar .byte ((ush w (8 : Int32)).toInt8.toInt32)) &&& (255 : Int32)) ((nar .byte ((ush w (16 : Int32)).toInt8.toInt32)) &&& (255 : Int32)) ((nar .byte ((ush w (24 : Int32)).toInt8.toInt32)) &&& (255 : Int32)) (en - (3 : Int32)) s28_0) := ⟨_, rfl⟩
      have e158' := e158.trans (show _ = some (Value.int z166) by rw [h_z166])
      subst e158'
      show WP X n0 QL h150 1 8 169 #[.val (.int w), .val (.long f), .second, .val (.int ctl), .val (.int (3 : Int32)), .val (.int en), .val (.int s28_0), .val ((.ref a4)), .unset] [.int z166]
      refine wp_run ok hK (B := [(169, .istore 8, false), (171, .iload 8, false), (173, .iload_n 0, false), (174, .iload 4, false), (176, .iload 5, false), (178, .iload 6, false)]) (by decide +kernel) (ps := []) (pc' := 180) (L' := #[.val (.int w), .val (.long f), .second, .val (.int ctl), .val (.int (3 : Int32)), .val (.int en), .val (.int s28_0), .val ((.ref a4)), .val (.int z166)]) (S' := [.int s28_0, .int en, .int (3 : Int32), .int w, .int z166]) rfl trivial ?_
      refine wp_static ok (wd hw 5 rfl) (wd hw 6 rfl) (wd hw 7 rfl) (wd hw 8 rfl) (by decide) (argsL := [.int w, .int (3 : Int32), .int en, .int s28_0]) (rest := [.int z166]) (c_exp _ Z a0 hw w (3 : Int32) en s28_0 h150 n0 Z154 ) (ps := [.int, .int, .int, .boolean]) (by decide +kernel) (by rfl) (by rfl) (by rfl) (by decide +kernel) (by decide) (Nat.le_of_ble_eq_true rfl) (by decide) (by decide) ?_
      intro r159 h160 q161
      obtain ⟨e162, rfl⟩ := q161
      obtain ⟨z180, h_z180⟩ : ∃ z : Int32, z = (seqZ (3 : Int32) (w &&& (255 : Int32)) ((ush w (8 : Int32)) &&& (255 : Int32)) ((ush w (16 : Int32)) &&& (255 : Int32)) ((ush w (24 : Int32)) &&& (255 : Int32)) (en - (3 : Int32)) s28_0) := ⟨_, rfl⟩
      have e162' := e162.trans (show _ = some (Value.int z180) by rw [h_z180])
      subst e162'
      show WP X n0 QL h150 1 8 183 #[.val (.int w), .val (.long f), .second, .val (.int ctl), .val (.int (3 : Int32)), .val (.int en), .val (.int s28_0), .val ((.ref a4)), .val (.int z166)] [.int z180, .int z166]
      refine wp_run ok hK (B := [(183, .if_icmp .ne 7, false), (186, .iconst 1, false), (187, .goto 4, false)]) (by decide +kernel) (ps := [Op.if_icmp.holds .ne z166 z180 = false]) (pc' := 191) (L' := #[.val (.int w), .val (.long f), .second, .val (.int ctl), .val (.int (3 : Int32)), .val (.int en), .val (.int s28_0), .val ((.ref a4)), .val (.int z166)]) (S' := [.int (1 : Int32)]) rfl ⟨(XT.ii_ne_f (own_law_7 w f ctl en s28_0 h_s28_0 j0 j1 j2 j3 j4 j5 j6 j7 z166 h_z166 z180 h_z180)), trivial⟩ ?_
      refine wp_retZ ok (t := .boolean) (by simp) (by decide +kernel) (by decide) (by decide) ?_
      exact congrArg (fun z => some (Value.int z)) (own_law_8 w f ctl en s28_0 h_s28_0 j0 j1 j2 j3 j4 j5 j6 j7 z166 h_z166 z180 h_z180)
  by_cases c1 : (ctl &&& (4 : Int32)) = (0 : Int32)
  · refine wp_run ok hK (B := [(20, .ifCond .eq 7, true), (27, .iconst 0, false)]) (by decide +kernel) (ps := [Op.ifCond.holds .eq (ctl &&& (4 : Int32)) = true]) (pc' := 28) (L' := #[.val (.int w), .val (.long f), .second, .val (.int ctl), .val (.int at_), .val (.int en), .unset, .unset, .unset]) (S' := [.int (0 : Int32)]) rfl ⟨(XT.i0_eq_t c1), trivial⟩ ?_
    exact J28_2 _ (by rw [if_pos c1])
  · refine wp_run ok hK (B := [(20, .ifCond .eq 7, false), (23, .iconst 1, false), (24, .goto 4, false)]) (by decide +kernel) (ps := [Op.ifCond.holds .eq (ctl &&& (4 : Int32)) = false]) (pc' := 28) (L' := #[.val (.int w), .val (.long f), .second, .val (.int ctl), .val (.int at_), .val (.int en), .unset, .unset, .unset]) (S' := [.int (1 : Int32)]) rfl ⟨(XT.i0_eq_f c1), trivial⟩ ?_
    exact J28_2 _ (by rw [if_neg c1])
set_option maxRecDepth 65536 in
set_option maxHeartbeats 40000000 in
theorem comes_1 {Post : Tables → Env → Array Value → State → Outcome → State → Prop} (hpost : ∀ tb e args s v u, (limb_1_1.after args s (.returned v) u = true ∧ limb_1_2.after args s (.returned v) u = true ∧ True) → FrameEnd s (.returned v) u (Jvm.fieldLocs frame_1_writes args s ++ Jvm.arrayLocs frame_1_arrays args s ++ Jvm.staticLocs frame_1_statics s) 16 128 → Post tb e args s (.returned v) u) :
    ArmFor flags0 classFile x code maxLocals ret World_1 tables_1 room_1 Calls_1 rest_1 Pre_1 Post := by
  intro l hfl _ _ p e ha hc hk s m args below hf hA hF happ hP
  obtain ⟨hcalls, hrest, hpre⟩ := hP
  obtain ⟨-, -, -, hnamed, -, -, -, hat⟩ := (Spec.applies_iff hf).mp happ
  obtain ⟨hg, hn⟩ := and_e (Cond.before_iff.mp (show (Jvm.Cond.and given_1 narrow_1).before args s = true from hpre))
  obtain ⟨h1, g0⟩ := and_e hg
  obtain ⟨f0, g1⟩ := and_e g0
  obtain ⟨f1, g2⟩ := and_e g1
  obtain ⟨w0, w1, w2, rfl⟩ : ∃ w0 w1 w2 : Value, args = #[w0, w1, w2] := by
    have hs : args.size = 3 := by simpa [Cond.value, given_1] using h1
    obtain ⟨L⟩ := args
    match L, hs with
    | [w0, w1, w2], _ => exact ⟨w0, w1, w2, rfl⟩
  have hw := fun d (hd : d ∈ tables_1) => atoms_spec (ws := Jvm.Cond.code x code maxLocals ret :: tables_1) hat d (List.mem_cons_of_mem _ hd)
  obtain ⟨i0, e0⟩ := is_v f0
  obtain rfl : w0 = (.int i0) := Option.some.inj e0
  obtain ⟨i1, e1⟩ := isL_v f1
  obtain rfl : w1 = (.long i1) := Option.some.inj e1
  obtain ⟨i2, e2⟩ := is_v g2
  obtain rfl : w2 = (.int i2) := Option.some.inj e2
  obtain ⟨n, o, h1, h2, h3, _, L, rfl, ⟨rfl, N⟩, hq⟩ := c_law l s _ hw i0 i1 i2 s.heap s.heap.size (Nat.le_refl _) p e ha hc hk s m _ below hf ((Spec.applies_iff_loose hf).mp happ).1 ⟨rfl, State.Warmed39.refl s, rfl⟩ trivial
  refine ⟨n, _, h1, h2, h3, hpost _ _ _ _ _ _ ⟨Cond.after_iff.mpr rfl, Cond.after_iff.mpr (eq_i res_at (Term.int_eval (1)) rfl), trivial⟩ ⟨hq.1, hq.2.1, (hq.2.2.sift fun y hy => Or.inr (N y hy)).mono (by decide) (by decide)⟩⟩
theorem main_1_1 : Claimed_1_1 := comes_1 fun _ _ _ _ _ _ h hF => ⟨h.1, hF⟩
theorem main_1_2 : Claimed_1_2 := comes_1 fun _ _ _ _ _ _ h hF => ⟨h.2.1, hF⟩
end Jvm.Pilot.@@N@@
namespace Jvm.Pilot.@@N@@
open Jvm Jvm.ClassFile Sem Op Lib Jvm.Free Jvm.Stand Jvm.Pilot.@@N@@.Jvm.D
/-! MADE BY PROGRAM (witnessworld.py) out of the Statement's table words and the real class files: 9 classes; the members and pool entries that the words name. The judged class is class 1, her method 1. -/
namespace start1
open Jvm.ClassFile
def u (s : String) : CpInfo := .utf8 (stringToUtf16 s)
/-- a pool by its gaps: so many unusable entries, then the entry; so many at the end -/
def gap : Nat → List CpInfo → List CpInfo
  | 0, r => r
  | n + 1, r => .unusable :: gap n r
def poolList (es : List (Nat × CpInfo)) (last : Nat) : List CpInfo := es.foldr (fun e r => gap e.1 (e.2 :: r)) (gap last [])
def pool (es : List (Nat × CpInfo)) (last : Nat) : Array CpInfo := ⟨poolList es last⟩
def fileOf (pool : Array CpInfo) (this : Nat) (attrs : Array Attribute := #[]) (ms : Array MethodInfo := #[]) (fl : Nat := 33) (sup : Nat := 0) (ifs : Array Nat := #[]) (fds : Array FieldInfo := #[]) : ClassFile where
  minorVersion := 0
  majorVersion := 65
  constantPool := pool
  accessFlags := fl
  thisClass := this
  superClass := sup
  interfaces := ifs
  fields := fds
  methods := ms
  attributes := attrs
def plain (name : String) (sup : Option ClassId) : Class where
  name := name
  kind := .ordinary
  loader := none
  accessFlags := 33
  super := sup
  interfaces := #[]
  cf := none
  fields := #[]
  methods := #[]
  instanceTypes := #[]
  staticTypes := #[]
  resolved := #[]
  callSites := []
  init := .initialized
  statics := none
  mirror := none

def pool0 : Array CpInfo := pool [(5, u "<init>"), (0, u "()V"), (1, .class_ 10), (1, u "java/lang/Object")] 113

def k0m0 : Method := { name := "<init>", desc := "()V", sig := { parameters := [], returnType := none }, accessFlags := 1, code := none }
/-- java/lang/Object -/
def k0 : Class := { plain "java/lang/Object" none with
  accessFlags := 33
  interfaces := #[]
  cf := some (fileOf pool0 8 #[] #[{ accessFlags := 1, nameIndex := 5, descriptorIndex := 6, attributes := #[] }] 33 0 #[] #[])
  fields := #[]
  methods := #[k0m0]
  instanceTypes := #[]
  staticTypes := #[]
  resolved := Array.replicate 124 none
  statics := none }

def pool1 : Array CpInfo := pool [(2, .class_ 4), (1, u "java/lang/Object"), (0, u "<init>"), (0, u "()V"), (0, .methodref 8 9), (0, .class_ 10), (0, .nameAndType 11 12), (0, u "com/example/stamp_to_key/stamptokey/Utf8"), (0, u "sequenceEnd"), (0, u "([BIIZ)I"), (0, .methodref 14 15), (0, .class_ 16), (0, .nameAndType 17 18), (0, u "com/example/stamp_to_key/stamptokey/Utf8SequenceEndPinLaw"), (0, u "expected"), (0, u "(IIIZ)I"), (0, .integer 65536), (0, .integer 1114111), (0, .integer 55296), (0, .integer 57343), (2, u "law"), (0, u "(IJI)Z")] 5

def k1m0 : Method := { name := "<init>", desc := "()V", sig := { parameters := [], returnType := none }, accessFlags := 2, code := none }
def k1c1 : Code := { maxStack := 5, maxLocals := 9, code := code, exceptionTable := #[], attributes := #[] }
def k1m1 : Method := { name := "law", desc := "(IJI)Z", sig := { parameters := [.int, .long, .int], returnType := some .boolean }, accessFlags := 9, code := some k1c1 }
def k1c2 : Code := { maxStack := 3, maxLocals := 11, code := method_3_code, exceptionTable := #[], attributes := #[] }
def k1m2 : Method := { name := "expected", desc := "(IIIZ)I", sig := { parameters := [.int, .int, .int, .boolean], returnType := some .int }, accessFlags := 10, code := some k1c2 }
/-- com/example/stamp_to_key/stamptokey/Utf8SequenceEndPinLaw -/
def k1 : Class := { plain "com/example/stamp_to_key/stamptokey/Utf8SequenceEndPinLaw" (some 0) with
  accessFlags := 49
  interfaces := #[]
  cf := some (fileOf pool1 14 #[] #[{ accessFlags := 2, nameIndex := 5, descriptorIndex := 6, attributes := #[] }, { accessFlags := 9, nameIndex := 25, descriptorIndex := 26, attributes := #[] }, { accessFlags := 10, nameIndex := 17, descriptorIndex := 18, attributes := #[] }] 49 2 #[] #[])
  fields := #[]
  methods := #[k1m0, k1m1, k1m2]
  instanceTypes := #[]
  staticTypes := #[]
  resolved := Array.replicate 32 none
  statics := none }

def pool2 : Array CpInfo := pool [(2, .class_ 4), (1, u "java/lang/Object"), (0, u "<init>"), (0, u "()V"), (31, .class_ 40), (1, u "com/example/stamp_to_key/stamptokey/Utf8"), (26, u "sequenceEnd"), (0, u "([BIIZ)I"), (36, u "NOT_UTF8"), (0, u "Ljava/lang/String;")] 19

def k2m0 : Method := { name := "<init>", desc := "()V", sig := { parameters := [], returnType := none }, accessFlags := 2, code := none }
def k2c1 : Code := { maxStack := 3, maxLocals := 11, code := prog_34_method_5_code, exceptionTable := #[], attributes := #[] }
def k2m1 : Method := { name := "sequenceEnd", desc := "([BIIZ)I", sig := { parameters := [(.array .byte), .int, .int, .boolean], returnType := some .int }, accessFlags := 8, code := some k2c1 }
/-- com/example/stamp_to_key/stamptokey/Utf8 -/
def k2 : Class := { plain "com/example/stamp_to_key/stamptokey/Utf8" (some 0) with
  accessFlags := 32
  interfaces := #[]
  cf := some (fileOf pool2 38 #[] #[{ accessFlags := 2, nameIndex := 5, descriptorIndex := 6, attributes := #[] }, { accessFlags := 8, nameIndex := 67, descriptorIndex := 68, attributes := #[] }] 32 2 #[] #[{ accessFlags := 24, nameIndex := 105, descriptorIndex := 106, attributes := #[] }])
  fields := #[{ name := "NOT_UTF8", type := (.object "java/lang/String"), accessFlags := 24, slot := 0, constantValue := 0 }]
  methods := #[k2m0, k2m1]
  instanceTypes := #[]
  staticTypes := #[(.object "java/lang/String")]
  resolved := Array.replicate 126 none
  statics := none }

def pool3 : Array CpInfo := pool [(1, u "java/lang/Cloneable"), (0, .class_ 1), (0, u "java/lang/Object"), (0, .class_ 3)] 3

/-- java/lang/Cloneable -/
def k3 : Class := { plain "java/lang/Cloneable" (some 0) with
  accessFlags := 1537
  interfaces := #[]
  cf := some (fileOf pool3 2 #[] #[] 1537 4 #[] #[])
  fields := #[]
  methods := #[]
  instanceTypes := #[]
  staticTypes := #[]
  resolved := Array.replicate 8 none
  statics := none }

def pool4 : Array CpInfo := pool [(1, u "java/io/Serializable"), (0, .class_ 1), (0, u "java/lang/Object"), (0, .class_ 3)] 3

/-- java/io/Serializable -/
def k4 : Class := { plain "java/io/Serializable" (some 0) with
  accessFlags := 1537
  interfaces := #[]
  cf := some (fileOf pool4 2 #[] #[] 1537 4 #[] #[])
  fields := #[]
  methods := #[]
  instanceTypes := #[]
  staticTypes := #[]
  resolved := Array.replicate 8 none
  statics := none }

/-- the primitive byte -/
def k5 : Class := { plain "byte" none with kind := .primitive 'B', accessFlags := 0x411 }
/-- [B -/
def k6 : Class := { plain "[B" (some 0) with kind := .array 5 .byte, interfaces := #[3, 4], accessFlags := 1041 }

/-- the primitive int -/
def k7 : Class := { plain "int" none with kind := .primitive 'I', accessFlags := 0x411 }
/-- [I -/
def k8 : Class := { plain "[I" (some 0) with kind := .array 7 .int, interfaces := #[3, 4], accessFlags := 1041 }

def heap : Heap := #[]
def classes : Array Class := #[k0, k1, k2, k3, k4, k5, k6, k7, k8]
def interned : List (Array UInt16 × Addr) := []
def slotsUsed : Nat := 0
def theMethod : MethodId := ⟨1, 1⟩
def args0 : Array Value := #[.int 5, .long 3, .int 5]
def aboutOver (below : List Frame) : State where
  vm := { classes := classes, interned := interned.toArray }
  heap := heap
  slotsUsed := slotsUsed
  threads := #[{ frames := .invoking theMethod args0 :: below }]
def below0 : List Frame := [.native { method := ⟨0, 0⟩, args := #[] }]
def about1 : State := aboutOver below0
def p0 : Program := .bare "" "" ""
def e0 : Env := launch0.env 0 0 0
theorem w_frames : about1.frames = Frame.invoking theMethod args0 :: below0 := rfl
set_option maxRecDepth 65536 in
theorem w_args : argsFit about1.vm theMethod args0 = true := by decide +kernel
set_option maxRecDepth 65536 in
theorem w_heap : heapFits about1 = true := by decide +kernel
set_option maxRecDepth 65536 in
theorem w_runnable : about1.curStatus? = some .runnable := by decide +kernel
set_option maxRecDepth 65536 in
theorem w_alone : about1.alone = true := by decide +kernel
set_option maxRecDepth 65536 in
theorem w_named : about1.methodNamed? x = some theMethod := by decide +kernel
set_option maxRecDepth 65536 in
theorem w_hears : about1.hears theMethod below0 = true := by decide +kernel
set_option maxRecDepth 65536 in
theorem w_ripe : about1.ripe theMethod args0 below0 = true := by decide +kernel
theorem w_running : about1.status = .running := rfl
set_option maxRecDepth 65536 in
theorem w_room : about1.hasRoom e0.platform room_1 = true :=
  launch0.hasRoom_least _ room_1 (by decide +kernel) (by decide +kernel) (by decide +kernel) (by decide +kernel) (by decide +kernel) (by decide +kernel)
theorem allAtoms_all (ts : List Jvm.Cond) (a : Array Jvm.Value) (st : Jvm.State) : (allAtoms ts).before a st = ts.all (fun c => c.before a st) := by
  induction ts with
  | nil => rfl
  | cons c t ih =>
    show (Jvm.Cond.and c (allAtoms t)).before a st = _
    rw [Jvm.Cond.before_and, ih, List.all_cons]
def words1 : List Jvm.Cond := Jvm.Cond.code x code maxLocals ret :: tables_1
/-- a 'code' word, met by the world's own term for the bytes: nothing is compared byte by byte -/
theorem code_word {y : MethodName} {bytes : ByteArray} {mx : Nat} {rt : Option FieldType} {a : Array Value} {s : State} {m : MethodId} {meth : Method} {c : Code} (h1 : s.methodNamed? y = some m) (h2 : s.vm.method? m = some meth) (h3 : meth.code = some c) (h4 : c.code = bytes)
    (h5 : (c.maxLocals == mx && c.exceptionTable.isEmpty && decide (c.maxStack ≤ mostOperands) && decide (meth.sig.returnType = rt) && !meth.locks && decide (parseMethodDescriptor y.desc = some meth.sig)) = true) : (Jvm.Cond.code y bytes mx rt).before a s = true := by
  simp only [Bool.and_eq_true, beq_iff_eq, Bool.not_eq_true', decide_eq_true_eq] at h5
  obtain ⟨⟨⟨⟨⟨g1, g2⟩, g3⟩, g4⟩, g5⟩, g6⟩ := h5
  simp [Cond.before, Cond.holds, Cond.value, h1, h2, h3, h4, g1, g2, g3, g4, g5, g6]
def isCode : Jvm.Cond → Bool
  | .code _ _ _ _ => true
  | _ => false
theorem all_split {L : List Jvm.Cond} {P : Jvm.Cond → Bool} (h1 : L.all (fun c => isCode c || P c) = true) (h2 : ∀ c ∈ L.filter isCode, P c = true) : L.all P = true := by
  refine List.all_eq_true.mpr fun c hc => ?_
  have h := List.all_eq_true.mp h1 c hc
  rcases Bool.eq_false_or_eq_true (isCode c) with hi | hi
  · exact h2 c (List.mem_filter.mpr ⟨hc, hi⟩)
  · simpa [hi] using h
set_option maxRecDepth 65536 in
theorem w_c0 : (Jvm.Cond.code x code maxLocals ret).before args0 about1 = true := code_word (m := ⟨1, 1⟩) (meth := k1m1) (c := k1c1) (by decide +kernel) rfl rfl rfl (by decide +kernel)
set_option maxRecDepth 65536 in
theorem w_c1 : (Jvm.Cond.code ({ cls := "com/example/stamp_to_key/stamptokey/Utf8", name := "sequenceEnd", desc := "([BIIZ)I" } : Jvm.MethodName) prog_34_method_5_code (11 : Nat) (Option.some Jvm.ClassFile.FieldType.int)).before args0 about1 = true := code_word (m := ⟨2, 1⟩) (meth := k2m1) (c := k2c1) (by decide +kernel) rfl rfl rfl (by decide +kernel)
set_option maxRecDepth 65536 in
theorem w_c2 : (Jvm.Cond.code ({ cls := "com/example/stamp_to_key/stamptokey/Utf8SequenceEndPinLaw", name := "expected", desc := "(IIIZ)I" } : Jvm.MethodName) method_3_code (11 : Nat) (Option.some Jvm.ClassFile.FieldType.int)).before args0 about1 = true := code_word (m := ⟨1, 2⟩) (meth := k1m2) (c := k1c2) (by decide +kernel) rfl rfl rfl (by decide +kernel)
def codes1 : List Jvm.Cond := [Jvm.Cond.code x code maxLocals ret, Jvm.Cond.code ({ cls := "com/example/stamp_to_key/stamptokey/Utf8", name := "sequenceEnd", desc := "([BIIZ)I" } : Jvm.MethodName) prog_34_method_5_code (11 : Nat) (Option.some Jvm.ClassFile.FieldType.int), Jvm.Cond.code ({ cls := "com/example/stamp_to_key/stamptokey/Utf8SequenceEndPinLaw", name := "expected", desc := "(IIIZ)I" } : Jvm.MethodName) method_3_code (11 : Nat) (Option.some Jvm.ClassFile.FieldType.int)]
set_option maxRecDepth 65536 in
theorem codes_eq : words1.filter isCode = codes1 := rfl
theorem w_codes : ∀ c ∈ words1.filter isCode, c.before args0 about1 = true := by
  rw [codes_eq]
  intro c hc
  simp only [codes1, List.mem_cons, List.not_mem_nil, or_false] at hc
  rcases hc with rfl | rfl | rfl
  · exact w_c0
  · exact w_c1
  · exact w_c2
set_option maxRecDepth 65536 in
theorem w_t1 : words1.all (fun c => isCode c || c.before args0 about1) = true := by decide +kernel
theorem w_tables : (allAtoms (Jvm.Cond.code x code maxLocals ret :: tables_1)).before args0 about1 = true := by
  rw [allAtoms_all]
  show words1.all (fun c => c.before args0 about1) = true
  refine all_split ?_ w_codes
  rw [w_t1]
set_option maxRecDepth 65536 in
theorem w_case : (Jvm.Cond.and given_1 narrow_1).before args0 about1 = true := by decide +kernel
theorem w_applies : (headSpec (Jvm.Cond.code x code maxLocals ret :: tables_1) room_1).applies x e0.platform about1 = true :=
  (Spec.applies_iff w_frames).mpr ⟨w_running, w_runnable, w_alone, w_named, w_hears, w_ripe, w_room, w_tables⟩
theorem atStart : AtStart classFile x code maxLocals ret World_1 tables_1 room_1 Calls_1 rest_1 Pre_1 launch0 p0 e0 about1 theMethod args0 below0 :=
  ⟨lists_1, trivial, launch0.admits_env _ _ _, launch0.least_env, fairChoices_fair.cas, fairChoices_fair.clock, w_frames, w_args, w_heap, w_applies, trivial, trivial, w_case⟩
end start1
theorem witness_1 : WitnessClaimed_1 := ⟨start1.p0, start1.e0, start1.about1, start1.theMethod, start1.args0, start1.below0, start1.atStart⟩
end Jvm.Pilot.@@N@@
